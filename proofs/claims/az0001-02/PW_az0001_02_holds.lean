import PyProof.Rows.All
import Wide.All
import OpenK.AllK
import Wide.FinOn
import PySem.Challenge.RW_az0001_02
set_option Elab.async false

set_option autoImplicit false
set_option maxRecDepth 100000
namespace Mine
open PySem PySem.W PySem.Calls PyProof.Rows

/-- abstract values: what is not an object that turns -/
inductive AV where
  | none | bool (b : Bool) | int (i : Int) | str (s : Str) | ref (a : Addr) | val (v : Value) | tup (vs : List AV)

/-- abstract objects -/
inductive AO where
  | list (vs : List AV)
  | dict (es : List (Str × AV))
  | inst (C dx : Addr)
  | set (ss : List Str)

noncomputable abbrev Store := Addr → Option AO
noncomputable abbrev Locs := Str → Option AV

noncomputable abbrev tupObj (xs : Array Value) : Obj := { cls := .type "tuple", data := .seq xs }
noncomputable abbrev listObj (xs : Array Value) (n : Nat) : Obj := { cls := .type "list", data := .seq xs n }
noncomputable abbrev dictObj (ds : Array DictEntry) (n : Nat) : Obj := { cls := .type "dict", data := .dict ds n }

mutual
inductive VR (h : Heap) : AV → Value → Prop
  | none : VR h .none .none
  | bool (b) : VR h (.bool b) (.bool b)
  | int (i t) : VR h (.int i) (.int i t)
  | str (s t) : VR h (.str s) (.str s t)
  | ref (a) : VR h (.ref a) (.ref a)
  | val (v) : VR h (.val v) v
  | tup {a xs vs} : h.get? a = some (tupObj xs) → VRs h vs xs.toList → VR h (.tup vs) (.ref a)
inductive VRs (h : Heap) : List AV → List Value → Prop
  | nil : VRs h [] []
  | cons {v x vs xs} : VR h v x → VRs h vs xs → VRs h (v :: vs) (x :: xs)
end

structure Cx where
  prog : Program
  w : World
  K : Frag
  mg : Str → Option Value
  mb : Str → Option Value
  h₀ : Heap
  /-- the places on the stack, the innermost first -/
  stk : List Env
noncomputable def Cx.on (c : Cx) (stk : List Env) : Cx := { c with stk := stk }

structure Cx.Ok (c : Cx) : Prop where
  X : c.K.In c.h₀
  g : c.h₀.Ns mainGlobals c.mg
  b : c.h₀.Ns builtinsNs c.mb
  lim : c.h₀.NoLimit
  bi : ∀ x : Str, x ≠ "__name__" → c.mb x = bootBuiltins x

/-- pairs by name -/
inductive KRs (h : Heap) : List (Str × AV) → List (Str × Value) → Prop
  | nil : KRs h [] []
  | cons {k v x vs xs} : VR h v x → KRs h vs xs → KRs h ((k, v) :: vs) ((k, x) :: xs)

/-- the set's object holds just these strs -/
structure SetIs (prog : Program) (w : World) (ss : List Str) (o : Obj) : Prop where
  cls : o.cls = .type "set"
  of : ∃ S : Str → Bool, Obj.SetObjOf (PySem.strKind prog w) o S ss.length ∧ ∀ x, S x = true ↔ x ∈ ss
  nd : ss.Nodup

inductive OR (prog : Program) (w : World) (h : Heap) : AO → Obj → Prop
  | list {vs xs n} : VRs h vs xs.toList → OR prog w h (.list vs) (listObj xs n)
  | dict {es kvs oc} : Obj.IsDictOf (PySem.strKind prog w) oc kvs → KRs h es kvs → OR prog w h (.dict es) oc
  | inst {C dx} : OR prog w h (.inst C dx) (instObj C dx)
  | set {ss o} : SetIs prog w ss o → OR prog w h (.set ss) o

/-- a place on the stack: its names lie in the heap, hidden -/
noncomputable def FrAt (c : Cx) (σ : Store) (h : Heap) (env : Env) : Prop := env.scope.kind ≠ .module ∧ ∃ L m, env.frame = some L ∧ h.Ns L m ∧ c.h₀.get? L = none ∧ σ L = none

structure Good (c : Cx) (σ : Store) (h : Heap) : Prop where
  keep : ∀ b o, c.h₀.get? b = some o → h.get? b = some o
  obj : ∀ a o, σ a = some o → ∃ oc, h.get? a = some oc ∧ OR c.prog c.w h o oc
  new : ∀ a, σ a ≠ none → c.h₀.get? a = none
  stat : ∃ o, c.h₀.get? cStatics = some o
  low : σ sysModules = none
  fr : ∀ env ∈ c.stk, FrAt c σ h env

/-- the place of a def's body (or of a comprehension's): its name, scope, function, code; the room left; whether no exception is being handled -/
structure Fn where
  qual : Str
  scope : Scope
  func : Option Addr
  cd : Value
  d : Nat
  hf : Bool
/-- where its locals lie -/
structure Pl where
  L : Addr
  cells : List (Str × Addr)
  fr : Option Addr
noncomputable def Fn.env (f : Fn) (p : Pl) : Env := { scope := f.scope, locals := p.L, globals := mainGlobals, cells := p.cells, qual := f.qual, func := f.func, code := f.cd, frame := p.fr, builtins := builtinsNs }
noncomputable def Fn.kind (f : Fn) (x : Str) : Option NameKind := f.scope.names.lookup x

structure Here (c : Cx) (f : Fn) (ℓ : Locs) (σ : Store) (p : Pl) (h : Heap) : Prop where
  good : Good c σ h
  isFn : f.scope.kind = .function
  ns : ∃ m, h.Ns p.L m ∧ ∀ x v, ℓ x = some v → f.kind x = some .local → ∃ v', m x = some v' ∧ VR h v v'
  cell : ∀ x v, ℓ x = some v → f.kind x = some .cell ∨ f.kind x = some .free → ∃ a v', p.cells.lookup x = some a ∧ h.IsCell a (some v') ∧ VR h v v'
  cells : ∀ x a, p.cells.lookup x = some a → ∃ v, h.IsCell a v
  inj : ∀ x y a, p.cells.lookup x = some a → p.cells.lookup y = some a → x = y
  has : ∀ x, f.kind x = some .cell → ∃ a, p.cells.lookup x = some a
  off : ∀ a, a = p.L ∨ (∃ x, p.cells.lookup x = some a) → σ a = none ∧ c.h₀.get? a = none
  top : f.func.isSome = true → ∃ outer L, c.stk = f.env p :: outer ∧ p.fr = some L

/-- a comprehension's captured names are none of its own -/
noncomputable def Own (f : Fn) (p : Pl) (a : Addr) : Prop := a = p.L ∨ ∃ x, (f.func.isSome = true ∧ f.kind x = some .cell) ∧ p.cells.lookup x = some a

/-- kept; a dict's slots may turn -/
noncomputable def Kp (o : Obj) (x : Option Obj) : Prop := ∃ sl, x = some { o with slots := sl } ∧ ((∀ es ep, o.data ≠ .dict es ep) → sl = o.slots)
theorem Kp.same {o : Obj} {x : Option Obj} (e : x = some o) : Kp o x := ⟨o.slots, e, fun _ => rfl⟩
theorem Kp.exact {o : Obj} {x : Option Obj} (k : Kp o x) (n : ∀ es ep, o.data ≠ .dict es ep) : x = some o := by
  obtain ⟨sl, e, q⟩ := k; rw [e, q n]
theorem Kp.alive {o : Obj} {x : Option Obj} (k : Kp o x) : x ≠ none := by obtain ⟨sl, e, _⟩ := k; rw [e]; simp
theorem Kp.trans {o : Obj} {x y : Option Obj} (k : Kp o x) (q : ∀ o', x = some o' → Kp o' y) : Kp o y := by
  obtain ⟨sl, e, n⟩ := k
  obtain ⟨sl', e', n'⟩ := q _ e
  exact ⟨sl', e', fun h => (n' h).trans (n h)⟩
theorem Ns.kp {h h' : Heap} {a : Addr} {m : Str → Option Value} (n : h.Ns a m) (k : ∀ o, h.get? a = some o → Kp o (h'.get? a)) : h'.Ns a m := by
  obtain ⟨o, es, ep, ho, hd, r⟩ := n
  obtain ⟨sl, e, _⟩ := k o ho
  exact ⟨_, es, ep, e, hd, r⟩

structure Step (σ σ' : Store) (O : Addr → Prop) (h h' : Heap) : Prop where
  keep : ∀ a o, h.get? a = some o → σ a = none → ¬ O a → Kp o (h'.get? a)
  fresh : ∀ a, σ a = none → σ' a ≠ none → h.get? a = none
  stay : ∀ a, σ a ≠ none → σ' a ≠ none

noncomputable abbrev StepC (σ σ' : Store) (h h' : Heap) : Prop := Step σ σ' (fun _ => False) h h'

noncomputable def Store.set (σ : Store) (a : Addr) (o : AO) : Store := fun b => if b = a then some o else σ b
noncomputable def Locs.set (ℓ : Locs) (x : Str) (v : AV) : Locs := fun y => if y = x then some v else ℓ y

theorem Store.set_same (σ : Store) (a : Addr) (o : AO) : σ.set a o a = some o := if_pos rfl
theorem Store.set_ne {σ : Store} {a b : Addr} {o : AO} (h : b ≠ a) : σ.set a o b = σ b := if_neg h
theorem Store.set_old {σ : Store} {a b : Addr} {o ob : AO} (hb : σ b = some ob) (ha : σ a = none) : σ.set a o b = some ob := by
  rw [Store.set_ne (by rintro rfl; rw [ha] at hb; cases hb)]; exact hb
theorem Store.set_some {σ : Store} {a b : Addr} {o : AO} (h : σ a ≠ none) : σ.set b o a ≠ none := by
  unfold Store.set; split
  · simp
  · exact h
theorem Locs.set_same (ℓ : Locs) (x : Str) (v : AV) : ℓ.set x v x = some v := if_pos rfl
theorem Locs.set_ne {ℓ : Locs} {x y : Str} {v : AV} (h : y ≠ x) : ℓ.set x v y = ℓ y := if_neg h

section
variable {c : Cx} {f : Fn} {p : Pl} {σ σ' σ'' : Store} {ℓ ℓ' ℓ'' : Locs} {L : Addr} {h h' h'' : Heap}

noncomputable def TK (h h' : Heap) : Prop := ∀ a xs, h.get? a = some (tupObj xs) → h'.get? a = some (tupObj xs)
theorem TK.refl : TK h h := fun _ _ e => e
theorem TK.trans (x : TK h h') (y : TK h' h'') : TK h h'' := fun _ _ e => y _ _ (x _ _ e)
theorem TK.push (o : Obj) : TK h (h.push o) := fun _ _ e => Heap.get?_push_of_some _ e

mutual
theorem VR.mono {v : AV} {x : Value} (k : TK h h') : VR h v x → VR h' v x
  | .none => .none
  | .bool b => .bool b
  | .int i t => .int i t
  | .str s t => .str s t
  | .ref a => .ref a
  | .val v => .val v
  | .tup e r => .tup (k _ _ e) (VRs.mono k r)
theorem VRs.mono {vs : List AV} {xs : List Value} (k : TK h h') : VRs h vs xs → VRs h' vs xs
  | .nil => .nil
  | .cons a r => .cons (VR.mono k a) (VRs.mono k r)
end

theorem VRs.length {vs : List AV} {xs : List Value} : VRs h vs xs → vs.length = xs.length
  | .nil => rfl
  | .cons _ r => by rw [List.length_cons, List.length_cons, r.length]
theorem VRs.get {vs : List AV} {xs : List Value} : VRs h vs xs → ∀ {i : Nat} {v : AV}, vs[i]? = some v → ∃ x, xs[i]? = some x ∧ VR h v x
  | .nil, _, _, e => by simp at e
  | .cons a _, 0, _, e => by simp at e; subst e; exact ⟨_, rfl, a⟩
  | .cons _ r, i + 1, _, e => by simpa using r.get (i := i) (by simpa using e)
theorem VRs.append {vs ws : List AV} {xs ys : List Value} : VRs h vs xs → VRs h ws ys → VRs h (vs ++ ws) (xs ++ ys)
  | .nil, s => s
  | .cons a r, s => .cons a (r.append s)
theorem VRs.one {v : AV} {x : Value} (a : VR h v x) : VRs h [v] [x] := .cons a .nil
theorem VRs.take {vs : List AV} {xs : List Value} : VRs h vs xs → ∀ n, VRs h (vs.take n) (xs.take n)
  | .nil, n => by simp; exact .nil
  | .cons _ _, 0 => .nil
  | .cons a r, n + 1 => .cons a (r.take n)
theorem VRs.drop {vs : List AV} {xs : List Value} : VRs h vs xs → ∀ n, VRs h (vs.drop n) (xs.drop n)
  | .nil, n => by simp; exact .nil
  | .cons a r, 0 => .cons a r
  | .cons _ r, n + 1 => r.drop n
theorem VRs.reverse {vs : List AV} {xs : List Value} : VRs h vs xs → VRs h vs.reverse xs.reverse
  | .nil => .nil
  | .cons a r => by rw [List.reverse_cons, List.reverse_cons]; exact r.reverse.append (.one a)

theorem KRs.mono {es : List (Str × AV)} {ds : List (Str × Value)} (k : TK h h') : KRs h es ds → KRs h' es ds
  | .nil => .nil
  | .cons a r => .cons (a.mono k) (r.mono k)
theorem KRs.names {es : List (Str × AV)} {ds : List (Str × Value)} : KRs h es ds → es.map (·.1) = ds.map (·.1)
  | .nil => rfl
  | .cons _ r => by rw [List.map_cons, List.map_cons, r.names]
theorem KRs.length {es : List (Str × AV)} {ds : List (Str × Value)} : KRs h es ds → es.length = ds.length
  | .nil => rfl
  | .cons _ r => by rw [List.length_cons, List.length_cons, r.length]
theorem OR.mono {prog : Program} {w : World} {o : AO} {oc : Obj} (k : TK h h') : OR prog w h o oc → OR prog w h' o oc
  | .list r => .list (r.mono k)
  | .dict i r => .dict i (r.mono k)
  | .inst => .inst
  | .set r => .set r
theorem OR.not_tupCls {prog : Program} {w : World} {o : AO} {oc : Obj} (r : OR prog w h o oc) : oc.cls ≠ .type "tuple" := by
  cases r with
  | set s => rw [s.cls]; decide
  | dict i _ => obtain ⟨es, ep, x, _⟩ := i; rw [x.1]; decide
  | _ => simp
theorem OR.not_tup {prog : Program} {w : World} {o : AO} {xs : Array Value} (r : OR prog w h o (tupObj xs)) : False := r.not_tupCls rfl
theorem OR.notFreed {prog : Program} {w : World} {o : AO} {oc : Obj} (r : OR prog w h o oc) : oc.isFreed = false := by
  cases r with
  | set s => obtain ⟨S, ⟨_, es, ep, t, hd, _⟩, _⟩ := s.of; obtain ⟨a, b, d, e⟩ := oc; cases hd; rfl
  | dict i _ => obtain ⟨es, ep, x, hd, _⟩ := i; exact Obj.isFreed_of_dict hd
  | _ => rfl

theorem Good.tup_off (g : Good c σ h) {a : Addr} {xs : Array Value} (e : h.get? a = some (tupObj xs)) : σ a = none := by
  cases q : σ a with
  | none => rfl
  | some o =>
    obtain ⟨oc, e', r⟩ := g.obj a o q
    rw [e] at e'; cases e'
    exact r.not_tup.elim
theorem Here.tup_ne (H : Here c f ℓ σ p h) {a : Addr} {xs : Array Value} (e : h.get? a = some (tupObj xs)) : ¬ Own f p a := by
  rintro (rfl | ⟨x, _, hx⟩)
  · obtain ⟨m, ⟨o, es, ep, ho, hd, _⟩, _⟩ := H.ns
    rw [e] at ho; cases ho; cases hd
  · obtain ⟨v, o, ho, hd⟩ := H.cells x a hx
    rw [e] at ho; cases ho; cases hd
theorem Here.own_alive (H : Here c f ℓ σ p h) {a : Addr} (o : Own f p a) : h.get? a ≠ none := by
  rcases o with rfl | ⟨x, _, hx⟩
  · obtain ⟨m, ⟨o, es, ep, ho, hd, _⟩, _⟩ := H.ns
    rw [ho]; simp
  · obtain ⟨v, o, ho, hd⟩ := H.cells x a hx
    rw [ho]; simp
theorem Step.tk (H : Here c f ℓ σ p h) (s : Step σ σ' (Own f p) h h') : TK h h' := fun _ _ e => (s.keep _ _ e (H.good.tup_off e) (H.tup_ne e)).exact fun _ _ q => by cases q
theorem Step.tkC (g : Good c σ h) (s : StepC σ σ' h h') : TK h h' := fun _ _ e => (s.keep _ _ e (g.tup_off e) id).exact fun _ _ q => by cases q
theorem Step.ofC {O : Addr → Prop} (s : StepC σ σ' h h') : Step σ σ' O h h' := ⟨fun a o e q _ => s.keep a o e q id, s.fresh, s.stay⟩

theorem Step.refl {O : Addr → Prop} : Step σ σ O h h := ⟨fun _ _ e _ _ => .same e, fun _ a b => absurd a b, fun _ e => e⟩
theorem Step.trans' {O : Addr → Prop} (al : ∀ a, O a → h'.get? a ≠ none) (x : Step σ σ' O h h') (y : Step σ' σ'' O h' h'') : Step σ σ'' O h h'' := by
  refine ⟨fun a o e q n => ?_, fun a q n => ?_, fun a e => y.stay a (x.stay a e)⟩
  · refine (x.keep a o e q n).trans fun o' e' => y.keep a o' e' ?_ n
    cases z : σ' a with
    | none => rfl
    | some _ => have := x.fresh a q (by rw [z]; simp); rw [e] at this; cases this
  · cases z : σ' a with
    | some _ => exact x.fresh a q (by rw [z]; simp)
    | none =>
      have e := y.fresh a z n
      cases w : h.get? a with
      | none => rfl
      | some o =>
        have : ¬ O a := fun q => al a q e
        exact absurd e (x.keep a o w q this).alive
theorem Step.trans (H : Here c f ℓ σ' p h') (x : Step σ σ' (Own f p) h h') (y : Step σ' σ'' (Own f p) h' h'') : Step σ σ'' (Own f p) h h'' := x.trans' (fun _ o => H.own_alive o) y
theorem Step.transC (x : StepC σ σ' h h') (y : StepC σ' σ'' h' h'') : StepC σ σ'' h h'' := x.trans' (fun _ o => o.elim) y

/-- what turns apart from the place keeps it -/
theorem Here.stepO {O : Addr → Prop} (H : Here c f ℓ σ p h) (s : Step σ σ' O h h') (k : TK h h') (g : Good c σ' h') (no : ∀ a, a = p.L ∨ (∃ x, p.cells.lookup x = some a) → ¬ O a) : Here c f ℓ σ' p h' := by
  have keep : ∀ a, a = p.L ∨ (∃ x, p.cells.lookup x = some a) → ∀ o, h.get? a = some o → Kp o (h'.get? a) := fun a q o e => s.keep a o e (H.off a q).1 (no a q)
  have alive : ∀ a, a = p.L ∨ (∃ x, p.cells.lookup x = some a) → h.get? a ≠ none := by
    rintro a (rfl | ⟨x, hx⟩)
    · obtain ⟨m, ⟨o, es, ep, ho, hd, _⟩, _⟩ := H.ns
      rw [ho]; simp
    · obtain ⟨v, o, ho, hd⟩ := H.cells x a hx
      rw [ho]; simp
  refine ⟨g, H.isFn, ?_, fun x v hx hk => ?_, fun x a hx => ?_, H.inj, H.has, fun a q => ⟨?_, (H.off a q).2⟩, H.top⟩
  · obtain ⟨m, n, r⟩ := H.ns
    refine ⟨m, Ns.kp n (keep _ (.inl rfl)), fun x v hv hk => ?_⟩
    obtain ⟨v', a, b⟩ := r x v hv hk
    exact ⟨v', a, b.mono k⟩
  · obtain ⟨a, v', e, ⟨o, ho, hd⟩, r⟩ := H.cell x v hx hk
    exact ⟨a, v', e, ⟨o, (keep a (.inr ⟨x, e⟩) o ho).exact (fun _ _ q => by rw [hd] at q; cases q), hd⟩, r.mono k⟩
  · obtain ⟨v, o, ho, hd⟩ := H.cells x a hx
    exact ⟨v, o, (keep a (.inr ⟨x, hx⟩) o ho).exact (fun _ _ q => by rw [hd] at q; cases q), hd⟩
  · cases z : σ' a with
    | none => rfl
    | some _ => exact absurd (s.fresh a (H.off a q).1 (by rw [z]; simp)) (alive a q)
/-- a call keeps the caller's place -/
theorem Here.call (H : Here c f ℓ σ p h) (s : StepC σ σ' h h') (g : Good c σ' h') : Here c f ℓ σ' p h' := H.stepO s (s.tkC H.good) g fun _ _ => id

theorem Good.lt (g : Good c σ h) {a : Addr} (e : σ a ≠ none) : a < h.objs.size := by
  cases q : σ a with
  | none => exact absurd q e
  | some o => obtain ⟨oc, x, _⟩ := g.obj a o q; exact Heap.lt_size x
theorem Good.size_off (g : Good c σ h) : σ h.objs.size = none := by
  cases q : σ h.objs.size with
  | none => rfl
  | some o => exact absurd (g.lt (a := h.objs.size) (by rw [q]; simp)) (Nat.lt_irrefl _)
theorem Good.base_size (g : Good c σ h) : c.h₀.get? h.objs.size = none := by
  cases q : c.h₀.get? h.objs.size with
  | none => rfl
  | some o => exact absurd (Heap.lt_size (g.keep _ _ q)) (Nat.lt_irrefl _)

theorem Good.size_low (g : Good c σ h) : h.objs.size ≠ sysModules := by
  obtain ⟨o, e⟩ := g.stat
  have := Heap.lt_size (g.keep _ _ e)
  exact Nat.ne_of_gt (Nat.lt_trans (by decide) this)

theorem FrAt.turn {env : Env} (x : FrAt c σ h env) (n : ∀ L m, env.frame = some L → h.Ns L m → c.h₀.get? L = none → σ L = none → ∃ m', h'.Ns L m') (st : ∀ L, h.get? L ≠ none → σ L = none → σ' L = none) : FrAt c σ' h' env := by
  obtain ⟨k, L, m, e, ns, h0, s0⟩ := x
  obtain ⟨m', ns'⟩ := n L m e ns h0 s0
  refine ⟨k, L, m', e, ns', h0, st L ?_ s0⟩
  obtain ⟨o, _, _, ho, _⟩ := ns
  rw [ho]; simp
theorem Good.frExt (g : Good c σ h) (k : ∀ b o, h.get? b = some o → h'.get? b = some o) (st : ∀ L, h.get? L ≠ none → σ L = none → σ' L = none) : ∀ env ∈ c.stk, FrAt c σ' h' env :=
  fun env he => (g.fr env he).turn (fun L m _ ns _ _ => ⟨m, ns.at' (k L)⟩) st
theorem Good.notFrame (g : Good c σ h) {a : Addr} (e : h.get? a = none) : ∀ env ∈ c.stk, env.frame ≠ some a := fun env he q => by
  obtain ⟨_, L, m, hf, ⟨o, _, _, ho, _⟩, _⟩ := g.fr env he
  rw [hf] at q; cases q
  rw [ho] at e; cases e

/-- a hidden object is made -/
theorem Good.push (g : Good c σ h) (o : Obj) : Good c σ (h.push o) :=
  ⟨fun b x e => Heap.get?_push_of_some _ (g.keep b x e), fun a x e => let ⟨oc, p, r⟩ := g.obj a x e; ⟨oc, Heap.get?_push_of_some _ p, r.mono (TK.push o)⟩, g.new, g.stat, g.low, g.frExt (fun _ _ e => Heap.get?_push_of_some _ e) fun _ _ e => e⟩
theorem Step.push (o : Obj) : StepC σ σ h (h.push o) := ⟨fun _ _ e _ _ => .same (Heap.get?_push_of_some _ e), fun _ a b => absurd a b, fun _ e => e⟩
theorem Here.push (H : Here c f ℓ σ p h) (o : Obj) : Here c f ℓ σ p (h.push o) := H.call (Step.push o) (H.good.push o)

/-- an object of the store is made -/
theorem Good.alloc (g : Good c σ h) {o : AO} {oc : Obj} (r : OR c.prog c.w (h.push oc) o oc) : Good c (σ.set h.objs.size o) (h.push oc) := by
  refine ⟨fun b x e => Heap.get?_push_of_some _ (g.keep b x e), fun a x e => ?_, fun a e => ?_, g.stat, (Store.set_ne g.size_low.symm).trans g.low, g.frExt (fun _ _ e => Heap.get?_push_of_some _ e) fun L al e => ?_⟩
  · by_cases q : a = h.objs.size
    · subst q
      rw [Store.set_same] at e; cases e
      exact ⟨oc, Heap.get?_push_size _ r.notFreed, r⟩
    · rw [Store.set_ne q] at e
      obtain ⟨oc', p, r'⟩ := g.obj a x e
      exact ⟨oc', Heap.get?_push_of_some _ p, r'.mono (TK.push oc)⟩
  · by_cases q : a = h.objs.size
    · subst q; exact g.base_size
    · rw [Store.set_ne q] at e; exact g.new a e
  · rw [Store.set_ne]
    · exact e
    · rintro rfl
      cases z : h.get? h.objs.size with
      | none => exact al z
      | some o => exact absurd (Heap.lt_size z) (Nat.lt_irrefl _)
theorem Step.alloc {o : AO} {oc : Obj} : StepC σ (σ.set h.objs.size o) h (h.push oc) := by
  refine ⟨fun _ _ e _ _ => .same (Heap.get?_push_of_some _ e), fun a q n => ?_, fun a e => Store.set_some e⟩
  by_cases e : a = h.objs.size
  · subst e
    cases z : h.get? h.objs.size with
    | none => rfl
    | some o => exact absurd (Heap.lt_size z) (Nat.lt_irrefl _)
  · rw [Store.set_ne e] at n; exact absurd q n
theorem Here.alloc (H : Here c f ℓ σ p h) {o : AO} {oc : Obj} (r : OR c.prog c.w (h.push oc) o oc) : Here c f ℓ (σ.set h.objs.size o) p (h.push oc) :=
  H.call Step.alloc (H.good.alloc r)

/-- an object of the store turns -/
theorem TK.upd (g : Good c σ h) {a : Addr} {o : AO} (ha : σ a = some o) (hs : Heap.SameBut a h h') : TK h h' := fun b xs e =>
  (hs.2 b (by rintro rfl; rw [g.tup_off e] at ha; cases ha)).trans e
theorem Good.upd (g : Good c σ h) {a : Addr} {o o' : AO} {oc' : Obj} (ha : σ a = some o) (hs : Heap.SameBut a h h') (he : h'.get? a = some oc') (r : OR c.prog c.w h' o' oc') : Good c (σ.set a o') h' := by
  have k : TK h h' := TK.upd g ha hs
  refine ⟨fun b x e => ?_, fun b x e => ?_, fun b e => ?_, g.stat, (Store.set_ne (by rintro rfl; rw [g.low] at ha; cases ha)).trans g.low, fun env he => (g.fr env he).turn (fun L m _ ns _ s0 => ⟨m, ns.at' fun o e => (hs.2 L (by rintro rfl; rw [ha] at s0; cases s0)).trans e⟩) fun L _ s0 => (Store.set_ne (by rintro rfl; rw [ha] at s0; cases s0)).trans s0⟩
  · have : b ≠ a := by rintro rfl; have := g.new b (by rw [ha]; simp); rw [e] at this; cases this
    exact (hs.2 b this).trans (g.keep b x e)
  · by_cases q : b = a
    · subst q; rw [Store.set_same] at e; cases e; exact ⟨oc', he, r⟩
    · rw [Store.set_ne q] at e
      obtain ⟨oc, p, r'⟩ := g.obj b x e
      exact ⟨oc, (hs.2 b q).trans p, r'.mono k⟩
  · by_cases q : b = a
    · subst q; exact g.new b (by rw [ha]; simp)
    · rw [Store.set_ne q] at e; exact g.new b e
theorem Step.upd {a : Addr} {o o' : AO} (ha : σ a = some o) (hs : Heap.SameBut a h h') : StepC σ (σ.set a o') h h' := by
  refine ⟨fun b x e q _ => .same ((hs.2 b (by rintro rfl; rw [ha] at q; cases q)).trans e), fun b q n => ?_, fun a e => Store.set_some e⟩
  by_cases e : b = a
  · subst e; rw [ha] at q; cases q
  · rw [Store.set_ne e] at n; exact absurd q n
theorem Here.upd (H : Here c f ℓ σ p h) {a : Addr} {o o' : AO} {oc' : Obj} (ha : σ a = some o) (hs : Heap.SameBut a h h') (he : h'.get? a = some oc') (r : OR c.prog c.w h' o' oc') : Here c f ℓ (σ.set a o') p h' :=
  H.call (Step.upd ha hs) (H.good.upd ha hs he r)

/-- a name is stored -/
theorem Here.stored {h' : Heap} (H : Here c f ℓ σ p h) {x : Str} {v : AV} {v' : Value} {m : Str → Option Value} (hk : f.kind x = some .local) (hn : h'.Ns p.L fun y => if y = x then some v' else m y) (hs : Heap.SameBut p.L h h')
    (hm : ∀ y v, ℓ y = some v → f.kind y = some .local → ∃ v', m y = some v' ∧ VR h v v') (hv : VR h v v') : Here c f (ℓ.set x v) σ p h' ∧ Step σ σ (Own f p) h h' := by
  have st : Step σ σ (Own f p) h h' := ⟨fun a o e _ n => .same ((hs.2 a fun q => n (.inl q)).trans e), fun _ a b => absurd a b, fun _ e => e⟩
  have k := st.tk H
  have ne : ∀ x a, p.cells.lookup x = some a → a ≠ p.L := by
    rintro x a hx rfl
    obtain ⟨v, o, ho, hd⟩ := H.cells x _ hx
    obtain ⟨m, ⟨o', es, ep, ho', hd', _⟩, _⟩ := H.ns
    rw [ho] at ho'; cases ho'; rw [hd] at hd'; cases hd'
  refine ⟨⟨⟨fun b o e => ?_, fun a o e => ?_, H.good.new, H.good.stat, H.good.low, fun env he => (H.good.fr env he).turn (fun L m' _ ns _ _ => by
      by_cases q : L = p.L
      · exact ⟨_, q ▸ hn⟩
      · exact ⟨m', ns.at' fun o e => (hs.2 L q).trans e⟩) fun _ _ e => e⟩, H.isFn, ⟨_, hn, fun y u e hk' => ?_⟩, fun y u e hk' => ?_, fun y a hy => ?_, H.inj, H.has, H.off, H.top⟩, st⟩
  · have : b ≠ p.L := by rintro rfl; have := (H.off p.L (.inl rfl)).2; rw [e] at this; cases this
    exact (hs.2 b this).trans (H.good.keep b o e)
  · obtain ⟨oc, q, r⟩ := H.good.obj a o e
    have : a ≠ p.L := by rintro rfl; have := (H.off p.L (.inl rfl)).1; rw [e] at this; cases this
    exact ⟨oc, (hs.2 a this).trans q, r.mono k⟩
  · by_cases q : y = x
    · subst q
      rw [Locs.set_same] at e; cases e
      exact ⟨v', if_pos rfl, hv.mono k⟩
    · rw [Locs.set_ne q] at e
      obtain ⟨u', a, b⟩ := hm y u e hk'
      exact ⟨u', (if_neg q).trans a, b.mono k⟩
  · have q : y ≠ x := by rintro rfl; rw [hk] at hk'; rcases hk' with h | h <;> cases h
    rw [Locs.set_ne q] at e
    obtain ⟨a, v', e', ic, r⟩ := H.cell y u e hk'
    exact ⟨a, v', e', ic.sameBut hs (ne y a e'), r.mono k⟩
  · obtain ⟨v, ic⟩ := H.cells y a hy
    exact ⟨v, ic.sameBut hs (ne y a hy)⟩
/-- a captured name is stored -/
theorem Here.storedC {h' : Heap} (H : Here c f ℓ σ p h) {x : Str} {v : AV} {v' : Value} {a : Addr} (hfn : f.func.isSome = true) (hk : f.kind x = some .cell) (ha : p.cells.lookup x = some a) (hc : h'.IsCell a (some v')) (hs : Heap.SameBut a h h')
    (hv : VR h v v') : Here c f (ℓ.set x v) σ p h' ∧ Step σ σ (Own f p) h h' := by
  have st : Step σ σ (Own f p) h h' := ⟨fun b o e _ n => .same ((hs.2 b fun q => n (.inr ⟨x, ⟨hfn, hk⟩, q ▸ ha⟩)).trans e), fun _ a b => absurd a b, fun _ e => e⟩
  have k := st.tk H
  have ne : p.L ≠ a := by
    rintro rfl
    obtain ⟨v, o, ho, hd⟩ := H.cells x _ ha
    obtain ⟨m, ⟨o', es, ep, ho', hd', _⟩, _⟩ := H.ns
    rw [ho] at ho'; cases ho'; rw [hd] at hd'; cases hd'
  have oa := H.off a (.inr ⟨x, ha⟩)
  refine ⟨⟨⟨fun b o e => ?_, fun b o e => ?_, H.good.new, H.good.stat, H.good.low, fun env he => (H.good.fr env he).turn (fun L m' _ ns _ _ => by
      refine ⟨m', ns.at' fun o e => (hs.2 L ?_).trans e⟩
      rintro rfl
      obtain ⟨v, o', ho, hd⟩ := H.cells x _ ha
      obtain ⟨o'', es, ep, ho', hd', _⟩ := ns
      rw [ho] at ho'; cases ho'; rw [hd] at hd'; cases hd') fun _ _ e => e⟩, H.isFn, ?_, fun y u e hk' => ?_, fun y b hy => ?_, H.inj, H.has, H.off, H.top⟩, st⟩
  · have : b ≠ a := by rintro rfl; rw [e] at oa; cases oa.2
    exact (hs.2 b this).trans (H.good.keep b o e)
  · obtain ⟨oc, q, r⟩ := H.good.obj b o e
    have : b ≠ a := by rintro rfl; rw [e] at oa; cases oa.1
    exact ⟨oc, (hs.2 b this).trans q, r.mono k⟩
  · obtain ⟨m, n, r⟩ := H.ns
    refine ⟨m, n.sameBut hs ne, fun y u e hk' => ?_⟩
    have q : y ≠ x := by rintro rfl; rw [hk] at hk'; cases hk'
    rw [Locs.set_ne q] at e
    obtain ⟨u', b, z⟩ := r y u e hk'
    exact ⟨u', b, z.mono k⟩
  · by_cases q : y = x
    · subst q
      rw [Locs.set_same] at e; cases e
      exact ⟨a, v', ha, hc, hv.mono k⟩
    · rw [Locs.set_ne q] at e
      obtain ⟨b, u', e', ic, r⟩ := H.cell y u e hk'
      have : b ≠ a := by rintro rfl; exact q (H.inj _ _ _ e' ha)
      exact ⟨b, u', e', ic.sameBut hs this, r.mono k⟩
  · by_cases q : b = a
    · subst q; exact ⟨_, hc⟩
    · obtain ⟨v, ic⟩ := H.cells y b hy
      exact ⟨v, ic.sameBut hs q⟩
end

structure Room (c : Cx) (d : Nat) (hf : Bool) (A : Around) : Prop where
  frames : A.frames = some c.stk
  depth : A.depth + 5 * d ≤ 900
  units : A.units + 60 * d ≤ 9000
  hand : hf = true → A.handled = none

inductive AF where
  | next | brk | cont | ret (v : AV)
inductive FR (h : Heap) : AF → Flow → Prop
  | next : FR h .next .next
  | brk : FR h .brk .brk
  | cont : FR h .cont .cont
  | ret {v x} : VR h v x → FR h (.ret v) (.ret x)

/-- a tree over abstract arguments, run in a frame -/
noncomputable def Tr (c : Cx) (f : Fn) (ℓ : Locs) (σ : Store) {α β : Type} (as : List AV) (t : Env → List Value → Sem α) (R : Heap → β → α → Prop) (Φ : β → Store → Prop) : Prop :=
  ∀ (A : Around) (p : Pl) (s : Shared) (xs : List Value) (Q : α → Shared → Prop) (E : Value → Shared → Prop), c.Ok → Room c f.d f.hf A → Here c f ℓ σ p s.heap → VRs s.heap as xs →
    (∀ b a σ' h' tk, Φ b σ' → Here c f ℓ σ' p h' → Step σ σ' (Own f p) s.heap h' → R h' b a → Q a { s with heap := h', toks := tk }) →
    wpAny (model c.prog c.w) A (t (f.env p) xs) Q E s

/-- an expression -/
noncomputable def Ev (c : Cx) (f : Fn) (ℓ : Locs) (σ : Store) (e : Expr) (Φ : AV → Store → Prop) : Prop := Tr c f ℓ σ [] (fun env _ => eval e env) VR Φ
/-- a test -/
noncomputable def Te (c : Cx) (f : Fn) (ℓ : Locs) (σ : Store) (e : Expr) (Φ : Bool → Store → Prop) : Prop := Tr c f ℓ σ [] (fun env _ => isTrue e env (eval e env)) (fun _ b b' => b = b') Φ
/-- an operation upon values -/
noncomputable def Op (c : Cx) (f : Fn) (ℓ : Locs) (σ : Store) (as : List AV) (t : List Value → Sem Value) (Φ : AV → Store → Prop) : Prop := Tr c f ℓ σ as (fun _ xs => t xs) VR Φ
noncomputable def OpB (c : Cx) (f : Fn) (ℓ : Locs) (σ : Store) (as : List AV) (t : List Value → Sem Bool) (Φ : Bool → Store → Prop) : Prop := Tr c f ℓ σ as (fun _ xs => t xs) (fun _ b b' => b = b') Φ
noncomputable def OpU (c : Cx) (f : Fn) (ℓ : Locs) (σ : Store) (as : List AV) (t : List Value → Sem Unit) (Φ : Store → Prop) : Prop := Tr c f ℓ σ as (fun _ xs => t xs) (fun _ (_ : Unit) _ => True) (fun _ => Φ)

/-- statements -/
noncomputable def StW (c : Cx) (f : Fn) (ℓ : Locs) (σ : Store) (t : Env → Sem Flow) (Φ : AF → Locs → Store → Prop) : Prop :=
  ∀ (A : Around) (p : Pl) (s : Shared) (Q : Flow → Shared → Prop) (E : Value → Shared → Prop), c.Ok → Room c f.d f.hf A → Here c f ℓ σ p s.heap →
    (∀ b a ℓ' σ' h' tk, Φ b ℓ' σ' → Here c f ℓ' σ' p h' → Step σ σ' (Own f p) s.heap h' → FR h' b a → Q a { s with heap := h', toks := tk }) →
    wpAny (model c.prog c.w) A (t (f.env p)) Q E s
noncomputable def Ss (c : Cx) (f : Fn) (ℓ : Locs) (σ : Store) (b : List Stmt) (Φ : AF → Locs → Store → Prop) : Prop := StW c f ℓ σ (execs b) Φ
noncomputable def St (c : Cx) (f : Fn) (ℓ : Locs) (σ : Store) (b : Stmt) (Φ : AF → Locs → Store → Prop) : Prop := StW c f ℓ σ (exec b) Φ
/-- a target -/
noncomputable def As (c : Cx) (f : Fn) (ℓ : Locs) (σ : Store) (e : Expr) (v : AV) (Φ : Locs → Store → Prop) : Prop :=
  ∀ (A : Around) (p : Pl) (s : Shared) (x : Value) (Q : Unit → Shared → Prop) (E : Value → Shared → Prop), c.Ok → Room c f.d f.hf A → Here c f ℓ σ p s.heap → VR s.heap v x →
    (∀ ℓ' σ' h' tk, Φ ℓ' σ' → Here c f ℓ' σ' p h' → Step σ σ' (Own f p) s.heap h' → Q () { s with heap := h', toks := tk }) →
    wpAny (model c.prog c.w) A (assign e (f.env p) x) Q E s

/-- a call -/
noncomputable def Ca (c : Cx) (d : Nat) (hf : Bool) (σ : Store) (g : AV) (as : List AV) (kw : List (Str × AV)) (Φ : AV → Store → Prop) : Prop :=
  ∀ (A : Around) (s : Shared) (g' : Value) (xs : List Value) (ks : List (Str × Value)) (R : Result → Shared → Prop), c.Ok → Room c d hf A → Good c σ s.heap → VR s.heap g g' → VRs s.heap as xs → KRs s.heap kw ks →
    (∀ v x σ' h' tk, Φ v σ' → Good c σ' h' → StepC σ σ' s.heap h' → VR h' v x → R (.ok (.ret x)) { s with heap := h', toks := tk }) →
    codeAny (model c.prog c.w) A (.call g' ⟨xs, ks⟩) R s
/-- a call, as an operation -/
noncomputable def Cw (c : Cx) (d : Nat) (hf : Bool) (σ : Store) (g : AV) (as : List AV) (kw : List (Str × AV)) (Φ : AV → Store → Prop) : Prop :=
  ∀ (A : Around) (s : Shared) (g' : Value) (xs : List Value) (ks : List (Str × Value)) (Q : Value → Shared → Prop) (E : Value → Shared → Prop), c.Ok → Room c d hf A → Good c σ s.heap → VR s.heap g g' → VRs s.heap as xs → KRs s.heap kw ks →
    (∀ v x σ' h' tk, Φ v σ' → Good c σ' h' → StepC σ σ' s.heap h' → VR h' v x → Q x { s with heap := h', toks := tk }) →
    wpAny (model c.prog c.w) A (call g' xs ks) Q E s
theorem Ca.cw {c : Cx} {d : Nat} {hf : Bool} {σ : Store} {g : AV} {as : List AV} {kw : List (Str × AV)} {Φ : AV → Store → Prop} (h : Ca c d hf σ g as kw Φ) : Cw c d hf σ g as kw Φ :=
  fun A s g' xs ks _ _ ok rm G vg va vk k => wpAny_call (h A s g' xs ks _ ok rm G vg va vk k)
end Mine

set_option autoImplicit false
set_option maxRecDepth 100000
namespace Mine
open PySem PySem.W PySem.Calls PyProof.Rows

noncomputable def ap1 {α : Type} (t : Value → Sem α) : List Value → Sem α
  | [a] => t a
  | _ => Sem.unsupported "ap"
noncomputable def ap2 {α : Type} (t : Value → Value → Sem α) : List Value → Sem α
  | [a, b] => t a b
  | _ => Sem.unsupported "ap"
noncomputable def ap3 {α : Type} (t : Value → Value → Value → Sem α) : List Value → Sem α
  | [a, b, d] => t a b d
  | _ => Sem.unsupported "ap"

section
variable {c : Cx} {f : Fn} {ℓ : Locs} {σ : Store}

theorem Tr.mono {α β : Type} {as : List AV} {t : Env → List Value → Sem α} {R : Heap → β → α → Prop} {Φ Ψ : β → Store → Prop} (h : Tr c f ℓ σ as t R Φ) (k : ∀ b σ', Φ b σ' → Ψ b σ') : Tr c f ℓ σ as t R Ψ :=
  fun A p s xs Q E ok rm H vs q => h A p s xs Q E ok rm H vs fun b a σ' h' tk x => q b a σ' h' tk (k b σ' x)
theorem StW.mono {t : Env → Sem Flow} {Φ Ψ : AF → Locs → Store → Prop} (h : StW c f ℓ σ t Φ) (k : ∀ b ℓ' σ', Φ b ℓ' σ' → Ψ b ℓ' σ') : StW c f ℓ σ t Ψ :=
  fun A p s Q E ok rm H q => h A p s Q E ok rm H fun b a ℓ' σ' h' tk x => q b a ℓ' σ' h' tk (k b ℓ' σ' x)
theorem Ca.mono {d : Nat} {hf : Bool} {g : AV} {as : List AV} {kw : List (Str × AV)} {Φ Ψ : AV → Store → Prop} (h : Ca c d hf σ g as kw Φ) (k : ∀ b σ', Φ b σ' → Ψ b σ') : Ca c d hf σ g as kw Ψ :=
  fun A s g' xs ks R ok rm H a b e q => h A s g' xs ks R ok rm H a b e fun v x σ' h' tk z => q v x σ' h' tk (k v σ' z)
theorem Cw.mono {d : Nat} {hf : Bool} {g : AV} {as : List AV} {kw : List (Str × AV)} {Φ Ψ : AV → Store → Prop} (h : Cw c d hf σ g as kw Φ) (k : ∀ b σ', Φ b σ' → Ψ b σ') : Cw c d hf σ g as kw Ψ :=
  fun A s g' xs ks Q E ok rm H a b e q => h A s g' xs ks Q E ok rm H a b e fun v x σ' h' tk z => q v x σ' h' tk (k v σ' z)
theorem Room.le {d d' : Nat} {hf : Bool} {A : Around} (r : Room c d hf A) (h : d' ≤ d) : Room c d' hf A := ⟨r.frames, by have := r.depth; omega, by have := r.units; omega, r.hand⟩
theorem Room.free {d : Nat} {hf hf' : Bool} {A : Around} (r : Room c d hf A) (h : hf' = true → hf = true) : Room c d hf' A := ⟨r.frames, r.depth, r.units, fun e => r.hand (h e)⟩

/-! ## names, constants -/
theorem ev_local {x : Str} {pos : Pos} {v : AV} {Φ : AV → Store → Prop} (hk : f.kind x = some .local) (h : ℓ x = some v) (q : Φ v σ) (hd : (x == ("__debug__" : Str)) = false := by decide) : Ev c f ℓ σ (.Name x pos) Φ := by
  intro A p s xs Q E ok rm H _ k
  obtain ⟨m, n, r⟩ := H.ns
  obtain ⟨v', e, vr⟩ := r x v h hk
  exact wpAny_Name (wpAny_loadName_local (env := f.env p) H.isFn hk n e (k v v' σ s.heap s.toks q H .refl vr)) hd
theorem ev_cell {x : Str} {pos : Pos} {v : AV} {Φ : AV → Store → Prop} (hk : f.kind x = some .cell) (h : ℓ x = some v) (q : Φ v σ) (hd : (x == ("__debug__" : Str)) = false := by decide) : Ev c f ℓ σ (.Name x pos) Φ := by
  intro A p s xs Q E ok rm H _ k
  obtain ⟨a, v', e, ic, vr⟩ := H.cell x v h (.inl hk)
  exact wpAny_Name (wpAny_loadName_cell (env := f.env p) H.isFn hk e ic (k v v' σ s.heap s.toks q H .refl vr)) hd
theorem ev_free {x : Str} {pos : Pos} {v : AV} {Φ : AV → Store → Prop} (hk : f.kind x = some .free) (h : ℓ x = some v) (q : Φ v σ) (hd : (x == ("__debug__" : Str)) = false := by decide) (hn : (x == ("__classdict__" : Str)) = false := by decide) : Ev c f ℓ σ (.Name x pos) Φ := by
  intro A p s xs Q E ok rm H _ k
  obtain ⟨a, v', e, ic, vr⟩ := H.cell x v h (.inr hk)
  exact wpAny_Name (wpAny_loadName_free (env := f.env p) H.isFn hk e ic (k v v' σ s.heap s.toks q H .refl vr) hn) hd
theorem ev_glob {x : Str} {pos : Pos} {v : Value} {av : AV} {Φ : AV → Store → Prop} (hk : f.kind x = some .globalImplicit) (e : nsIn c.K mainGlobals x = some (some v)) (vr : ∀ h, (∀ b o, c.h₀.get? b = some o → h.get? b = some o) → VR h av v) (q : Φ av σ)
    (hd : (x == ("__debug__" : Str)) = false := by decide) : Ev c f ℓ σ (.Name x pos) Φ := by
  intro A p s xs Q E ok rm H _ k
  exact Name_function_global (env := f.env p) H.isFn hk (loadGlobal_global (ok.g.keeps H.good.keep) (mg_of ok.X ok.g e) (k av v σ s.heap s.toks q H .refl (vr _ H.good.keep))) hd
theorem ev_builtin {x : Str} {pos : Pos} {v : Value} {Φ : AV → Store → Prop} (hk : f.kind x = some .globalImplicit) (e : nsIn c.K mainGlobals x = some none) (hv : bootBuiltins x = some v) (q : Φ (.val v) σ)
    (hn : x ≠ "__name__" := by decide) (hd : (x == ("__debug__" : Str)) = false := by decide) : Ev c f ℓ σ (.Name x pos) Φ := by
  intro A p s xs Q E ok rm H _ k
  exact Name_function_global (env := f.env p) H.isFn hk (loadGlobal_builtin (ok.g.keeps H.good.keep) (mg_none_of ok.X ok.g e) (ok.b.keeps H.good.keep) ((ok.bi x hn).trans hv) (k (.val v) v σ s.heap s.toks q H .refl (.val v))) hd
theorem ev_int {i : Int} {k : Nat} {pos : Pos} {Φ : AV → Store → Prop} (q : Φ (.int i) σ) : Ev c f ℓ σ (.Constant (.int i) k pos) Φ := by
  intro A p s xs Q E ok rm H _ kk
  exact wpAny_Constant_int (kk _ _ σ s.heap _ q H .refl (.int i _))
theorem ev_str {x : Str} {k : Nat} {pos : Pos} {Φ : AV → Store → Prop} (q : Φ (.str x) σ) : Ev c f ℓ σ (.Constant (.str x) k pos) Φ := by
  intro A p s xs Q E ok rm H _ kk
  exact wpAny_Constant_str (kk _ _ σ s.heap _ q H .refl (.str x _))
theorem ev_none {k : Nat} {pos : Pos} {Φ : AV → Store → Prop} (q : Φ .none σ) : Ev c f ℓ σ (.Constant .none k pos) Φ := by
  intro A p s xs Q E ok rm H _ kk
  exact wpAny_Constant_none (kk _ _ σ s.heap s.toks q H .refl .none)
theorem ev_bool {b : Bool} {k : Nat} {pos : Pos} {Φ : AV → Store → Prop} (q : Φ (.bool b) σ) : Ev c f ℓ σ (.Constant (.bool b) k pos) Φ := by
  intro A p s xs Q E ok rm H _ kk
  exact wpAny_Constant_bool (kk _ _ σ s.heap s.toks q H .refl (.bool b))

/-! ## operators -/
theorem ev_bin {l r : Expr} {op : Operator} {pos : Pos} {Φ : AV → Store → Prop} (h : Ev c f ℓ σ l fun a σ₁ => Ev c f ℓ σ₁ r fun b σ₂ => Op c f ℓ σ₂ [a, b] (ap2 (binaryOp op)) Φ) : Ev c f ℓ σ (.BinOp l op r pos) Φ := by
  intro A p s xs Q E ok rm H _ k
  refine wpAny_BinOp (h A p s [] _ E ok rm H .nil fun a a' σ₁ h₁ t₁ q₁ H₁ s₁ va => ?_)
  refine q₁ A p _ [] _ E ok rm H₁ .nil fun b b' σ₂ h₂ t₂ q₂ H₂ s₂ vb => ?_
  exact q₂ A p _ [a', b'] Q E ok rm H₂ (.cons (va.mono (s₂.tk H₁)) (.one vb)) fun v v' σ₃ h₃ t₃ q₃ H₃ s₃ vv => k v v' σ₃ h₃ t₃ q₃ H₃ ((s₁.trans H₁ s₂).trans H₂ s₃) vv
theorem ev_cmp {l r : Expr} {op : CmpOp} {pos : Pos} {Φ : AV → Store → Prop} (h : Ev c f ℓ σ l fun a σ₁ => Ev c f ℓ σ₁ r fun b σ₂ => Op c f ℓ σ₂ [a, b] (ap2 (compareOp op)) Φ)
    (hm : behindInMarks op r = false := by with_unfolding_all rfl) : Ev c f ℓ σ (.Compare l [op] [r] pos) Φ := by
  intro A p s xs Q E ok rm H _ k
  refine wpAny_Compare1 (h A p s [] _ E ok rm H .nil fun a a' σ₁ h₁ t₁ q₁ H₁ s₁ va => ?_) hm
  refine q₁ A p _ [] _ E ok rm H₁ .nil fun b b' σ₂ h₂ t₂ q₂ H₂ s₂ vb => ?_
  exact q₂ A p _ [a', b'] Q E ok rm H₂ (.cons (va.mono (s₂.tk H₁)) (.one vb)) fun v v' σ₃ h₃ t₃ q₃ H₃ s₃ vv => k v v' σ₃ h₃ t₃ q₃ H₃ ((s₁.trans H₁ s₂).trans H₂ s₃) vv
theorem te_cmp {l r : Expr} {op : CmpOp} {pos : Pos} {Φ : Bool → Store → Prop} (h : Ev c f ℓ σ l fun a σ₁ => Ev c f ℓ σ₁ r fun b σ₂ => Op c f ℓ σ₂ [a, b] (ap2 (compareOp op)) fun v σ₃ => ∃ b, v = .bool b ∧ Φ b σ₃)
    (hm : behindInMarks op r = false := by with_unfolding_all rfl) : Te c f ℓ σ (.Compare l [op] [r] pos) Φ := by
  intro A p s xs Q E ok rm H _ k
  refine wpAny_isTrue_Compare1 (h A p s [] _ E ok rm H .nil fun a a' σ₁ h₁ t₁ q₁ H₁ s₁ va => ?_) hm
  refine q₁ A p _ [] _ E ok rm H₁ .nil fun b b' σ₂ h₂ t₂ q₂ H₂ s₂ vb => ?_
  refine q₂ A p _ [a', b'] _ E ok rm H₂ (.cons (va.mono (s₂.tk H₁)) (.one vb)) fun v v' σ₃ h₃ t₃ q₃ H₃ s₃ vv => ?_
  obtain ⟨z, rfl, q₄⟩ := q₃
  cases vv with
  | bool => exact wpAny_truthy_bool (k z z σ₃ h₃ t₃ q₄ H₃ ((s₁.trans H₁ s₂).trans H₂ s₃) rfl)
theorem te_val {e : Expr} {Φ : Bool → Store → Prop} (h : Ev c f ℓ σ e fun v σ₁ => OpB c f ℓ σ₁ [v] (ap1 truthy) Φ)
    (he : ∀ env, isTrue e env (eval e env) = (do let v ← eval e env; standAt e.pos; holding [v] (truthy v)) := by intro _; rfl) : Te c f ℓ σ e Φ := by
  intro A p s xs Q E ok rm H _ k
  refine wpAny_isTrue_value (h A p s [] _ E ok rm H .nil fun a a' σ₁ h₁ t₁ q₁ H₁ s₁ va => ?_) (he _)
  exact q₁ A p _ [a'] Q E ok rm H₁ (.one va) fun b b' σ₂ h₂ t₂ q₂ H₂ s₂ vb => k b b' σ₂ h₂ t₂ q₂ H₂ (s₁.trans H₁ s₂) vb
theorem te_not {e : Expr} {pos : Pos} {Φ : Bool → Store → Prop} (h : Te c f ℓ σ e fun b σ₁ => Φ (!b) σ₁) : Te c f ℓ σ (.UnaryOp .Not e pos) Φ := by
  intro A p s xs Q E ok rm H _ k
  exact wpAny_isTrue_Not (h A p s [] _ E ok rm H .nil fun a a' σ₁ h₁ t₁ q₁ H₁ s₁ va => k (!a) (!a') σ₁ h₁ t₁ q₁ H₁ s₁ (by rw [va]))
/-- all of them, in order -/
noncomputable def TeAll (c : Cx) (f : Fn) (ℓ : Locs) : List Expr → Store → (Bool → Store → Prop) → Prop
  | [], σ, Φ => Φ true σ
  | e :: es, σ, Φ => Te c f ℓ σ e fun b σ₁ => if b = true then TeAll c f ℓ es σ₁ Φ else Φ false σ₁
noncomputable def TeAny (c : Cx) (f : Fn) (ℓ : Locs) : List Expr → Store → (Bool → Store → Prop) → Prop
  | [], σ, Φ => Φ false σ
  | e :: es, σ, Φ => Te c f ℓ σ e fun b σ₁ => if b = true then Φ true σ₁ else TeAny c f ℓ es σ₁ Φ
theorem te_and {es : List Expr} {pos : Pos} {Φ : Bool → Store → Prop} (h : TeAll c f ℓ es σ Φ) : Te c f ℓ σ (.BoolOp .And es pos) Φ := by
  intro A p s xs Q E ok rm H v0 k
  clear v0
  refine wpAny_isTrue_BoolOp ?_
  induction es generalizing σ s with
  | nil => exact wpAny_allTrue_And_nil (k true true σ s.heap s.toks h H .refl rfl)
  | cons e es ih =>
    refine wpAny_allTrue_And_cons (h A p s [] _ E ok rm H .nil fun a a' σ₁ h₁ t₁ q₁ H₁ s₁ va => ?_)
    subst va
    cases a with
    | false => exact k false false σ₁ h₁ t₁ q₁ H₁ s₁ rfl
    | true => exact ih q₁ { s with heap := h₁, toks := t₁ } H₁ fun b b' σ₂ h₂ t₂ q₂ H₂ s₂ vb => k b b' σ₂ h₂ t₂ q₂ H₂ (s₁.trans H₁ s₂) vb
theorem te_or {es : List Expr} {pos : Pos} {Φ : Bool → Store → Prop} (h : TeAny c f ℓ es σ Φ) : Te c f ℓ σ (.BoolOp .Or es pos) Φ := by
  intro A p s xs Q E ok rm H v0 k
  clear v0
  refine wpAny_isTrue_BoolOp ?_
  induction es generalizing σ s with
  | nil => exact wpAny_allTrue_Or_nil (k false false σ s.heap s.toks h H .refl rfl)
  | cons e es ih =>
    refine wpAny_allTrue_Or_cons (h A p s [] _ E ok rm H .nil fun a a' σ₁ h₁ t₁ q₁ H₁ s₁ va => ?_)
    subst va
    cases a with
    | true => exact k true true σ₁ h₁ t₁ q₁ H₁ s₁ rfl
    | false => exact ih q₁ { s with heap := h₁, toks := t₁ } H₁ fun b b' σ₂ h₂ t₂ q₂ H₂ s₂ vb => k b b' σ₂ h₂ t₂ q₂ H₂ (s₁.trans H₁ s₂) vb
theorem ev_ifexp {t a b : Expr} {pos : Pos} {Φ : AV → Store → Prop} (h : Te c f ℓ σ t fun z σ₁ => if z = true then Ev c f ℓ σ₁ a Φ else Ev c f ℓ σ₁ b Φ) : Ev c f ℓ σ (.IfExp t a b pos) Φ := by
  intro A p s xs Q E ok rm H _ k
  refine wpAny_IfExp (h A p s [] _ E ok rm H .nil fun z z' σ₁ h₁ t₁ q₁ H₁ s₁ vz => ?_)
  subst vz
  cases z <;> exact q₁ A p _ [] Q E ok rm H₁ .nil fun b b' σ₂ h₂ t₂ q₂ H₂ s₂ vb => k b b' σ₂ h₂ t₂ q₂ H₂ (s₁.trans H₁ s₂) vb
theorem ev_and2 {a b : Expr} {pos : Pos} {Φ : AV → Store → Prop} (h : Ev c f ℓ σ a fun v σ₁ => OpB c f ℓ σ₁ [v] (ap1 truthy) fun z σ₂ => if z = true then Ev c f ℓ σ₂ b Φ else Φ v σ₂) : Ev c f ℓ σ (.BoolOp .And [a, b] pos) Φ := by
  intro A p s xs Q E ok rm H _ k
  refine wpAny_And2 (h A p s [] _ E ok rm H .nil fun v v' σ₁ h₁ t₁ q₁ H₁ s₁ vv => ?_)
  refine q₁ A p _ [v'] _ E ok rm H₁ (.one vv) fun z z' σ₂ h₂ t₂ q₂ H₂ s₂ vz => ?_
  subst vz
  cases z with
  | false => exact k v v' σ₂ h₂ t₂ q₂ H₂ (s₁.trans H₁ s₂) (vv.mono (s₂.tk H₁))
  | true => exact q₂ A p _ [] Q E ok rm H₂ .nil fun b b' σ₃ h₃ t₃ q₃ H₃ s₃ vb => k b b' σ₃ h₃ t₃ q₃ H₃ ((s₁.trans H₁ s₂).trans H₂ s₃) vb
theorem ev_or2 {a b : Expr} {pos : Pos} {Φ : AV → Store → Prop} (h : Ev c f ℓ σ a fun v σ₁ => OpB c f ℓ σ₁ [v] (ap1 truthy) fun z σ₂ => if z = true then Φ v σ₂ else Ev c f ℓ σ₂ b Φ) : Ev c f ℓ σ (.BoolOp .Or [a, b] pos) Φ := by
  intro A p s xs Q E ok rm H _ k
  refine wpAny_Or2 (h A p s [] _ E ok rm H .nil fun v v' σ₁ h₁ t₁ q₁ H₁ s₁ vv => ?_)
  refine q₁ A p _ [v'] _ E ok rm H₁ (.one vv) fun z z' σ₂ h₂ t₂ q₂ H₂ s₂ vz => ?_
  subst vz
  cases z with
  | true => exact k v v' σ₂ h₂ t₂ q₂ H₂ (s₁.trans H₁ s₂) (vv.mono (s₂.tk H₁))
  | false => exact q₂ A p _ [] Q E ok rm H₂ .nil fun b b' σ₃ h₃ t₃ q₃ H₃ s₃ vb => k b b' σ₃ h₃ t₃ q₃ H₃ ((s₁.trans H₁ s₂).trans H₂ s₃) vb
theorem ev_not {e : Expr} {pos : Pos} {Φ : AV → Store → Prop} (h : Ev c f ℓ σ e fun v σ₁ => OpB c f ℓ σ₁ [v] (ap1 truthy) fun z σ₂ => Φ (.bool (!z)) σ₂) : Ev c f ℓ σ (.UnaryOp .Not e pos) Φ := by
  intro A p s xs Q E ok rm H _ k
  refine wpAny_UnaryOp (h A p s [] _ E ok rm H .nil fun v v' σ₁ h₁ t₁ q₁ H₁ s₁ vv => not_value ?_)
  refine q₁ A p _ [v'] _ E ok rm H₁ (.one vv) fun z z' σ₂ h₂ t₂ q₂ H₂ s₂ vz => ?_
  subst vz
  exact k _ _ σ₂ h₂ t₂ q₂ H₂ (s₁.trans H₁ s₂) (.bool _)
theorem ev_un {op : UnaryOp} {e : Expr} {pos : Pos} {Φ : AV → Store → Prop} (h : Ev c f ℓ σ e fun v σ₁ => Op c f ℓ σ₁ [v] (ap1 (unaryOp op)) Φ) : Ev c f ℓ σ (.UnaryOp op e pos) Φ := by
  intro A p s xs Q E ok rm H _ k
  refine wpAny_UnaryOp (h A p s [] _ E ok rm H .nil fun v v' σ₁ h₁ t₁ q₁ H₁ s₁ vv => ?_)
  exact q₁ A p _ [v'] Q E ok rm H₁ (.one vv) fun z z' σ₂ h₂ t₂ q₂ H₂ s₂ vz => k z z' σ₂ h₂ t₂ q₂ H₂ (s₁.trans H₁ s₂) vz
theorem ev_attr {e : Expr} {attr : Str} {pos : Pos} {Φ : AV → Store → Prop} (h : Ev c f ℓ σ e fun v σ₁ => Op c f ℓ σ₁ [v] (ap1 fun o => getAttr o attr true) Φ)
    (he : ∀ env, eval (.Attribute e attr pos) env = (do
      let o ← eval e env
      standAt pos.atName
      let r ← holding [o] (getAttr o attr true)
      letTemporaryGo e o r
      pure r) := by intro _; with_unfolding_all rfl) : Ev c f ℓ σ (.Attribute e attr pos) Φ := by
  intro A p s xs Q E ok rm H _ k
  refine Attribute_any_ (h A p s [] _ E ok rm H .nil fun v v' σ₁ h₁ t₁ q₁ H₁ s₁ vv => ?_) (he _)
  exact q₁ A p _ [v'] Q E ok rm H₁ (.one vv) fun z z' σ₂ h₂ t₂ q₂ H₂ s₂ vz => k z z' σ₂ h₂ t₂ q₂ H₂ (s₁.trans H₁ s₂) vz
theorem ev_sub {e i : Expr} {pos : Pos} {Φ : AV → Store → Prop} (h : Ev c f ℓ σ e fun v σ₁ => Ev c f ℓ σ₁ i fun w σ₂ => Op c f ℓ σ₂ [v, w] (ap2 (subscriptTail e i)) Φ) : Ev c f ℓ σ (.Subscript e i pos) Φ := by
  intro A p s xs Q E ok rm H _ k
  refine Subscript_ (h A p s [] _ E ok rm H .nil fun v v' σ₁ h₁ t₁ q₁ H₁ s₁ vv => ?_)
  refine q₁ A p _ [] _ E ok rm H₁ .nil fun b b' σ₂ h₂ t₂ q₂ H₂ s₂ vb => ?_
  exact q₂ A p _ [v', b'] Q E ok rm H₂ (.cons (vv.mono (s₂.tk H₁)) (.one vb)) fun z z' σ₃ h₃ t₃ q₃ H₃ s₃ vz => k z z' σ₃ h₃ t₃ q₃ H₃ ((s₁.trans H₁ s₂).trans H₂ s₃) vz

/-! ## displays -/
/-- expressions, in order -/
noncomputable def EvL (c : Cx) (f : Fn) (ℓ : Locs) : List Expr → Store → (List AV → Store → Prop) → Prop
  | [], σ, Φ => Φ [] σ
  | e :: es, σ, Φ => Ev c f ℓ σ e fun v σ₁ => EvL c f ℓ es σ₁ fun vs σ₂ => Φ (v :: vs) σ₂
noncomputable def plainE : Expr → Bool
  | .Starred .. => false
  | _ => true
theorem starEach_plain {e : Expr} {es : List Expr} {env : Env} (h : plainE e = true) : starEach (e :: es) env = (false, eval e env) :: starEach es env := by
  cases e <;> first | rfl | cases h
theorem evl_run {es : List Expr} {pos : Pos} {Φ : List AV → Store → Prop} (hp : es.all plainE = true) (h : EvL c f ℓ es σ Φ) : Tr c f ℓ σ [] (fun env _ => spliced (backTo pos (starEach es env))) VRs Φ := by
  intro A p s xs Q E ok rm H v0 k
  clear v0
  induction es generalizing σ s Q Φ with
  | nil => exact args_nil (k [] [] σ s.heap s.toks h H .refl .nil)
  | cons e es ih =>
    rw [List.all_cons, Bool.and_eq_true] at hp
    refine args_cons (h A p s [] _ E ok rm H .nil fun v v' σ₁ h₁ t₁ q₁ H₁ s₁ vv => ?_) (starEach_plain hp.1)
    exact ih hp.2 q₁ { s with heap := h₁, toks := t₁ } _ H₁ fun vs vs' σ₂ h₂ t₂ q₂ H₂ s₂ vz => k (v :: vs) (v' :: vs') σ₂ h₂ t₂ q₂ H₂ (s₁.trans H₁ s₂) (.cons (vv.mono (s₂.tk H₁)) vz)
theorem ev_tuple {es : List Expr} {n : Nat} {pos : Pos} {Φ : AV → Store → Prop} (h : EvL c f ℓ es σ fun vs σ₁ => vs.length ≤ 1000 ∧ Φ (.tup vs) σ₁) (hp : es.all plainE = true := by rfl) : Ev c f ℓ σ (.Tuple es n pos) Φ := by
  intro A p s xs Q E ok rm H _ k
  refine Tuple_ (evl_run hp h A p s [] _ E ok rm H .nil fun vs vs' σ₁ h₁ t₁ q₁ H₁ s₁ vv => ?_)
  refine wpAny_newObj_type ?_ (by show vs'.toArray.size ≤ sizeLine; rw [List.size_toArray, ← vv.length, sizeLine_eq]; have := q₁.1; omega)
  have H₂ := H₁.push (tupObj vs'.toArray)
  refine k _ _ σ₁ _ _ q₁.2 H₂ (s₁.trans H₁ (.ofC (.push _))) (.tup (xs := vs'.toArray) (Heap.get?_push_size _ rfl) ?_)
  simpa using vv.mono (TK.push _)
theorem ev_list {es : List Expr} {pos : Pos} {Φ : AV → Store → Prop} (h : EvL c f ℓ es σ fun vs σ₁ => vs.length ≤ 1000 ∧ ∀ a, σ₁ a = none → Φ (.ref a) (σ₁.set a (.list vs))) (hp : es.all plainE = true := by rfl) : Ev c f ℓ σ (.List es pos) Φ := by
  intro A p s xs Q E ok rm H _ k
  refine List_ (evl_run hp h A p s [] _ E ok rm H .nil fun vs vs' σ₁ h₁ t₁ q₁ H₁ s₁ vv => ?_)
  refine wpAny_newObj_type ?_ (by show vs'.toArray.size ≤ sizeLine; rw [List.size_toArray, ← vv.length, sizeLine_eq]; have := q₁.1; omega)
  have r : OR c.prog c.w (h₁.push (listObj vs'.toArray 0)) (.list vs) (listObj vs'.toArray 0) := .list (by simpa using vv.mono (TK.push _))
  have H₂ := H₁.alloc r
  exact k _ _ _ _ _ (q₁.2 _ H₁.good.size_off) H₂ (s₁.trans H₁ (.ofC .alloc)) (.ref _)
end
end Mine

set_option autoImplicit false
set_option maxRecDepth 100000
namespace Mine
open PySem PySem.W PySem.Calls PyProof.Rows

section
variable {c : Cx} {f : Fn} {ℓ : Locs} {σ : Store}

/-! ## calls -/
noncomputable def CalleeOk (c : Cx) (g : Value) : Prop := keepIn c.K g = true ∨ ∀ a, g ≠ .ref a
theorem CalleeOk.looks {g : Value} (k : CalleeOk c g) {M : Model} (ok : c.Ok) (h : Heap) (kp : ∀ b o, c.h₀.get? b = some o → h.get? b = some o) :
    ∃ k, (k = Keeper.frame ∨ k = Keeper.machine ∨ k = Keeper.boundFrame) ∧ Looks M h (keeperOf g) k := by
  rcases k with k | k
  · exact keeps_K k h (ok.X.keeps kp)
  · refine ⟨.machine, .inr (.inl rfl), Looks.of_pure ?_⟩
    cases g <;> first | rfl | exact absurd rfl (k _)
theorem backTo_any {es : List Expr} {pos : Pos} {env : Env} (hp : es.all plainE = true) : (backTo pos (starEach es env)).any (·.1) = false := by
  induction es with
  | nil => rfl
  | cons e es ih =>
    rw [List.all_cons, Bool.and_eq_true] at hp
    rw [starEach_plain hp.1]
    show (false || (backTo pos (starEach es env)).any (·.1)) = false
    rw [ih hp.2]; rfl

noncomputable def KeepBH (h h' : Heap) : Prop := ∀ b o, h.get? b = some o → h'.get? b = some o
noncomputable def KeepB (c : Cx) (h : Heap) : Prop := ∀ b o, c.h₀.get? b = some o → h.get? b = some o

/-- the callee and the first arguments are at hand; the rest is evaluated, and it is called -/
theorem run_call {es : List Expr} {pos : Pos} {g : Value} {first : List AV} {Φ : AV → Store → Prop} (hp : es.all plainE = true) (hc : CalleeOk c g)
    (h : EvL c f ℓ es σ fun as σ₂ => Cw c f.d f.hf σ₂ (.val g) (first ++ as) [] Φ) : Tr c f ℓ σ first (fun env xs => callWith pos g xs (backTo pos (starEach es env)) []) VR Φ := by
  intro A p s xs Q E ok rm H vf k
  refine callWith_of (P := KeepB c) (by rw [backTo_any hp]; rfl) (fun h' kp => hc.looks ok h' kp) ?_
  cases es with
  | nil =>
    refine evalArgs_nil3 ⟨H.good.keep, ?_⟩
    have h : Cw c f.d f.hf σ (.val g) (first ++ []) [] Φ := h
    rw [List.append_nil] at h
    show wpAny _ _ (call g (xs ++ []) []) _ _ _
    rw [List.append_nil]
    exact h A s g xs [] _ E ok rm H.good (.val g) vf .nil fun v x σ' h' tk q g' st vr => k v x σ' h' tk q (H.call st g') (.ofC st) vr
  | cons e es =>
    rw [List.all_cons, Bool.and_eq_true] at hp
    rw [starEach_plain hp.1]
    refine evalArgs_plain ?_
    have := evl_run (pos := pos) (es := e :: es) (by rw [List.all_cons, hp.1, hp.2]; rfl) h A p s [] (fun vs s₁ => KeepB c s₁.heap ∧ wpAny (model c.prog c.w) A (call g (xs ++ vs) []) Q E s₁) E ok rm H .nil fun vs vs' σ₁ h₁ t₁ q₁ H₁ s₁ vv => ?_
    · replace this : wpAny _ _ (spliced (backTo pos (starEach (e :: es) (f.env p)))) _ _ _ := this
      rw [starEach_plain hp.1] at this; exact this
    · refine ⟨H₁.good.keep, q₁ A _ g (xs ++ vs') [] _ E ok rm H₁.good (.val g) ((vf.mono (s₁.tk H)).append vv) .nil fun v x σ' h' tk q g' st vr => ?_⟩
      exact k v x σ' h' tk q (H₁.call st g') (s₁.trans H₁ (.ofC st)) vr

theorem ev_call {fn : Expr} {es : List Expr} {pos : Pos} {Φ : AV → Store → Prop} (h : Ev c f ℓ σ fn fun g σ₁ => ∃ g', g = .val g' ∧ CalleeOk c g' ∧ EvL c f ℓ es σ₁ fun as σ₂ => Cw c f.d f.hf σ₂ (.val g') as [] Φ)
    (hp : es.all plainE = true := by rfl) (he : ∀ env, eval (.Call fn es [] pos) env = (do callWith pos (← eval fn env) [] (backTo pos (starEach es env)) (backToKw pos (keywordEach [] env))) := by intro _; rfl) :
    Ev c f ℓ σ (.Call fn es [] pos) Φ := by
  intro A p s xs Q E ok rm H _ k
  refine Call_ (h A p s [] _ E ok rm H .nil fun g g₁ σ₁ h₁ t₁ q₁ H₁ s₁ vg => ?_) (he _)
  obtain ⟨g', rfl, hc, q₂⟩ := q₁
  cases vg
  exact run_call (first := []) (pos := pos) hp hc q₂ A p _ [] Q E ok rm H₁ .nil fun z z' σ₂ h₂ t₂ q₂ H₂ s₂ vz => k z z' σ₂ h₂ t₂ q₂ H₂ (s₁.trans H₁ s₂) vz

/-- a method is found: the call's function and its object -/
noncomputable def MethOf (c : Cx) (σ : Store) (ov : AV) (name : Str) (g : Value) : Prop :=
  ∀ (A : Around) (s : Shared) (x : Value) (pl : Sem Bool) (Q : Value × List Value → Shared → Prop) (E : Value → Shared → Prop), c.Ok → Good c σ s.heap → VR s.heap ov x → Q (g, [x]) s → wpAny (model c.prog c.w) A (getMethod x name pl) Q E s
theorem ev_meth {o : Expr} {name : Str} {apos pos : Pos} {es : List Expr} {Φ : AV → Store → Prop} {pl : Env → Sem Bool}
    (h : Ev c f ℓ σ o fun ov σ₁ => ∃ g, MethOf c σ₁ ov name g ∧ CalleeOk c g ∧ EvL c f ℓ es σ₁ fun as σ₂ => Cw c f.d f.hf σ₂ (.val g) (ov :: as) [] Φ)
    (hp : es.all plainE = true := by rfl) (he : ∀ env, eval (.Call (.Attribute o name apos) es [] pos) env = (do
      let ov ← eval o env
      standAt apos.atName
      let (f, first) ← holding [ov] (getMethod ov name (pl env))
      callWith pos f first (backTo pos (starEach es env)) []) := by intro _; rfl) : Ev c f ℓ σ (.Call (.Attribute o name apos) es [] pos) Φ := by
  intro A p s xs Q E ok rm H _ k
  refine MethodCall_ (h A p s [] _ E ok rm H .nil fun ov ov' σ₁ h₁ t₁ q₁ H₁ s₁ vo => ?_) (he _)
  obtain ⟨g, hm, hc, q₂⟩ := q₁
  refine hm A _ ov' _ _ E ok H₁.good vo ?_
  exact run_call (first := [ov]) (pos := pos) hp hc q₂ A p _ [ov'] Q E ok rm H₁ (.one vo) fun z z' σ₂ h₂ t₂ q₂ H₂ s₂ vz => k z z' σ₂ h₂ t₂ q₂ H₂ (s₁.trans H₁ s₂) vz

/-! ## keyword arguments -/
theorem kw_run {ks : List Keyword} {pos : Pos} {Φ : List AV → Store → Prop} (h : EvL c f ℓ (ks.map (·.value)) σ Φ) : Tr c f ℓ σ [] (fun env _ => evalAll ((backToKw pos (keywordEach ks env)).map (·.2))) VRs Φ := by
  intro A p s xs Q E ok rm H v0 k
  clear v0
  induction ks generalizing σ s Q Φ with
  | nil => exact wpAny_evalAll_nil (k [] [] σ s.heap s.toks h H .refl .nil)
  | cons e es ih =>
    obtain ⟨n, e, q⟩ := e
    show wpAny _ _ (evalAll ((do let v ← eval e (f.env p); standAt pos; pure v) :: ((backToKw pos (keywordEach es (f.env p))).map (·.2)))) _ _ _
    refine wpAny_evalAll_cons (wpAny_bind (h A p s [] _ E ok rm H .nil fun v v' σ₁ h₁ t₁ q₁ H₁ s₁ vv => wpAny_bind (wpAny_standAt (wpAny_pure ?_))))
    exact ih q₁ { s with heap := h₁, toks := t₁ } _ H₁ fun vs vs' σ₂ h₂ t₂ q₂ H₂ s₂ vz => k (v :: vs) (v' :: vs') σ₂ h₂ t₂ q₂ H₂ (s₁.trans H₁ s₂) (.cons (vv.mono (s₂.tk H₁)) vz)
theorem kw_names {ks : List Keyword} {pos : Pos} {env : Env} : (backToKw pos (keywordEach ks env)).map (·.1) = ks.map (·.arg) := by
  induction ks with
  | nil => rfl
  | cons e es ih =>
    obtain ⟨n, e, q⟩ := e
    show n :: (backToKw pos (keywordEach es env)).map (·.1) = n :: es.map (·.arg)
    rw [ih]
theorem KRs.zip {h : Heap} : ∀ (ns : List Str) {vs : List AV} {xs : List Value}, VRs h vs xs → KRs h (ns.zip vs) (ns.zip xs)
  | [], _, _, _ => .nil
  | _ :: _, _, _, .nil => .nil
  | _ :: ns, _, _, .cons a r => .cons a (KRs.zip ns r)
theorem filterMap_fst {α : Type} (l : List (Option Str × α)) : l.filterMap (·.1) = (l.map (·.1)).filterMap id := by
  induction l with
  | nil => rfl
  | cons a l ih =>
    obtain ⟨n, x⟩ := a
    rw [List.map_cons, List.filterMap_cons, List.filterMap_cons, ih]; rfl
theorem all_fst {α : Type} (q : Option Str → Bool) (l : List (Option Str × α)) : l.all (fun x => q x.1) = (l.map (·.1)).all q := by
  rw [List.all_map]; rfl

theorem ev_call_kw {fn : Expr} {es : List Expr} {ks : List Keyword} {pos : Pos} {Φ : AV → Store → Prop} {ns : List Str}
    (h : Ev c f ℓ σ fn fun g σ₁ => ∃ g', g = .val g' ∧ CalleeOk c g' ∧ EvL c f ℓ es σ₁ fun as σ₂ => EvL c f ℓ (ks.map (·.value)) σ₂ fun kvs σ₃ => Cw c f.d f.hf σ₃ (.val g') as (ns.zip kvs) Φ)
    (hns : ks.map (·.arg) = ns.map some := by rfl) (hes : es ≠ [] := by intro h; cases h) (hp : es.all plainE = true := by rfl) (he : ∀ env, eval (.Call fn es ks pos) env = (do callWith pos (← eval fn env) [] (backTo pos (starEach es env)) (backToKw pos (keywordEach ks env))) := by intro _; rfl) :
    Ev c f ℓ σ (.Call fn es ks pos) Φ := by
  intro A p s xs Q E ok rm H _ k
  show wpAny (model c.prog c.w) A (eval (.Call fn es ks pos) (f.env p)) Q E s
  rw [he]
  refine wpAny_bind (h A p s [] _ E ok rm H .nil fun g g₁ σ₁ h₁ t₁ q₁ H₁ s₁ vg => ?_)
  obtain ⟨g', rfl, hc, q₂⟩ := q₁
  cases vg
  have hnames := kw_names (ks := ks) (pos := pos) (env := f.env p)
  rw [hns] at hnames
  have hall : (backToKw pos (keywordEach ks (f.env p))).all (·.1.isSome) = true := by
    rw [all_fst Option.isSome, hnames]; simp
  have hnone : (backToKw pos (keywordEach ks (f.env p))).any (·.1.isNone) = false := by
    rw [List.any_eq_false]
    intro x hx
    have := List.all_eq_true.mp hall x hx
    cases e : x.1 with
    | none => rw [e] at this; cases this
    | some _ => simp
  have hfm : (backToKw pos (keywordEach ks (f.env p))).filterMap (·.1) = ns := by
    rw [filterMap_fst, hnames, List.filterMap_map]
    show List.filterMap (fun x => some x) ns = ns
    exact List.filterMap_some
  refine callWith_of (P := KeepB c) (by rw [backTo_any hp, hnone]; rfl) (fun h' kp => hc.looks ok h' kp) ?_
  cases es with
  | nil => exact absurd rfl hes
  | cons e es =>
    rw [List.all_cons, Bool.and_eq_true] at hp
    rw [starEach_plain hp.1]
    refine evalArgs_kw hall ?_
    have := evl_run (pos := pos) (es := e :: es) (by rw [List.all_cons, hp.1, hp.2]; rfl) q₂ A p { s with heap := h₁, toks := t₁ } [] (fun vs s₁ => wpAny (model c.prog c.w) A (evalAll ((backToKw pos (keywordEach ks (f.env p))).map (·.2))) (fun kvs s₂ => KeepB c s₂.heap ∧ wpAny (model c.prog c.w) A (call g₁ ([] ++ vs) (((backToKw pos (keywordEach ks (f.env p))).filterMap (·.1)).zip kvs)) Q E s₂) E s₁) E ok rm H₁ .nil fun vs vs' σ₂ h₂ t₂ q₂ H₂ s₂ vv => ?_
    · replace this : wpAny _ _ (spliced (backTo pos (starEach (e :: es) (f.env p)))) _ _ _ := this
      rw [starEach_plain hp.1] at this; exact this
    · rw [hfm]
      refine kw_run (pos := pos) q₂ A p { s with heap := h₂, toks := t₂ } [] _ E ok rm H₂ .nil fun kvs kvs' σ₃ h₃ t₃ q₃ H₃ s₃ vk => ?_
      refine ⟨H₃.good.keep, q₃ A _ g₁ ([] ++ vs') _ _ E ok rm H₃.good (.val g₁) (vv.mono (s₃.tk H₂)) (KRs.zip ns vk) fun v x σ' h' tk q g'' st vr => ?_⟩
      exact k v x σ' h' tk q (H₃.call st g'') (((s₁.trans H₁ s₂).trans H₂ s₃).trans H₃ (.ofC st)) vr

/-! ## the call of a def -/
noncomputable def bindA : List (Str × AV) → Locs → Locs
  | [], ℓ => ℓ
  | (n, v) :: r, ℓ => bindA r (ℓ.set n v)
theorem bindL_of {h : Heap} {kind : Str → Option NameKind} : ∀ {ab : List (Str × AV)} {bs : List (Str × Value)} {ℓ : Locs} {m : Str → Option Value}, KRs h ab bs →
    (∀ y v, ℓ y = some v → kind y = some .local → ∃ v', m y = some v' ∧ VR h v v') → ∀ y v, bindA ab ℓ y = some v → kind y = some .local → ∃ v', bindL kind bs m y = some v' ∧ VR h v v'
  | _, _, _, _, .nil, q => q
  | _, _, ℓ, m, .cons (k := n) (v := v) (x := x) a r, q => by
    refine fun y' u' hy' hk' => bindL_of (ℓ := ℓ.set n v) r (fun y u hy hk => ?_) y' u' hy' hk'
    by_cases e : y = n
    · subst e
      rw [Locs.set_same] at hy; cases hy
      exact ⟨x, by rw [if_pos hk]; exact if_pos rfl, a⟩
    · rw [Locs.set_ne e] at hy
      obtain ⟨u', h1, h2⟩ := q y u hy hk
      refine ⟨u', ?_, h2⟩
      split
      · exact (if_neg e).trans h1
      · exact h1
theorem bindC_of {h : Heap} {kind : Str → Option NameKind} : ∀ {ab : List (Str × AV)} {bs : List (Str × Value)} {ℓ : Locs} {m : Str → Option Value}, KRs h ab bs →
    (∀ y v, ℓ y = some v → kind y = some .cell → ∃ v', m y = some v' ∧ VR h v v') → ∀ y v, bindA ab ℓ y = some v → kind y = some .cell → ∃ v', bindC kind bs m y = some v' ∧ VR h v v'
  | _, _, _, _, .nil, q => q
  | _, _, ℓ, m, .cons (k := n) (v := v) (x := x) a r, q => by
    refine fun y' u' hy' hk' => bindC_of (ℓ := ℓ.set n v) r (fun y u hy hk => ?_) y' u' hy' hk'
    by_cases e : y = n
    · subst e
      rw [Locs.set_same] at hy; cases hy
      exact ⟨x, by rw [if_neg (by rw [hk]; decide)]; exact if_pos rfl, a⟩
    · rw [Locs.set_ne e] at hy
      obtain ⟨u', h1, h2⟩ := q y u hy hk
      refine ⟨u', ?_, h2⟩
      split
      · exact h1
      · exact (if_neg e).trans h1
theorem bindA_mem : ∀ {ab : List (Str × AV)} {ℓ : Locs} {y : Str} {v : AV}, bindA ab ℓ y = some v → (∃ u, (y, u) ∈ ab) ∨ ℓ y = some v
  | [], _, _, _, e => .inr e
  | (n, u) :: r, ℓ, y, v, e => by
    rcases bindA_mem (ab := r) e with ⟨u', hm⟩ | e
    · exact .inl ⟨u', .tail _ hm⟩
    · by_cases q : y = n
      · subst q; exact .inl ⟨u, .head _⟩
      · rw [Locs.set_ne q] at e; exact .inr e

noncomputable def retv : AF → AV
  | .ret v => v
  | _ => .none
theorem FR.retv {h : Heap} {r : AF} {fl : Flow} : FR h r fl → VR h (retv r) (match fl with | .ret v => v | _ => .none) := by
  intro x
  cases x with
  | ret v => exact v
  | _ => exact .none

/-- how a def's parameters are bound -/
noncomputable def Binds (c : Cx) (fd : FuncData) (as : List AV) (kw : List (Str × AV)) (ab : List (Str × AV)) : Prop :=
  ∀ (s : Shared) (xs : List Value) (ks : List (Str × Value)), c.Ok → KeepB c s.heap → VRs s.heap as xs → KRs s.heap kw ks → ∃ bs, BindsTo s fd ⟨xs, ks⟩ bs ∧ KRs s.heap ab bs

/-- a def of the text's -/
structure IsDef (K : Frag) (fa : Addr) (name qual : Str) (params : Arguments) (body : List Stmt) (scope : Scope) (dV kV doc pm cdv ct oc : Value) (an od : Option Addr) (osl : Array (Option Value)) : Prop where
  at_ : K.lookup fa = some ⟨oc, od, .func (fnOf name qual params body scope dV kV doc pm an cdv ct), osl⟩
  code : codeIn K cdv qual = true
  kind : scope.kind = .function
  co : scope.isCoroutine = false
  gen : scope.isGenerator = false
  cells : ((cellsFrom 0 scope.names []).map (·.1)).Nodup

noncomputable def kindOk (scope : Scope) (ab : List (Str × AV)) : Bool := ab.all fun y => scope.names.lookup y.1 == some .local || scope.names.lookup y.1 == some .cell

theorem def_enter {fa : Addr} {name qual : Str} {params : Arguments} {body : List Stmt} {scope : Scope} {dV kV doc pm cdv ct oc : Value} {an od : Option Addr} {osl : Array (Option Value)} {d : Nat} {hf : Bool} {as : List AV} {kw ab : List (Str × AV)} {A : Around} {s : Shared} {xs : List Value} {ks : List (Str × Value)} {R : Result → Shared → Prop}
    (D : IsDef c.K fa name qual params body scope dV kV doc pm cdv ct oc an od osl) (hb : Binds c (fnOf name qual params body scope dV kV doc pm an cdv ct) as kw ab) (hk : kindOk scope ab = true)
    (ok : c.Ok) (rm : Room c (d + 1) hf A) (G : Good c σ s.heap) (va : VRs s.heap as xs) (vk : KRs s.heap kw ks) (F : Fn) (hF : F = ⟨qual ++ ".<locals>.", scope, some fa, cdv, d, hf⟩)
    (k : ∀ p h₁ tk, Here (c.on (F.env p :: c.stk)) F (bindA ab fun _ => none) σ p h₁ → KeepBH s.heap h₁ → (∀ a, Own F p a → s.heap.objs.size ≤ a) → Room (c.on (F.env p :: c.stk)) d hf (A.deeper (F.env p)) → (∃ L, (F.env p).frame = some L ∧ s.heap.get? L = none) →
      wpAny (model c.prog c.w) (A.deeper (F.env p)) (execs body (F.env p)) (fun f s' => R (.ok (.ret (match f with | .ret v => v | _ => .none))) s')
        (fun e s' => wpAny (model c.prog c.w) (A.deeper (F.env p)) (leaving (F.env p) e) (fun _ s'' => R (.error e) s'') (fun e' s'' => R (.error e') s'') s') { s with heap := h₁, toks := tk }) :
    codeAny (model c.prog c.w) A (.call (.ref fa) ⟨xs, ks⟩) R s := by
  obtain ⟨bs, hbind, hrel⟩ := hb s xs ks ok G.keep va vk
  have X := ok.X.keeps G.keep
  have hkb : (bs.all fun y => scope.names.lookup y.1 == some .local || scope.names.lookup y.1 == some .cell) = true := by
    have e := hrel.names
    unfold kindOk at hk
    have : (bs.all fun y => scope.names.lookup y.1 == some .local || scope.names.lookup y.1 == some .cell) = (bs.map (·.1)).all fun y => scope.names.lookup y == some .local || scope.names.lookup y == some .cell := by rw [List.all_map]; rfl
    rw [this, ← e, List.all_map]; exact hk
  have hroom : A.depth < recursionLimit := by have := rm.depth; show A.depth < 1000; omega
  refine codeAny_call_function hroom (X _ _ D.at_) rfl D.co D.gen rfl (codeRec_of X D.code) (hbind _ _ _ _ ?_)
  refine wpAny_newFunctionEnv_cells D.kind (fun x hx => (kindsX hkb) _ x hx) fun env' he s' x => ?_
  subst he
  refine ⟨(ok.lim.keeps G.keep).keeps x.toInCall.keep, codeAny_func ?_⟩
  obtain ⟨h₁, tk, rfl, _⟩ := x.done
  have keep := x.toInCall.keep
  have tk0 : TK s.heap h₁ := fun a xs e => keep a _ e
  let p : Pl := ⟨s.heap.objs.size, cellsFrom (s.heap.objs.size + 1) scope.names [], some s.heap.objs.size⟩
  have above : ∀ y a, p.cells.lookup y = some a → s.heap.objs.size < a := fun y a hy => x.above y a (mem_of_lookup hy)
  have offs : ∀ a, s.heap.objs.size ≤ a → σ a = none ∧ c.h₀.get? a = none := fun a ha => by
    refine ⟨?_, ?_⟩
    · cases q : σ a with
      | none => rfl
      | some o => exact absurd (G.lt (a := a) (by rw [q]; simp)) (Nat.not_lt.mpr ha)
    · cases q : c.h₀.get? a with
      | none => rfl
      | some o => exact absurd (Heap.lt_size (G.keep _ _ q)) (Nat.not_lt.mpr ha)
  have off : ∀ a, a = p.L ∨ (∃ x, p.cells.lookup x = some a) → σ a = none ∧ c.h₀.get? a = none := by
    rintro a (rfl | ⟨y, hy⟩)
    · exact offs _ (Nat.le_refl _)
    · exact offs a (Nat.le_of_lt (above y a hy))
  subst hF
  have H : Here (c.on (Fn.env ⟨qual ++ ".<locals>.", scope, some fa, cdv, d, hf⟩ p :: c.stk)) ⟨qual ++ ".<locals>.", scope, some fa, cdv, d, hf⟩ (bindA ab fun _ => none) σ p h₁ := by
    refine ⟨⟨fun b o e => keep b o (G.keep b o e), fun a o e => let ⟨oc, q, r⟩ := G.obj a o e; ⟨oc, keep _ _ q, r.mono tk0⟩, G.new, G.stat, G.low, fun env he => ?_⟩, D.kind, ⟨_, x.toInCall.ns, ?_⟩, ?_, fun y a hy => ⟨_, x.cell y a hy⟩, fun y z a hy hz => ?_, fun y hy => ?_, off, fun _ => ⟨c.stk, _, rfl, rfl⟩⟩
    · rcases List.mem_cons.mp he with rfl | he
      · exact ⟨by show scope.kind ≠ .module; rw [D.kind]; decide, _, _, rfl, x.toInCall.ns, (offs _ (Nat.le_refl _)).2, (offs _ (Nat.le_refl _)).1⟩
      · exact (G.fr env he).turn (fun L m _ ns _ _ => ⟨m, ns.at' (keep L)⟩) fun _ _ e => e
    · exact bindL_of (hrel.mono tk0) fun y v e => by cases e
    · intro y v hy hkk
      have hc : scope.names.lookup y = some .cell := by
        rcases hkk with hc | hc
        · exact hc
        · exfalso
          rcases bindA_mem hy with ⟨u, hm⟩ | e
          · have := List.all_eq_true.mp hk (y, u) hm
            have hc : scope.names.lookup y = some .free := hc
            rw [hc] at this
            simp at this
          · cases e
      obtain ⟨a, ha⟩ := Option.isSome_iff_exists.mp (cellsFrom_some scope.names (s.heap.objs.size + 1) [] (x := y) (.inl hc))
      obtain ⟨v', e, vr⟩ := bindC_of (hrel.mono tk0) (kind := fun y => scope.names.lookup y) (fun y v e => by cases e) y v hy hc
      exact ⟨a, v', ha, by have := x.cell y a ha; rw [show bindC (newEnv scope s.heap.objs.size mainGlobals (cellsFrom (s.heap.objs.size + 1) scope.names []) (qual ++ ".<locals>.") (some fa) cdv none builtinsNs).kindOf bs (fun _ => none) y = some v' from e] at this; exact this, vr⟩
    · exact name_of_addr x.apart (mem_of_lookup hy) (mem_of_lookup hz)
    · exact Option.isSome_iff_exists.mp (cellsFrom_some scope.names (s.heap.objs.size + 1) [] (x := y) (.inl hy))
  refine k p h₁ tk H keep ?_ ⟨Around.frames_deeper rm.frames, by have := rm.depth; show A.depth + 1 + 5 * d ≤ 900; omega, by have := rm.units; show A.units + 3 + 60 * d ≤ 9000; omega, rm.hand⟩ ⟨_, rfl, ?_⟩
  · rintro a (rfl | ⟨y, _, hy⟩)
    · exact Nat.le_refl _
    · exact Nat.le_of_lt (above y a hy)
  · cases q : s.heap.get? s.heap.objs.size with
    | none => rfl
    | some o => exact absurd (Heap.lt_size q) (Nat.lt_irrefl _)

theorem ca_def {fa : Addr} {name qual : Str} {params : Arguments} {body : List Stmt} {scope : Scope} {dV kV doc pm cdv ct oc : Value} {an od : Option Addr} {osl : Array (Option Value)} {d : Nat} {hf : Bool} {as : List AV} {kw ab : List (Str × AV)} {Φ : AV → Store → Prop}
    (D : IsDef c.K fa name qual params body scope dV kV doc pm cdv ct oc an od osl) (hb : Binds c (fnOf name qual params body scope dV kV doc pm an cdv ct) as kw ab) (hk : kindOk scope ab = true)
    (h : ∀ stk, Ss (c.on stk) ⟨qual ++ ".<locals>.", scope, some fa, cdv, d, hf⟩ (bindA ab fun _ => none) σ body fun r _ σ' => Φ (retv r) σ') : Ca c (d + 1) hf σ (.val (.ref fa)) as kw Φ := by
  intro A s g' xs ks R ok rm G vg va vk k
  cases vg
  refine def_enter D hb hk ok rm G va vk _ rfl fun p h₁ tk H keep above rm' _ => ?_
  refine h (Fn.env ⟨qual ++ ".<locals>.", scope, some fa, cdv, d, hf⟩ p :: c.stk) (A.deeper _) p { s with heap := h₁, toks := tk } _ _ ⟨ok.X, ok.g, ok.b, ok.lim, ok.bi⟩ rm' H fun r fl ℓ' σ' h' tk' q H' st fr => ?_
  have G' : Good c σ' h' := ⟨H'.good.keep, H'.good.obj, H'.good.new, H'.good.stat, H'.good.low, fun env he => H'.good.fr env (List.mem_cons_of_mem _ he)⟩
  refine k (retv r) _ σ' h' tk' q G' ⟨fun a o e hs _ => st.keep a o (keep a o e) hs fun ow => ?_, fun a e n => ?_, st.stay⟩ fr.retv
  · exact absurd (Heap.lt_size e) (Nat.not_lt.mpr (above a ow))
  · have := st.fresh a e n
    cases w : s.heap.get? a with
    | none => rfl
    | some o => rw [keep a o w] at this; cases this
end
end Mine

set_option autoImplicit false
set_option maxRecDepth 100000
namespace Mine
open PySem PySem.W PySem.Calls PyProof.Rows

/-! ## finite maps, as the dicts hold them -/
noncomputable abbrev Es := List (Str × AV)
noncomputable def Es.get (es : Es) (k : Str) : Option AV := (es.find? fun kv => decide (kv.1 = k)).map (·.2)
noncomputable def Es.has (es : Es) (k : Str) : Bool := es.any fun kv => decide (kv.1 = k)
noncomputable def Es.put (es : Es) (k : Str) (v : AV) : Es := if es.has k = true then es.map (fun kv => if kv.1 = k then (kv.1, v) else kv) else es ++ [(k, v)]
noncomputable def Es.del (es : Es) (k : Str) : Es := es.filter fun kv => decide (kv.1 ≠ k)

theorem Es.has_get (es : Es) (k : Str) : es.has k = (es.get k).isSome := by
  induction es with
  | nil => rfl
  | cons kv r ih =>
    unfold Es.has Es.get at *
    rw [List.any_cons, List.find?_cons]
    by_cases h : kv.1 = k
    · simp [h]
    · simp only [h, decide_false, Bool.false_or]; exact ih
theorem Es.get_put (es : Es) (k k' : Str) (v : AV) : (es.put k v).get k' = if k' = k then some v else es.get k' := by
  have key : ∀ r : Es, Es.get (r.map fun kv => if kv.1 = k then (kv.1, v) else kv) k' = if k' = k then (if Es.has r k = true then some v else none) else Es.get r k' := by
    intro r
    induction r with
    | nil => by_cases h : k' = k <;> simp [Es.get, Es.has, h]
    | cons kv r ih =>
      unfold Es.get Es.has at *
      rw [List.map_cons, List.find?_cons, List.any_cons, List.find?_cons]
      by_cases h1 : kv.1 = k
      · by_cases h2 : k' = k
        · subst h2; simp [h1]
        · have h4 : ¬ k = k' := fun e => h2 e.symm
          simp only [h1, if_true, h2, if_false, h4, decide_false] at ih ⊢
          exact ih
      · by_cases h2 : kv.1 = k'
        · have h3 : ¬ k' = k := fun e => h1 (h2.trans e)
          simp [h1, h2, h3]
        · simp only [h1, if_false, h2, decide_false, Bool.false_or] at ih ⊢
          exact ih
  unfold Es.put
  by_cases h : es.has k = true
  · rw [if_pos h, key]; simp [h]
  · rw [if_neg h]
    unfold Es.get
    rw [List.find?_append]
    by_cases h2 : k' = k
    · subst h2
      have hn : (es.find? fun kv => decide (kv.1 = k')) = none := by
        have := Es.has_get es k'
        rw [Bool.not_eq_true] at h
        rw [h] at this
        unfold Es.get at this
        cases q : es.find? fun kv => decide (kv.1 = k') with
        | none => rfl
        | some x => rw [q] at this; simp at this
      simp [hn]
    · have h3 : ¬ k = k' := fun e => h2 e.symm
      cases q : es.find? fun kv => decide (kv.1 = k') <;> simp [h2, h3]
theorem Es.get_put_same (es : Es) (k : Str) (v : AV) : (es.put k v).get k = some v := by rw [Es.get_put, if_pos rfl]
theorem Es.get_put_ne (es : Es) {k k' : Str} (v : AV) (h : k' ≠ k) : (es.put k v).get k' = es.get k' := by rw [Es.get_put, if_neg h]
theorem Es.get_del (es : Es) (k k' : Str) : (es.del k).get k' = if k' = k then none else es.get k' := by
  induction es with
  | nil => simp [Es.del, Es.get]
  | cons kv r ih =>
    unfold Es.del Es.get at *
    rw [List.filter_cons, List.find?_cons]
    by_cases h1 : kv.1 = k
    · simp only [h1, ne_eq, not_true_eq_false, decide_false, Bool.false_eq_true, if_false]
      rw [ih]
      by_cases h2 : k' = k
      · simp [h2]
      · have h3 : ¬ k = k' := fun e => h2 e.symm
        simp [h2, h3]
    · simp only [h1, ne_eq, not_false_eq_true, decide_true, if_true, List.find?_cons]
      by_cases h2 : kv.1 = k'
      · have h3 : ¬ k' = k := fun e => h1 (h2.trans e)
        simp [h2, h3]
      · simp only [h2, decide_false]; exact ih
theorem Es.keys_put (es : Es) (k : Str) (v : AV) : (es.put k v).map (·.1) = if es.has k = true then es.map (·.1) else es.map (·.1) ++ [k] := by
  unfold Es.put
  by_cases h : es.has k = true
  · rw [if_pos h, if_pos h, List.map_map]
    congr 1; funext kv; simp only [Function.comp]; split <;> rfl
  · rw [if_neg h, if_neg h, List.map_append]; rfl

section
variable {h : Heap} {es : Es} {kvs : List (Str × Value)}
theorem KRs.any (r : KRs h es kvs) (k : Str) : es.has k = kvs.any fun kv => decide (kv.1 = k) := by
  induction r with
  | nil => rfl
  | @cons k' _ _ vs xs _ _ ih =>
    show (decide (k' = k) || Es.has vs k) = (decide (k' = k) || xs.any fun kv => decide (kv.1 = k))
    rw [ih]
theorem KRs.get (r : KRs h es kvs) {k : Str} {v : AV} (e : es.get k = some v) : ∃ x, valueAt kvs k = some x ∧ VR h v x := by
  induction r with
  | nil => cases e
  | @cons k' v' x' vs xs a _ ih =>
    unfold Es.get at e ih
    unfold valueAt at ih ⊢
    rw [List.find?_cons] at e ⊢
    by_cases q : k' = k
    · simp only [q, decide_true, Option.map_some, Option.some.injEq] at e ⊢
      subst e; exact ⟨x', rfl, a⟩
    · simp only [q, decide_false] at e ⊢
      exact ih e
theorem KRs.get_none (r : KRs h es kvs) {k : Str} (e : es.get k = none) : valueAt kvs k = none := by
  induction r with
  | nil => rfl
  | @cons k' v' x' vs xs a _ ih =>
    unfold Es.get at e ih
    unfold valueAt at ih ⊢
    rw [List.find?_cons] at e ⊢
    by_cases q : k' = k
    · simp [q] at e
    · simp only [q, decide_false] at e ⊢
      exact ih e
theorem KRs.append {es' : Es} {kvs' : List (Str × Value)} (r : KRs h es kvs) (r' : KRs h es' kvs') : KRs h (es ++ es') (kvs ++ kvs') := by
  induction r with
  | nil => exact r'
  | cons a _ ih => exact .cons a ih
theorem KRs.map_put (r : KRs h es kvs) (k : Str) {v : AV} {x : Value} (a : VR h v x) : KRs h (es.map fun kv => if kv.1 = k then (kv.1, v) else kv) (kvs.map fun kv => if kv.1 = k then (kv.1, x) else kv) := by
  induction r with
  | nil => exact .nil
  | @cons k' v' x' vs xs b _ ih =>
    rw [List.map_cons, List.map_cons]
    by_cases q : k' = k
    · simp only [q, if_true]; exact .cons a ih
    · simp only [q, if_false]; exact .cons b ih
theorem KRs.put (r : KRs h es kvs) (k : Str) {v : AV} {x : Value} (a : VR h v x) : KRs h (es.put k v) (stored kvs k x) := by
  unfold Es.put stored
  rw [r.any k]
  split
  · exact r.map_put k a
  · exact r.append (.cons a .nil)
theorem KRs.del (r : KRs h es kvs) (k : Str) : KRs h (es.del k) (without kvs k) := by
  induction r with
  | nil => exact .nil
  | @cons k' v' x' vs xs b _ ih =>
    unfold Es.del without at *
    rw [List.filter_cons, List.filter_cons]
    by_cases q : k' = k
    · simp only [q, ne_eq, not_true_eq_false, decide_false, Bool.false_eq_true, if_false]; exact ih
    · simp only [q, ne_eq, not_false_eq_true, decide_true, if_true]; exact .cons b ih
end

section
variable {prog : Program} {w : World} {o : Obj} {kvs : List (Str × Value)} {name : Str}
theorem isStrOf_isStr (name : Str) (v : Value) : Value.isStrOf name v = v.isStr name := by cases v <;> rfl
theorem lookIn_of (i : o.IsDictOf (strKind prog w) kvs) : lookIn name o = some (valueAt kvs name) := by
  obtain ⟨es, ep, hx, hd, hk, hp, hn⟩ := i
  unfold lookIn
  rw [hd]
  dsimp only
  have := hp.find name
  have e : (fun e : DictEntry => (strKind prog w).is name e.key) = fun e => e.key.isStr name := by funext e; exact isStrOf_isStr name e.key
  rw [e] at this
  cases q : es.toList.find? (fun e => e.key.isStr name) with
  | some en => rw [q] at this; simp only [Option.map_some] at this; rw [← this]
  | none =>
    rw [q] at this
    simp only [Option.map_none] at this
    rw [← this, if_neg]
    rw [Bool.not_eq_true, List.any_eq_false]
    intro e he
    obtain ⟨k, hk', _⟩ := hk e (Array.mem_toList_iff.mp he)
    obtain ⟨t, ht⟩ := Value.isStrOf_shape hk'
    simp [DictEntry.refKey, ht]
theorem putName_is (i : o.IsDictOf (strKind prog w) kvs) (t : Tok) (v : Value) : (Obj.putName name (hashStr w name) (.str name t) v o).IsDictOf (strKind prog w) (stored kvs name v) := by
  obtain ⟨es, ep, hc, hd, hk, hp, hn⟩ := i
  obtain ⟨oc, od, odt, osl⟩ := o
  dsimp only at hd
  subst hd
  rw [Obj.putName_eq]
  unfold Obj.putNameByArray
  dsimp only
  have e : (fun e : DictEntry => e.key.isStr name) = fun e => (strKind prog w).is name e.key := by funext e; exact (isStrOf_isStr name e.key).symm
  rw [e]
  have hkey : (strKind prog w).is name (.str name t) = true := strKind_is prog w name t
  have hidx : (es.findIdx? fun e => (strKind prog w).is name e.key) = kvs.findIdx? fun kv => decide (kv.1 = name) := by
    rw [← hp.findIdx name]; obtain ⟨l⟩ := es; simp
  cases hi : es.findIdx? fun e => (strKind prog w).is name e.key with
  | some i =>
    refine ⟨_, _, hc, rfl, hk.modify _ _, ?_, ?_⟩
    · rw [stored, if_pos (any_of_findIdx_some (hidx ▸ hi))]
      have hl : (es.toList.findIdx? fun e => (strKind prog w).is name e.key) = some i := by rw [← hi]; obtain ⟨l⟩ := es; simp
      have := hp.modify hn hl v
      obtain ⟨l⟩ := es
      simpa using this
    · rw [stored, if_pos (any_of_findIdx_some (hidx ▸ hi)), keys_map_store]; exact hn
  | none =>
    have hnot : name ∉ kvs.map (·.1) := not_mem_of_findIdx_none (hidx ▸ hi)
    have hany : ¬ (kvs.any fun kv => decide (kv.1 = name)) = true := by
      rw [List.any_eq_true]; rintro ⟨kv, hkv, he⟩
      exact hnot (List.mem_map.mpr ⟨kv, hkv, of_decide_eq_true he⟩)
    refine ⟨_, _, hc, rfl, hk.push hkey _, ?_, ?_⟩
    · rw [stored, if_neg hany]
      have := hp.append hkey (hashStr w name) v
      obtain ⟨l⟩ := es
      simpa using this
    · rw [stored, if_neg hany, List.map_append, List.nodup_append]
      refine ⟨hn, by simp, ?_⟩
      intro a ha b hb
      simp only [List.map_cons, List.map_nil, List.mem_singleton] at hb
      subst hb
      exact fun e => hnot (e ▸ ha)
end

section
variable {c : Cx} {f : Fn} {ℓ : Locs} {σ : Store}

/-! ## instances -/
theorem inst_at {h : Heap} (g : Good c σ h) {x C dx : Addr} {es : Es} (hx : σ x = some (.inst C dx)) (hd : σ dx = some (.dict es)) :
    ∃ od kvs, InstAt h x (instObj C dx) C (some od) ∧ h.get? dx = some od ∧ od.IsDictOf (strKind c.prog c.w) kvs ∧ KRs h es kvs := by
  obtain ⟨ox, e1, r1⟩ := g.obj x _ hx
  obtain ⟨od, e2, r2⟩ := g.obj dx _ hd
  cases r1
  cases r2 with
  | dict i r => exact ⟨od, _, ⟨e1, rfl, rfl, e2⟩, e2, i, r⟩

noncomputable def handedA : AV → Bool
  | .val w => handedIn w
  | _ => true
theorem handed_of {h : Heap} {v : AV} {x : Value} (r : VR h v x) (e : handedA v = true) : handedIn x = true := by
  cases r <;> first | rfl | exact e

/-- an attribute of the object's own -/
theorem op_attr {x C dx : Addr} {es : Es} {name : Str} {v : AV} {attr : Option Value} {Φ : AV → Store → Prop} (hx : σ x = some (.inst C dx)) (hd : σ dx = some (.dict es)) (hv : es.get name = some v)
    (hg : plainGet c.K C name = true) (hh : hasDictIn c.K C = true) (ha : findIn c.K (.ref C) name = some attr) (hn : noGet c.K attr = true) (hi : handedA v = true) (q : Φ v σ) :
    Op c f ℓ σ [.ref x] (ap1 fun o => getAttr o name true) Φ := by
  intro A p s xs Q E ok rm H va k
  cases va with
  | cons vo r =>
    cases r; cases vo
    obtain ⟨od, kvs, I, e, i, r⟩ := inst_at H.good hx hd
    obtain ⟨v', ev, vr⟩ := r.get hv
    have X := ok.X.keeps H.good.keep
    have hl : lookIn name od = some (some v') := by rw [lookIn_of i, ev]
    have fo : findObj c.K C (some od) name = some (.value v') := by
      obtain ⟨cd, hc, hdd⟩ := any_some hh
      unfold findObj
      rw [hc, Option.bind_some, ha, Option.bind_some]
      have ow : PySem.W.ownOf cd (some od) name = some (some v') := by unfold PySem.W.ownOf; rw [if_pos hdd]; exact hl
      cases attr with
      | none => simp [ow]
      | some a =>
        have hn' : specialIn c.K a "__get__" = some none := beq_iff_eq.mp hn
        simp [hn', ow]
    exact get_value X I (plainGet_of hg).1 fo (handed_of vr hi) (k v v' σ s.heap _ q H .refl vr)

/-- an attribute of the class's -/
theorem op_attr_cls {x C dx : Addr} {es : Es} {name : Str} {a : Value} {v : AV} {Φ : AV → Store → Prop} (hx : σ x = some (.inst C dx)) (hd : σ dx = some (.dict es)) (hv : es.get name = none)
    (hg : plainGet c.K C name = true) (hh : hasDictIn c.K C = true) (ha : findIn c.K (.ref C) name = some (some a)) (hn : specialIn c.K a "__get__" = some none) (hi : handedIn a = true) (hc : copiedNames.contains name = false)
    (vr : ∀ h, VR h v a) (q : Φ v σ) : Op c f ℓ σ [.ref x] (ap1 fun o => getAttr o name true) Φ := by
  intro A p s xs Q E ok rm H va k
  cases va with
  | cons vo r =>
    cases r; cases vo
    obtain ⟨od, kvs, I, e, i, r⟩ := inst_at H.good hx hd
    have ev := r.get_none hv
    have X := ok.X.keeps H.good.keep
    have hl : lookIn name od = some none := by rw [lookIn_of i, ev]
    have fo : findObj c.K C (some od) name = some (.value a) := by
      obtain ⟨cd, hcd, hdd⟩ := any_some hh
      unfold findObj
      rw [hcd, Option.bind_some, ha, Option.bind_some]
      have ow : PySem.W.ownOf cd (some od) name = some none := by unfold PySem.W.ownOf; rw [if_pos hdd]; exact hl
      simp only [hn, Option.bind_some, ow, hc, Bool.false_and, Bool.false_eq_true, if_false, hi, if_true]
    exact get_value X I (plainGet_of hg).1 fo hi (k v a σ s.heap _ q H .refl (vr _))

/-- a method of the object's class -/
theorem meth_inst {x C dx fm : Addr} {es : Es} {name : Str} (hx : σ x = some (.inst C dx)) (hd : σ dx = some (.dict es)) (hv : es.get name = none)
    (hg : plainGet c.K C name = true) (hf : findIn c.K (.ref C) name = some (some (.ref fm))) (ht : isFn c.K (.ref fm) = true) : MethOf c σ (.ref x) name (.ref fm) := by
  intro A s xv pl Q E ok G vo q
  cases vo
  obtain ⟨od, kvs, I, e, i, r⟩ := inst_at G hx hd
  exact method_fn (ok.X.keeps G.keep) I (plainGet_of hg).1 (plainGet_of hg).2 hf (beq_iff_eq.mp ht) (by show (lookIn name od).map _ = _; rw [lookIn_of i, r.get_none hv]; rfl) q

/-- an attribute is stored -/
theorem opu_setattr {x C dx : Addr} {es : Es} {name : Str} {v : AV} {Φ : Store → Prop} (hx : σ x = some (.inst C dx)) (hd : σ dx = some (.dict es))
    (hs : findIn c.K (.ref C) "__setattr__" = some (some (.builtin "object.__setattr__"))) (hp : plainOver c.K C = true) (ht : takerIn c.K C name = some none) (hh : hasDictIn c.K C = true) (hz : es.length ≤ 1000)
    (q : Φ (σ.set dx (.dict (es.put name v)))) : OpU c f ℓ σ [.ref x, v] (ap2 fun o v => setAttr o name v) Φ := by
  intro A p s xs Q E ok rm H va k
  cases va with
  | cons vo r =>
    cases r with
    | cons vv r =>
      cases r; cases vo
      rename_i xv
      obtain ⟨od, kvs, I, D, i, r⟩ := inst_at H.good hx hd
      have X := ok.X.keeps H.good.keep
      refine set_plain X I hs ?_
      refine osa_open X I hp ht fun b => ?_
      obtain ⟨cd, hc, hd'⟩ := any_some hh
      obtain ⟨hxx, -, -, -⟩ := I
      have i' := putName_is (name := name) i (s.toks + 1) xv
      have nf : (Obj.putName name (hashStr c.w name) (.str name (s.toks + 1)) xv od).isFreed = false := by obtain ⟨es, ep, _, hd, _⟩ := i'; exact Obj.isFreed_of_dict hd
      have hs' : Heap.SameBut dx s.heap (s.heap.update dx (Obj.putName name (hashStr c.w name) (.str name (s.toks + 1)) xv)) := .update ..
      have D' : (s.heap.update dx (Obj.putName name (hashStr c.w name) (.str name (s.toks + 1)) xv)).get? dx = some (Obj.putName name (hashStr c.w name) (.str name (s.toks + 1)) xv od) := Heap.get?_update_self _ D nf
      have tk := TK.upd H.good hd hs'
      have H' : Here c f ℓ (σ.set dx (.dict (es.put name v))) p (s.heap.update dx (Obj.putName name (hashStr c.w name) (.str name (s.toks + 1)) xv)) :=
        H.upd hd hs' D' (.dict i' ((r.mono tk).put name (vv.mono tk)))
      refine wpAny_bind (wpAny_pure (wpAny_bind (wpAny_bind (wpAny_loadPart (o := instObj C dx) hxx ?_))))
      show wpAny _ _ (classData C >>= _) _ _ _
      refine wpAny_bind ((looks_clsIn X hc) _ _ _ _ (fun _ _ e => e) ?_)
      rw [hd']
      refine wpAny_pure (a := some dx) (wpAny_bind (wpAny_pure (wpAny_bind ?_)))
      unfold nsSet
      refine wpAny_bind (wpAny_bind (wpAny_askSetting (wpAny_pure (wpAny_bind (wpAny_mkText (wpAny_bind (wpAny_loadPart (by exact D) ?_)))))))
      obtain ⟨ds, ep, hcd, hdd, hk, hpp, hn⟩ := i
      rw [hdd]
      dsimp only
      have cc : aRefKeyMayBeTheName name ds = false := by
        rw [aRefKeyMayBeTheName_eq]
        unfold aRefKeyMayBeTheNameByArray
        have : ds.any (·.refKey) = false := by
          rw [Array.any_eq_false']
          intro e he
          obtain ⟨k, hk', _⟩ := hk e he
          obtain ⟨t, ht⟩ := Value.isStrOf_shape hk'
          simp [DictEntry.refKey, ht]
        rw [this, Bool.and_false]
      rw [cc]
      refine wpAny_updatePart D ?_
      obtain ⟨ds', ep', hcd', hdd', hk'', hpp', hn'⟩ := i'
      have hlen : ds'.size ≤ sizeLine + 1 := by
        have e1 := hpp'.length
        have e2 : ds'.toList.length = ds'.size := by simp
        have e3 : (stored kvs name xv).length ≤ kvs.length + 1 := by
          unfold stored; split <;> simp
        have e4 := r.length
        rw [sizeLine_eq]; omega
      refine wpAny_bind (wpAny_lookBehind D' (by rw [hdd']; exact pastItsLine_dict hlen) ?_)
      exact wpAny_pure (k () () _ _ _ q H' (.ofC (.upd hd hs')) trivial)
end
end Mine

set_option autoImplicit false
set_option maxRecDepth 100000
namespace Mine
open PySem PySem.W PySem.Calls PyProof.Rows

section
variable {c : Cx} {f : Fn} {ℓ : Locs} {σ σ' : Store} {h h' h₀ : Heap} {p : Pl}

/-! ## the heap grows, a hidden object turns -/
theorem Good.ext (g : Good c σ h) (k : ∀ b o, h.get? b = some o → h'.get? b = some o) : Good c σ h' :=
  ⟨fun b x e => k b x (g.keep b x e), fun a x e => let ⟨oc, p, r⟩ := g.obj a x e; ⟨oc, k _ _ p, r.mono fun _ _ e => k _ _ e⟩, g.new, g.stat, g.low, g.frExt k fun _ _ e => e⟩
theorem Step.ext {O : Addr → Prop} (k : ∀ b o, h.get? b = some o → h'.get? b = some o) : Step σ σ O h h' := ⟨fun a o e _ _ => .same (k a o e), fun _ a b => absurd a b, fun _ e => e⟩
theorem Here.ext (H : Here c f ℓ σ p h) (k : ∀ b o, h.get? b = some o → h'.get? b = some o) : Here c f ℓ σ p h' := H.call (.ext k) (H.good.ext k)
/-! ## classes -/
theorem ca_class {C fI : Addr} {d : Nat} {hf : Bool} {as : List AV} {kw : List (Str × AV)} {Φ : AV → Store → Prop} (hm : makesIn c.K C = true) (hi : findIn c.K (.ref C) "__init__" = some (some (.ref fI))) (hfn : isFn c.K (.ref fI) = true)
    (q : ∀ x dx, σ dx = none → σ x = none → dx ≠ x → Ca c d hf ((σ.set dx (.dict [])).set x (.inst C dx)) (.val (.ref fI)) (.ref x :: as) kw fun v σ' => v = .none ∧ Φ (.ref x) σ') :
    Ca c (d + 1) hf σ (.val (.ref C)) as kw Φ := by
  intro A s g' xs ks R ok rm G vg va vk k
  cases vg
  have X := ok.X.keeps G.keep
  obtain ⟨hh, g, dr, t, os⟩ := s
  dsimp only at G va vk X k
  refine make_core (makes_of X hm) (looks_findIn X hi) (fun self => bind_fn X self (beq_iff_eq.mp hfn)) (.inl rfl) ?_
  have G₁ : Good c (σ.set hh.objs.size (.dict [])) (hh.push emptyDict) := G.alloc (.dict (kvs := []) ⟨#[], 0, ⟨rfl, rfl, rfl⟩, rfl, fun _ he => by simp at he, Pairs.nil, List.nodup_nil⟩ .nil)
  have sz : (hh.push emptyDict).objs.size = hh.objs.size + 1 := Heap.size_push _ _
  have G₂ : Good c ((σ.set hh.objs.size (.dict [])).set (hh.objs.size + 1) (.inst C hh.objs.size)) ((hh.push emptyDict).push (instObj C hh.objs.size)) := by
    have := G₁.alloc (o := .inst C hh.objs.size) (oc := instObj C hh.objs.size) .inst
    rwa [sz] at this
  have S₁ : StepC σ (σ.set hh.objs.size (.dict [])) hh (hh.push emptyDict) := .alloc
  have S₂ : StepC (σ.set hh.objs.size (.dict [])) ((σ.set hh.objs.size (.dict [])).set (hh.objs.size + 1) (.inst C hh.objs.size)) (hh.push emptyDict) ((hh.push emptyDict).push (instObj C hh.objs.size)) := by
    have := Step.alloc (σ := σ.set hh.objs.size (.dict [])) (h := hh.push emptyDict) (o := .inst C hh.objs.size) (oc := instObj C hh.objs.size)
    rwa [sz] at this
  have S := S₁.transC S₂
  have tk := S.tkC G
  have n1 : σ (hh.objs.size + 1) = none := by
    cases q : σ (hh.objs.size + 1) with
    | none => rfl
    | some o => exact absurd (G.lt (a := hh.objs.size + 1) (by rw [q]; simp)) (Nat.not_lt.mpr (Nat.le_succ _))
  refine q (hh.objs.size + 1) hh.objs.size G.size_off n1 (Nat.ne_of_lt (Nat.lt_succ_self _)) _ ⟨_, g, dr, t, os⟩ (.ref fI) (.ref (hh.objs.size + 1) :: xs) ks _ ok ?_ G₂ (.val _) (.cons (.ref _) (va.mono tk)) (vk.mono tk) fun v x σ' h' tk' qq G' S' vv => ?_
  · refine ⟨rm.frames, ?_, ?_, rm.hand⟩
    · have := rm.depth
      show A.depth + 1 + 5 * d ≤ 900
      omega
    · have := rm.units
      have e : (A.under (Code.builtin "type.__call__" ⟨.ref C :: xs, ks⟩)).units = A.units + (Code.builtin "type.__call__" ⟨.ref C :: xs, ks⟩).cUnits := rfl
      have e2 : (Code.builtin "type.__call__" ⟨.ref C :: xs, ks⟩).cUnits ≤ 50 := by
        have e3 : (Code.builtin "type.__call__" ⟨.ref C :: xs, ks⟩).frames = 0 := rfl
        show 1 + 3 * (Code.builtin "type.__call__" ⟨.ref C :: xs, ks⟩).frames ≤ 50
        rw [e3]; decide
      rw [e]; omega
  · obtain ⟨rfl, qq⟩ := qq
    cases vv
    exact And.intro rfl (k _ _ σ' h' tk' qq G' (S.transC S') (.ref _))

/-! ## statements -/
noncomputable def SeqK (c : Cx) (f : Fn) (rest : List Stmt) (Φ : AF → Locs → Store → Prop) : AF → Locs → Store → Prop
  | .next, ℓ, σ => Ss c f ℓ σ rest Φ
  | .brk, ℓ, σ => Φ .brk ℓ σ
  | .cont, ℓ, σ => Φ .cont ℓ σ
  | .ret v, ℓ, σ => Φ (.ret v) ℓ σ
theorem ss_nil {Φ : AF → Locs → Store → Prop} (q : Φ .next ℓ σ) : Ss c f ℓ σ [] Φ := by
  intro A p s Q E ok rm H k
  exact wpAny_execs_nil (k .next .next ℓ σ s.heap s.toks q H .refl .next)
theorem ss_cons {st : Stmt} {rest : List Stmt} {Φ : AF → Locs → Store → Prop} (q : St c f ℓ σ st (SeqK c f rest Φ)) : Ss c f ℓ σ (st :: rest) Φ := by
  intro A p s Q E ok rm H k
  refine wpAny_execs_cons (q A p s _ E ok rm H fun r fl ℓ₁ σ₁ h₁ t₁ q₁ H₁ s₁ fr => ?_)
  cases fr with
  | next => exact q₁ A p _ Q E ok rm H₁ fun r fl ℓ₂ σ₂ h₂ t₂ q₂ H₂ s₂ fr => k r fl ℓ₂ σ₂ h₂ t₂ q₂ H₂ (s₁.trans H₁ s₂) fr
  | brk => exact k .brk .brk ℓ₁ σ₁ h₁ t₁ q₁ H₁ s₁ .brk
  | cont => exact k .cont .cont ℓ₁ σ₁ h₁ t₁ q₁ H₁ s₁ .cont
  | ret v => exact k (.ret _) (.ret _) ℓ₁ σ₁ h₁ t₁ q₁ H₁ s₁ (.ret v)
theorem st_if {t : Expr} {a b : List Stmt} {pos : Pos} {Φ : AF → Locs → Store → Prop} (q : Te c f ℓ σ t fun z σ₁ => if z = true then Ss c f ℓ σ₁ a Φ else Ss c f ℓ σ₁ b Φ) : St c f ℓ σ (.If t a b pos) Φ := by
  intro A p s Q E ok rm H k
  refine wpAny_If (q A p s [] _ E ok rm H .nil fun z z' σ₁ h₁ t₁ q₁ H₁ s₁ vz => ?_)
  subst vz
  cases z <;> exact q₁ A p _ Q E ok rm H₁ fun r fl ℓ₂ σ₂ h₂ t₂ q₂ H₂ s₂ fr => k r fl ℓ₂ σ₂ h₂ t₂ q₂ H₂ (s₁.trans H₁ s₂) fr
theorem st_return {e : Expr} {pos : Pos} {Φ : AF → Locs → Store → Prop} (q : Ev c f ℓ σ e fun v σ₁ => Φ (.ret v) ℓ σ₁) : St c f ℓ σ (.Return (some e) pos) Φ := by
  intro A p s Q E ok rm H k
  exact wpAny_Return_some (q A p s [] _ E ok rm H .nil fun v v' σ₁ h₁ t₁ q₁ H₁ s₁ vv => k (.ret v) (.ret v') ℓ σ₁ h₁ t₁ q₁ H₁ s₁ (.ret vv))
theorem st_return_none {pos : Pos} {Φ : AF → Locs → Store → Prop} (q : Φ (.ret .none) ℓ σ) : St c f ℓ σ (.Return none pos) Φ := by
  intro A p s Q E ok rm H k
  exact wpAny_Return_none (k (.ret .none) (.ret .none) ℓ σ s.heap s.toks q H .refl (.ret .none))
theorem st_continue {pos : Pos} {Φ : AF → Locs → Store → Prop} (q : Φ .cont ℓ σ) : St c f ℓ σ (.Continue pos) Φ := by
  intro A p s Q E ok rm H k
  exact wpAny_Continue (k .cont .cont ℓ σ s.heap s.toks q H .refl .cont)
theorem st_expr {e : Expr} {pos : Pos} {Φ : AF → Locs → Store → Prop} (q : Ev c f ℓ σ e fun _ σ₁ => Φ .next ℓ σ₁) (hs : ∀ env, swapsWith e none pos.line env = pure false := by intro _; rfl) : St c f ℓ σ (.Expr e pos) Φ := by
  intro A p s Q E ok rm H k
  refine wpAny_Expr_any (q A p s [] _ E ok rm H .nil fun v v' σ₁ h₁ t₁ q₁ H₁ s₁ vv => k .next .next ℓ σ₁ h₁ t₁ q₁ H₁ s₁ .next) ?_ (hs _)
  unfold interactive
  show (f.scope.kind == .module && _) = false
  rw [H.isFn]; rfl

/-! ## targets -/
theorem as_local {x : Str} {pos : Pos} {v : AV} {Φ : Locs → Store → Prop} (hk : f.kind x = some .local) (q : Φ (ℓ.set x v) σ) : As c f ℓ σ (.Name x pos) v Φ := by
  intro A p s xv Q E ok rm H vv k
  obtain ⟨m, n, r⟩ := H.ns
  refine wpAny_assign_Name (wpAny_storeName_local (env := f.env p) hk n (fun h' hn hs => ?_) ?_)
  · obtain ⟨H', st⟩ := H.stored hk hn hs r vv
    exact k _ σ h' _ q H' st
  · show (f.scope.kind == .class || (f.scope.kind == .module && _)) = false
    rw [H.isFn]; rfl
theorem as_cell {x : Str} {pos : Pos} {v : AV} {Φ : Locs → Store → Prop} (hfn : f.func.isSome = true) (hk : f.kind x = some .cell) (q : Φ (ℓ.set x v) σ) : As c f ℓ σ (.Name x pos) v Φ := by
  intro A p s xv Q E ok rm H vv k
  obtain ⟨a, ha⟩ := H.has x hk
  obtain ⟨v0, ic⟩ := H.cells x a ha
  refine wpAny_assign_Name (wpAny_storeName_cell (env := f.env p) H.isFn hk ha ic fun h' hc hs => ?_)
  obtain ⟨H', st⟩ := H.storedC hfn hk ha hc hs vv
  exact k _ σ h' _ q H' st
theorem as_attr {o : Expr} {attr : Str} {pos : Pos} {v : AV} {Φ : Locs → Store → Prop} (q : Ev c f ℓ σ o fun ov σ₁ => OpU c f ℓ σ₁ [ov, v] (ap2 fun o v => setAttr o attr v) fun σ₂ => Φ ℓ σ₂) : As c f ℓ σ (.Attribute o attr pos) v Φ := by
  intro A p s xv Q E ok rm H vv k
  rw [assign_Attribute]
  refine wpAny_bind (wpAny_holding (q A p s [] _ E ok rm H .nil fun ov ov' σ₁ h₁ t₁ q₁ H₁ s₁ vo => wpAny_bind (wpAny_standAt (wpAny_bind (wpAny_holding ?_)))))
  exact q₁ A p _ [ov', xv] _ E ok rm H₁ (.cons vo (.one (vv.mono (s₁.tk H)))) fun _ _ σ₂ h₂ t₂ q₂ H₂ s₂ _ => wpAny_release (k ℓ σ₂ h₂ t₂ q₂ H₂ (s₁.trans H₁ s₂))
theorem as_sub {o i : Expr} {pos : Pos} {v : AV} {Φ : Locs → Store → Prop} (q : Ev c f ℓ σ o fun ov σ₁ => Ev c f ℓ σ₁ i fun iv σ₂ => OpU c f ℓ σ₂ [ov, iv, v] (ap3 setItem) fun σ₃ => Φ ℓ σ₃) : As c f ℓ σ (.Subscript o i pos) v Φ := by
  intro A p s xv Q E ok rm H vv k
  rw [assign_Subscript]
  refine wpAny_bind (wpAny_holding (q A p s [] _ E ok rm H .nil fun ov ov' σ₁ h₁ t₁ q₁ H₁ s₁ vo => ?_))
  refine wpAny_bind (wpAny_holding (q₁ A p _ [] _ E ok rm H₁ .nil fun iv iv' σ₂ h₂ t₂ q₂ H₂ s₂ vi => wpAny_bind (wpAny_standAt (wpAny_bind (wpAny_holding ?_)))))
  exact q₂ A p _ [ov', iv', xv] _ E ok rm H₂ (.cons (vo.mono (s₂.tk H₁)) (.cons vi (.one ((vv.mono (s₁.tk H)).mono (s₂.tk H₁))))) fun _ _ σ₃ h₃ t₃ q₃ H₃ s₃ _ => wpAny_release (k ℓ σ₃ h₃ t₃ q₃ H₃ ((s₁.trans H₁ s₂).trans H₂ s₃))
/-- targets, in order -/
noncomputable def AsL (c : Cx) (f : Fn) : List Expr → List AV → Locs → Store → (Locs → Store → Prop) → Prop
  | [], [], ℓ, σ, Φ => Φ ℓ σ
  | t :: ts, v :: vs, ℓ, σ, Φ => As c f ℓ σ t v fun ℓ₁ σ₁ => AsL c f ts vs ℓ₁ σ₁ Φ
  | _, _, _, _, _ => False
theorem assignEach_plain {e : Expr} {es : List Expr} {env : Env} (h : plainE e = true) : assignEach (e :: es) env = (false, assign e env) :: assignEach es env := by
  cases e <;> first | rfl | cases h
theorem assignEach_star {es : List Expr} {env : Env} (hp : es.all plainE = true) : (assignEach es env).findIdx? (·.1) = none := by
  induction es with
  | nil => rfl
  | cons e es ih =>
    rw [List.all_cons, Bool.and_eq_true] at hp
    rw [assignEach_plain hp.1, List.findIdx?_cons]
    simp [ih hp.2]
theorem assignEach_len {es : List Expr} {env : Env} (hp : es.all plainE = true) : (assignEach es env).length = es.length := by
  induction es with
  | nil => rfl
  | cons e es ih =>
    rw [List.all_cons, Bool.and_eq_true] at hp
    rw [assignEach_plain hp.1, List.length_cons, List.length_cons, ih hp.2]
theorem AsL.len : ∀ {ts : List Expr} {vs : List AV} {ℓ : Locs} {σ : Store} {Φ : Locs → Store → Prop} {A : Around} {p : Pl} {s : Shared} {xs : List Value} {Q : Unit → Shared → Prop} {E : Value → Shared → Prop}, c.Ok → Room c f.d f.hf A → Here c f ℓ σ p s.heap → VRs s.heap vs xs →
    (ts.all plainE = true) → AsL c f ts vs ℓ σ Φ → (∀ ℓ' σ' h' tk, Φ ℓ' σ' → Here c f ℓ' σ' p h' → Step σ σ' (Own f p) s.heap h' → Q () { s with heap := h', toks := tk }) →
    wpAny (model c.prog c.w) A (assignInOrder ((assignEach ts (f.env p)).map (·.2)) xs) Q E s
  | [], [], ℓ, σ, Φ, A, p, s, xs, Q, E, ok, rm, H, va, hp, q, k => by
    cases va
    exact wpAny_pure (k ℓ σ s.heap s.toks q H .refl)
  | t :: ts, v :: vs, ℓ, σ, Φ, A, p, s, xs, Q, E, ok, rm, H, va, hp, q, k => by
    cases va with
    | cons vv va =>
      rename_i x xs
      rw [List.all_cons, Bool.and_eq_true] at hp
      rw [assignEach_plain hp.1]
      show wpAny _ _ (holding xs (assign t (f.env p) x) >>= fun _ => assignInOrder ((assignEach ts (f.env p)).map (·.2)) xs) _ _ _
      have q : As c f ℓ σ t v fun ℓ₁ σ₁ => AsL c f ts vs ℓ₁ σ₁ Φ := q
      refine wpAny_bind (wpAny_holding (q A p s x _ E ok rm H vv fun ℓ₁ σ₁ h₁ t₁ q₁ H₁ s₁ => ?_))
      exact AsL.len (s := { s with heap := h₁, toks := t₁ }) ok rm H₁ (va.mono (s₁.tk H)) hp.2 q₁ fun ℓ₂ σ₂ h₂ t₂ q₂ H₂ s₂ => k ℓ₂ σ₂ h₂ t₂ q₂ H₂ (s₁.trans H₁ s₂)
  | [], _ :: _, _, _, _, _, _, _, _, _, _, _, _, _, _, _, q, _ => q.elim
  | _ :: _, [], _, _, _, _, _, _, _, _, _, _, _, _, _, _, q, _ => q.elim
theorem AsL.eq_len : ∀ {ts : List Expr} {vs : List AV} {ℓ : Locs} {σ : Store} {Φ : Locs → Store → Prop}, AsL c f ts vs ℓ σ Φ → c.Ok → ∀ {A : Around} {s : Shared}, Room c f.d f.hf A → Here c f ℓ σ p s.heap → True := fun _ _ _ _ _ _ => trivial
theorem as_tuple {ts : List Expr} {n : Nat} {pos : Pos} {vs : List AV} {Φ : Locs → Store → Prop} (hf : f.hf = true) (hl : ts.length = vs.length) (q : AsL c f ts vs ℓ σ Φ) (hp : ts.all plainE = true := by rfl) : As c f ℓ σ (.Tuple ts n pos) (.tup vs) Φ := by
  intro A p s xv Q E ok rm H vv k
  cases vv with
  | tup e r =>
    rename_i a xs
    refine wpAny_assign_Tuple (rm.hand hf) ⟨_, e, rfl, 0, rfl⟩ ?_ (assignEach_star hp) fun h' hx => ?_
    · rw [assignEach_len hp, hl, r.length, Array.length_toList]
    · have kp : ∀ b o, s.heap.get? b = some o → h'.get? b = some o := fun b o e => hx b o (Nat.ne_of_lt (Heap.lt_size e)) e
      have H' := H.ext kp
      exact AsL.len (s := { s with heap := h' }) ok rm H' (r.mono fun a xs e => kp _ _ e) hp q fun ℓ₂ σ₂ h₂ t₂ q₂ H₂ s₂ => k ℓ₂ σ₂ h₂ t₂ q₂ H₂ ((Step.ext kp).trans H' s₂)
theorem st_assign {t e : Expr} {pos : Pos} {Φ : AF → Locs → Store → Prop} (q : Ev c f ℓ σ e fun v σ₁ => As c f ℓ σ₁ t v fun ℓ₂ σ₂ => Φ .next ℓ₂ σ₂)
    (hs : ∀ env, swapsWithSole [t] e pos.line env = pure false := by intro _; rfl) (hw : ∀ env, swappedStores [t] e env = pure none := by intro _; rfl) (hp : plainE t = true := by rfl) : St c f ℓ σ (.Assign [t] e pos) Φ := by
  intro A p s Q E ok rm H k
  show wpAny _ _ (exec (.Assign [t] e pos) (f.env p)) _ _ _
  rw [arm_exec_Assign]
  refine wpAny_bind (wpAny_standAt ?_)
  rw [hs]
  refine wpAny_bind (wpAny_pure ?_)
  rw [if_neg (by decide)]
  refine wpAny_bind (q A p s [] _ E ok rm H .nil fun v v' σ₁ h₁ t₁ q₁ H₁ s₁ vv => ?_)
  rw [hw]
  refine wpAny_bind (wpAny_pure ?_)
  rw [assignEach_plain hp]
  show wpAny _ A (do assignAll v' [assign t (f.env p)]; pure .next) Q E _
  refine wpAny_bind ?_
  exact q₁ A p _ v' _ E ok rm H₁ vv fun ℓ₂ σ₂ h₂ t₂ q₂ H₂ s₂ => wpAny_pure (k .next .next ℓ₂ σ₂ h₂ t₂ q₂ H₂ (s₁.trans H₁ s₂) .next)
theorem st_del_sub {o i : Expr} {dpos pos : Pos} {Φ : AF → Locs → Store → Prop} (q : Ev c f ℓ σ o fun ov σ₁ => Ev c f ℓ σ₁ i fun iv σ₂ => OpU c f ℓ σ₂ [ov, iv] (ap2 delItem) fun σ₃ => Φ .next ℓ σ₃) : St c f ℓ σ (.Delete [.Subscript o i dpos] pos) Φ := by
  intro A p s Q E ok rm H k
  refine wpAny_Delete (wpAny_deleteEach_cons (wpAny_delete_Subscript ?_))
  refine q A p s [] _ E ok rm H .nil fun ov ov' σ₁ h₁ t₁ q₁ H₁ s₁ vo => ?_
  refine q₁ A p _ [] _ E ok rm H₁ .nil fun iv iv' σ₂ h₂ t₂ q₂ H₂ s₂ vi => ?_
  exact q₂ A p _ [ov', iv'] _ E ok rm H₂ (.cons (vo.mono (s₂.tk H₁)) (.one vi)) fun _ _ σ₃ h₃ t₃ q₃ H₃ s₃ _ => wpAny_deleteEach_nil (k .next .next ℓ σ₃ h₃ t₃ q₃ H₃ ((s₁.trans H₁ s₂).trans H₂ s₃) .next)
end
end Mine

set_option autoImplicit false
set_option maxRecDepth 100000
namespace Mine
open PySem PySem.W PySem.Calls PyProof.Rows

section
variable {c : Cx} {f : Fn} {ℓ : Locs} {σ σ' : Store} {h h' : Heap} {p : Pl}

theorem VRs.set {v : AV} {x : Value} {vs : List AV} {xs : List Value} : VRs h vs xs → VR h v x → ∀ j, VRs h (vs.set j v) (xs.set j x)
  | .nil, _, _ => .nil
  | .cons _ r, a, 0 => .cons a r
  | .cons b r, a, j + 1 => .cons b (r.set a j)
theorem VRs.size {vs : List AV} {xs : Array Value} (r : VRs h vs xs.toList) : vs.length = xs.size := r.length.trans Array.length_toList
/-! ## what the heap is asked -/
/-- a list: of the store's, or one of the text's own -/
noncomputable def ListIs (c : Cx) (σ : Store) (l : Addr) (vs : List AV) : Prop := σ l = some (.list vs) ∨ ∃ xs n, c.h₀.get? l = some (listObj xs n) ∧ ∀ h, KeepB c h → VRs h vs xs.toList
theorem list_at {l : Addr} {vs : List AV} (i : ListIs c σ l vs) (g : Good c σ h) : ∃ xs n, h.get? l = some (listObj xs n) ∧ VRs h vs xs.toList := by
  rcases i with i | ⟨xs, n, e, r⟩
  · obtain ⟨oc, e, r⟩ := g.obj l _ i
    cases r with
    | list r => exact ⟨_, _, e, r⟩
  · exact ⟨xs, n, g.keep _ _ e, r h g.keep⟩
theorem dict_at {d : Addr} {es : Es} (i : σ d = some (.dict es)) (g : Good c σ h) : ∃ kvs, h.DictOf (strKind c.prog c.w) d kvs ∧ KRs h es kvs ∧ (d == sysModules) = false := by
  obtain ⟨oc, e, r⟩ := g.obj d _ i
  cases r with
  | dict i' r => exact ⟨_, Heap.dictOf_iff.mpr ⟨oc, e, i'⟩, r, beq_eq_false_iff_ne.mpr (by rintro rfl; rw [g.low] at i; cases i)⟩

/-- a dict turned -/
theorem dict_turned {d : Addr} {es es' : Es} {kvs' : List (Str × Value)} (H : Here c f ℓ σ p h) (i : σ d = some (.dict es)) (hd : h'.DictOf (strKind c.prog c.w) d kvs') (hs : Heap.SameBut d h h') (r : TK h h' → KRs h' es' kvs') :
    Here c f ℓ (σ.set d (.dict es')) p h' ∧ Step σ (σ.set d (.dict es')) (Own f p) h h' := by
  obtain ⟨o', e', i'⟩ := Heap.dictOf_iff.mp hd
  exact ⟨H.upd i hs e' (.dict i' (r (TK.upd H.good i hs))), .ofC (.upd i hs)⟩
theorem dict_turnedC {d : Addr} {es es' : Es} {kvs' : List (Str × Value)} (g : Good c σ h) (i : σ d = some (.dict es)) (hd : h'.DictOf (strKind c.prog c.w) d kvs') (hs : Heap.SameBut d h h') (r : TK h h' → KRs h' es' kvs') :
    Good c (σ.set d (.dict es')) h' ∧ StepC σ (σ.set d (.dict es')) h h' := by
  obtain ⟨o', e', i'⟩ := Heap.dictOf_iff.mp hd
  exact ⟨g.upd i hs e' (.dict i' (r (TK.upd g i hs))), .upd i hs⟩

/-! ## helpers: an operation that leaves the heap -/
theorem op2_of {a b v : AV} {t : Value → Value → Sem Value} {Φ : AV → Store → Prop}
    (q : ∀ (A : Around) (s : Shared) (x y : Value) (Q : Value → Shared → Prop) (E : Value → Shared → Prop), c.Ok → Room c f.d f.hf A → Good c σ s.heap → VR s.heap a x → VR s.heap b y →
      (∀ z tk, VR s.heap v z → Q z { s with toks := tk }) → wpAny (model c.prog c.w) A (t x y) Q E s) (φ : Φ v σ) : Op c f ℓ σ [a, b] (ap2 t) Φ := by
  intro A p s xs Q E ok rm H va k
  cases va with
  | cons va r => cases r with
    | cons vb r => cases r; exact q A s _ _ Q E ok rm H.good va vb fun z tk vz => k v z σ s.heap tk φ H .refl vz
theorem op1_of {a v : AV} {t : Value → Sem Value} {Φ : AV → Store → Prop}
    (q : ∀ (A : Around) (s : Shared) (x : Value) (Q : Value → Shared → Prop) (E : Value → Shared → Prop), c.Ok → Room c f.d f.hf A → Good c σ s.heap → VR s.heap a x →
      (∀ z tk, VR s.heap v z → Q z { s with toks := tk }) → wpAny (model c.prog c.w) A (t x) Q E s) (φ : Φ v σ) : Op c f ℓ σ [a] (ap1 t) Φ := by
  intro A p s xs Q E ok rm H va k
  cases va with
  | cons va r => cases r; exact q A s _ Q E ok rm H.good va fun z tk vz => k v z σ s.heap tk φ H .refl vz
theorem opb_of {a : AV} {b : Bool} {t : Value → Sem Bool} {Φ : Bool → Store → Prop}
    (q : ∀ (A : Around) (s : Shared) (x : Value) (Q : Bool → Shared → Prop) (E : Value → Shared → Prop), c.Ok → Room c f.d f.hf A → Good c σ s.heap → VR s.heap a x →
      (∀ tk, Q b { s with toks := tk }) → wpAny (model c.prog c.w) A (t x) Q E s) (φ : Φ b σ) : OpB c f ℓ σ [a] (ap1 t) Φ := by
  intro A p s xs Q E ok rm H va k
  cases va with
  | cons va r => cases r; exact q A s _ Q E ok rm H.good va fun tk => k b b σ s.heap tk φ H .refl rfl

/-! ## ints, strs -/
theorem op_add {i j : Int} {Φ : AV → Store → Prop} (φ : Φ (.int (i + j)) σ) : Op c f ℓ σ [.int i, .int j] (ap2 (binaryOp .Add)) Φ :=
  op2_of (fun A s x y Q E ok rm g va vb k => by cases va; cases vb; exact add_int (k _ _ (.int _ _))) φ
theorem op_mod {i j : Int} {Φ : AV → Store → Prop} (hj : j ≠ 0) (φ : Φ (.int (i.fmod j)) σ) : Op c f ℓ σ [.int i, .int j] (ap2 (binaryOp .Mod)) Φ :=
  op2_of (fun A s x y Q E ok rm g va vb k => by cases va; cases vb; exact mod_int' hj (k _ _ (.int _ _))) φ
theorem op_fdiv {i j : Int} {Φ : AV → Store → Prop} (hj : j ≠ 0) (hp : Builtin.divisionGoesByPylong i j = false) (φ : Φ (.int (i.fdiv j)) σ) : Op c f ℓ σ [.int i, .int j] (ap2 (binaryOp .FloorDiv)) Φ :=
  op2_of (fun A s x y Q E ok rm g va vb k => by cases va; cases vb; exact floordiv_int hj (k _ _ (.int _ _)) (.inl hp)) φ
theorem op_eq_int {i j : Int} {Φ : AV → Store → Prop} (φ : Φ (.bool (i == j)) σ) : Op c f ℓ σ [.int i, .int j] (ap2 (compareOp .Eq)) Φ :=
  op2_of (fun A s x y Q E ok rm g va vb k => by cases va; cases vb; exact eq_int (k _ s.toks (.bool _))) φ
theorem op_ne_int {i j : Int} {Φ : AV → Store → Prop} (φ : Φ (.bool (i != j)) σ) : Op c f ℓ σ [.int i, .int j] (ap2 (compareOp .NotEq)) Φ :=
  op2_of (fun A s x y Q E ok rm g va vb k => by cases va; cases vb; exact ne_int (k _ s.toks (.bool _))) φ
theorem op_lt_int {i j : Int} {Φ : AV → Store → Prop} (φ : Φ (.bool (decide (i < j))) σ) : Op c f ℓ σ [.int i, .int j] (ap2 (compareOp .Lt)) Φ :=
  op2_of (fun A s x y Q E ok rm g va vb k => by cases va; cases vb; exact lt_int (k _ s.toks (.bool _))) φ
theorem op_gt_int {i j : Int} {Φ : AV → Store → Prop} (φ : Φ (.bool (decide (j < i))) σ) : Op c f ℓ σ [.int i, .int j] (ap2 (compareOp .Gt)) Φ :=
  op2_of (fun A s x y Q E ok rm g va vb k => by cases va; cases vb; exact gt_int (k _ s.toks (.bool _))) φ
theorem op_eq_str {i j : Str} {Φ : AV → Store → Prop} (φ : Φ (.bool (i == j)) σ) : Op c f ℓ σ [.str i, .str j] (ap2 (compareOp .Eq)) Φ :=
  op2_of (fun A s x y Q E ok rm g va vb k => by cases va; cases vb; exact eq_str (k _ s.toks (.bool _))) φ
theorem op_ne_str {i j : Str} {Φ : AV → Store → Prop} (φ : Φ (.bool (i != j)) σ) : Op c f ℓ σ [.str i, .str j] (ap2 (compareOp .NotEq)) Φ :=
  op2_of (fun A s x y Q E ok rm g va vb k => by cases va; cases vb; exact ne_str (k _ s.toks (.bool _))) φ

noncomputable def AV.isNone : AV → Bool
  | .none => true
  | .val w => w == .none
  | _ => false
theorem isNone_of {v : AV} {x : Value} (r : VR h v x) : (x == Value.none) = v.isNone := by cases r <;> rfl
theorem op_is_none {v : AV} {Φ : AV → Store → Prop} (φ : Φ (.bool v.isNone) σ) : Op c f ℓ σ [v, .none] (ap2 (compareOp .Is)) Φ :=
  op2_of (fun A s x y Q E ok rm g va vb k => by cases vb; exact is_none (by rw [isNone_of va]; exact k _ s.toks (.bool _))) φ
theorem op_isnot_none {v : AV} {Φ : AV → Store → Prop} (φ : Φ (.bool (!v.isNone)) σ) : Op c f ℓ σ [v, .none] (ap2 (compareOp .IsNot)) Φ :=
  op2_of (fun A s x y Q E ok rm g va vb k => by cases vb; exact isNot_none (by rw [isNone_of va]; exact k _ s.toks (.bool _))) φ

/-! ## truth -/
theorem tr_none {Φ : Bool → Store → Prop} (φ : Φ false σ) : OpB c f ℓ σ [.none] (ap1 truthy) Φ :=
  opb_of (fun A s x Q E ok rm g va k => by cases va; exact truthy_none (k s.toks)) φ
theorem tr_bool {b : Bool} {Φ : Bool → Store → Prop} (φ : Φ b σ) : OpB c f ℓ σ [.bool b] (ap1 truthy) Φ :=
  opb_of (fun A s x Q E ok rm g va k => by cases va; exact wpAny_truthy_bool (k s.toks)) φ
theorem tr_int {i : Int} {Φ : Bool → Store → Prop} (φ : Φ (i != 0) σ) : OpB c f ℓ σ [.int i] (ap1 truthy) Φ :=
  opb_of (fun A s x Q E ok rm g va k => by cases va; exact PyProof.Rows.truthy_int (k s.toks)) φ
theorem tr_str {x : Str} {Φ : Bool → Store → Prop} (hz : x.length ≤ 1000) (φ : Φ ((x.length : Int) != 0) σ) : OpB c f ℓ σ [.str x] (ap1 truthy) Φ :=
  opb_of (fun A s x Q E ok rm g va k => by cases va; exact PySem.P.truthy_str (by omega) (k _)) φ
theorem tr_list {l : Addr} {vs : List AV} {Φ : Bool → Store → Prop} (i : ListIs c σ l vs) (hz : vs.length ≤ 1000) (φ : Φ (!vs.isEmpty) σ) : OpB c f ℓ σ [.ref l] (ap1 truthy) Φ :=
  opb_of (fun A s x Q E ok rm g va k => by
    cases va
    obtain ⟨xs, n, e, r⟩ := list_at i g
    have len := r.size
    refine wpAny_truthy_list ⟨_, e, rfl, n, rfl⟩ (by omega) ?_
    have : (!xs.isEmpty) = !vs.isEmpty := by
      cases vs with
      | nil => have : xs = #[] := Array.eq_empty_of_size_eq_zero len.symm; subst this; rfl
      | cons a b => simp at len ⊢; intro h; subst h; simp at len
    rw [this]; exact k _) φ
theorem tr_tup {vs : List AV} {Φ : Bool → Store → Prop} (hz : vs.length ≤ 1000) (φ : Φ (!vs.isEmpty) σ) : OpB c f ℓ σ [.tup vs] (ap1 truthy) Φ :=
  opb_of (fun A s x Q E ok rm g va k => by
    cases va with
    | tup e r =>
      rename_i a xs
      have len := r.size
      refine truthy_tuple ⟨_, e, rfl, 0, rfl⟩ (by omega) ?_
      have : (!xs.isEmpty) = !vs.isEmpty := by
        cases vs with
        | nil => have : xs = #[] := Array.eq_empty_of_size_eq_zero len.symm; subst this; rfl
        | cons a b => simp at len ⊢; intro h; subst h; simp at len
      rw [this]; exact k _) φ
theorem tr_dict {d : Addr} {es : Es} {Φ : Bool → Store → Prop} (i : σ d = some (.dict es)) (hz : es.length ≤ 1000) (φ : Φ (!es.isEmpty) σ) : OpB c f ℓ σ [.ref d] (ap1 truthy) Φ :=
  opb_of (fun A s x Q E ok rm g va k => by
    cases va
    obtain ⟨kvs, hd, r, low⟩ := dict_at i g
    have len := r.length
    refine wpAny_truthy_dict low hd (by omega) ?_
    have : (!kvs.isEmpty) = !es.isEmpty := by cases r <;> rfl
    rw [this]; exact k _) φ

/-! ## dicts -/
theorem op_in {d : Addr} {es : Es} {k : Str} {Φ : AV → Store → Prop} (i : σ d = some (.dict es)) (φ : Φ (.bool (es.has k)) σ) : Op c f ℓ σ [.str k, .ref d] (ap2 (compareOp .In)) Φ :=
  op2_of (fun A s x y Q E ok rm g va vb kk => by
    cases va; cases vb
    obtain ⟨kvs, hd, r, low⟩ := dict_at i g
    refine wpAny_in_of (strKind_is c.prog c.w k _) low hd.mapOf ?_
    have : (valueAt kvs k).isSome = es.has k := by
      rw [Es.has_get]
      cases e : es.get k with
      | none => rw [r.get_none e]; rfl
      | some v => obtain ⟨x, hx, _⟩ := r.get e; rw [hx]; rfl
    rw [this]; exact kk _ _ (.bool _)) φ
theorem op_notin {d : Addr} {es : Es} {k : Str} {Φ : AV → Store → Prop} (i : σ d = some (.dict es)) (φ : Φ (.bool (!es.has k)) σ) : Op c f ℓ σ [.str k, .ref d] (ap2 (compareOp .NotIn)) Φ :=
  op2_of (fun A s x y Q E ok rm g va vb kk => by
    cases va; cases vb
    obtain ⟨kvs, hd, r, low⟩ := dict_at i g
    refine wpAny_notIn_of (strKind_is c.prog c.w k _) low hd.mapOf ?_
    have : (valueAt kvs k).isSome = es.has k := by
      rw [Es.has_get]
      cases e : es.get k with
      | none => rw [r.get_none e]; rfl
      | some v => obtain ⟨x, hx, _⟩ := r.get e; rw [hx]; rfl
    rw [this]; exact kk _ _ (.bool _)) φ

/-- the subscript is no slice -/
noncomputable def PlainSub (sl : Expr) : Prop := ∀ o i, subscripted sl false o i = operate [o, i] (getItem o i)
theorem op_sub_dict {e sl : Expr} {d : Addr} {es : Es} {k : Str} {v : AV} {Φ : AV → Store → Prop} (hs : PlainSub sl) (i : σ d = some (.dict es)) (hv : es.get k = some v) (φ : Φ v σ) : Op c f ℓ σ [.ref d, .str k] (ap2 (subscriptTail e sl)) Φ :=
  op2_of (fun A s x y Q E ok rm g va vb kk => by
    cases va; cases vb
    obtain ⟨kvs, hd, r, low⟩ := dict_at i g
    obtain ⟨x, hx, vr⟩ := r.get hv
    exact tail_any hd.typeIs F.slot_dict_getitem.lookup (wpAny_getItem_of (strKind_is c.prog c.w k _) hd.mapOf hx (kk _ _ vr)) (hs _ _)) φ
theorem op_sub_list {e sl : Expr} {l : Addr} {vs : List AV} {i : Int} {v : AV} {Φ : AV → Store → Prop} (hs : PlainSub sl) (il : ListIs c σ l vs) (h0 : 0 ≤ i) (h1 : i < 2 ^ 63) (hv : vs[i.toNat]? = some v) (φ : Φ v σ) :
    Op c f ℓ σ [.ref l, .int i] (ap2 (subscriptTail e sl)) Φ :=
  op2_of (fun A s x y Q E ok rm g va vb kk => by
    cases va; cases vb
    obtain ⟨xs, n, e, r⟩ := list_at il g
    obtain ⟨x, hx, vr⟩ := r.get hv
    have hl : s.heap.IsList l xs := ⟨_, e, rfl, n, rfl⟩
    exact tail_any hl.typeIs slot_list_getitem.lookup (wpAny_getItem_list hl h0 h1 (by rw [← Array.getElem?_toList]; exact hx) (kk _ s.toks vr)) (hs _ _)) φ
theorem op_sub_list_last {e sl : Expr} {l : Addr} {vs : List AV} {v : AV} {Φ : AV → Store → Prop} (hs : PlainSub sl) (il : ListIs c σ l vs) (hv : vs[vs.length - 1]? = some v) (φ : Φ v σ) :
    Op c f ℓ σ [.ref l, .int (-1)] (ap2 (subscriptTail e sl)) Φ :=
  op2_of (fun A s x y Q E ok rm g va vb kk => by
    cases va; cases vb
    obtain ⟨xs, n, e, r⟩ := list_at il g
    obtain ⟨x, hx, vr⟩ := r.get hv
    have len := r.size
    have pos : 0 < vs.length := by
      cases vs with
      | nil => simp at hv
      | cons a b => simp
    have hl : s.heap.IsList l xs := ⟨_, e, rfl, n, rfl⟩
    refine tail_any hl.typeIs slot_list_getitem.lookup (wpAny_getItem_list_neg hl (by decide) (by omega) (by decide) ?_ (kk _ s.toks vr)) (hs _ _)
    rw [← Array.getElem?_toList, ← hx]
    congr 1
    omega) φ
theorem op_sub_tup {e sl : Expr} {vs : List AV} {i : Int} {v : AV} {Φ : AV → Store → Prop} (hs : PlainSub sl) (h0 : 0 ≤ i) (h1 : i < 2 ^ 63) (hv : vs[i.toNat]? = some v) (φ : Φ v σ) :
    Op c f ℓ σ [.tup vs, .int i] (ap2 (subscriptTail e sl)) Φ :=
  op2_of (fun A s x y Q E ok rm g va vb kk => by
    cases vb
    cases va with
    | tup e r =>
      rename_i a xs
      obtain ⟨x, hx, vr⟩ := r.get hv
      have lt : i.toNat < xs.size := by
        obtain ⟨q, _⟩ := List.getElem?_eq_some_iff.mp hx
        rw [Array.length_toList] at q; exact q
      refine tail_any (T := "tuple") ⟨_, e, rfl⟩ slot_tuple_getitem.lookup (PyProof.Rows.getItem_tuple (items := xs) ⟨_, e, rfl, 0, rfl⟩ (by omega) h1 (j := i.toNat) ?_ (by rw [← Array.getElem?_toList]; exact hx) (kk _ s.toks vr)) (hs _ _)
      unfold seqIndex?
      have n0 : ¬ i < 0 := by omega
      have b1 : (decide (0 ≤ i) && decide (i < (xs.size : Int))) = true := by
        rw [decide_eq_true h0, decide_eq_true (by omega)]; rfl
      simp only [n0, if_false]
      rw [if_pos b1]) φ
theorem opu_set_dict {d : Addr} {es : Es} {k : Str} {v : AV} {Φ : Store → Prop} (i : σ d = some (.dict es)) (hz : es.length ≤ 1000) (φ : Φ (σ.set d (.dict (es.put k v)))) : OpU c f ℓ σ [.ref d, .str k, v] (ap3 setItem) Φ := by
  intro A p s xs Q E ok rm H va kk
  cases va with
  | cons vd r => cases r with
    | cons vk r => cases r with
      | cons vv r =>
        cases r; cases vd; cases vk
        obtain ⟨kvs, hd, r, low⟩ := dict_at i H.good
        refine wpAny_setItem_pairs (strKind_is c.prog c.w k _) hd (fun h' hd' hs => ?_) (by rw [← r.length, sizeLine_eq]; omega)
        obtain ⟨H', st⟩ := dict_turned (es' := es.put k v) H i hd' hs fun tk => (r.mono tk).put k (vv.mono tk)
        exact kk () () _ h' _ φ H' st trivial
theorem opu_set_list {l : Addr} {vs : List AV} {i : Int} {v : AV} {Φ : Store → Prop} (il : σ l = some (.list vs)) (h0 : 0 ≤ i) (h1 : i < vs.length) (h2 : vs.length ≤ 1000) (φ : Φ (σ.set l (.list (vs.set i.toNat v)))) : OpU c f ℓ σ [.ref l, .int i, v] (ap3 setItem) Φ := by
  intro A p s xs Q E ok rm H va kk
  cases va with
  | cons vd r => cases r with
    | cons vk r => cases r with
      | cons vv r =>
        cases r; cases vd; cases vk
        rename_i xv _
        obtain ⟨xs, n, e, r⟩ := list_at (.inl il) H.good
        have len := r.size
        obtain ⟨j, rfl⟩ := Int.eq_ofNat_of_zero_le h0
        have hj : j < xs.size := by omega
        have hl : s.heap.IsList l xs := ⟨_, e, rfl, n, rfl⟩
        have hs : Heap.SameBut l s.heap (s.heap.update l (Obj.mapSeq (·.setIfInBounds j xv))) := .update ..
        obtain ⟨n', hn⟩ : ∃ n', Obj.mapSeq (·.setIfInBounds j xv) (listObj xs n) = listObj (xs.setIfInBounds j xv) n' := ⟨_, rfl⟩
        have he : (s.heap.update l (Obj.mapSeq (·.setIfInBounds j xv))).get? l = some (listObj (xs.setIfInBounds j xv) n') := (Heap.get?_update_self (Obj.mapSeq (·.setIfInBounds j xv)) e rfl).trans (congrArg some hn)
        have tk := TK.upd H.good il hs
        have H' := H.upd il hs he (.list (vs := vs.set j v) (by rw [Array.toList_setIfInBounds]; exact (r.mono tk).set (vv.mono tk) j))
        exact ki_setAt (n := n) e h0 (by omega) (by omega) (kk () () _ _ s.toks φ H' (.ofC (.upd il hs)) trivial)
end
end Mine

set_option autoImplicit false
set_option maxRecDepth 100000
namespace Mine
open PySem PySem.W PySem.Calls PyProof.Rows

/-! ## hidden objects -/
noncomputable def KeepBut (wr : List Addr) (h h' : Heap) : Prop := ∀ b o, b ∉ wr → h.get? b = some o → h'.get? b = some o

section
variable {c : Cx} {f : Fn} {ℓ : Locs} {σ σ' σ'' : Store} {h h' h₀ h'' : Heap} {p : Pl} {wr : List Addr}

noncomputable def Hids (c : Cx) (σ : Store) (h : Heap) (wr : List Addr) : Prop := ∀ b ∈ wr, σ b = none ∧ c.h₀.get? b = none ∧ (∀ env ∈ c.stk, env.frame ≠ some b) ∧ ∃ o, h.get? b = some o ∧ ∀ xs, o ≠ tupObj xs
theorem nt_of {b : Addr} (x : ∃ o vs, h.get? b = some o ∧ o.data = .fields vs) : ∃ o, h.get? b = some o ∧ ∀ xs, o ≠ tupObj xs := let ⟨o, vs, e, n⟩ := x; ⟨o, e, fun xs q => by rw [q] at n; cases n⟩
theorem Kp.fields {b : Addr} {o : Obj} {y : Option Obj} (x : ∃ o vs, h.get? b = some o ∧ o.data = .fields vs) (e : h.get? b = some o) (k : Kp o y) : y = some o := k.exact fun es ep q => by
  obtain ⟨o', vs, e', d⟩ := x; rw [e] at e'; cases e'; rw [q] at d; cases d
theorem Good.hidL (g : Good c σ h) (hw : Hids c σ h wr) (k : KeepBut wr h h') : Good c σ h' ∧ TK h h' := by
  have tk : TK h h' := fun a xs q => k a _ (fun m => by obtain ⟨_, _, _, o, e, n⟩ := hw a m; rw [q] at e; cases e; exact n _ rfl) q
  refine ⟨⟨fun a x q => k a x (fun m => by have := (hw a m).2.1; rw [q] at this; cases this) (g.keep a x q), fun a x q => ?_, g.new, g.stat, g.low, fun env he => (g.fr env he).turn (fun L m _ ns _ _ => ⟨m, ns.at' fun o e => k L o (fun mm => (hw L mm).2.2.1 env he (by assumption)) e⟩) fun _ _ e => e⟩, tk⟩
  obtain ⟨oc, r1, r2⟩ := g.obj a x q
  exact ⟨oc, k a _ (fun m => by have := (hw a m).1; rw [q] at this; cases this) r1, r2.mono tk⟩
theorem Step.ofKeep (k : KeepBut wr h h') : Step σ σ (fun a => a ∈ wr) h h' := ⟨fun a o e _ n => .same (k a o n e), fun _ a b => absurd a b, fun _ e => e⟩
theorem Here.hidL (H : Here c f ℓ σ p h) (hw : Hids c σ h wr) (k : KeepBut wr h h') (nl : ∀ b ∈ wr, b ≠ p.L ∧ ∀ x, p.cells.lookup x ≠ some b) : Here c f ℓ σ p h' := by
  obtain ⟨g, tk⟩ := H.good.hidL hw k
  refine H.stepO (Step.ofKeep k) tk g ?_
  rintro a (rfl | ⟨x, hx⟩) m
  · exact (nl _ m).1 rfl
  · exact (nl _ m).2 x hx
theorem Step.hidL {O : Addr → Prop} (x : Step σ σ' O h₀ h) (k : KeepBut wr h h') (hb : ∀ b ∈ wr, h₀.get? b = none) : Step σ σ' O h₀ h' :=
  ⟨fun a o e q n => (x.keep a o e q n).trans fun o' e' => .same (k a o' (fun m => by have := hb a m; rw [e] at this; cases this) e'), x.fresh, x.stay⟩
/-- a step of a narrower place's -/
theorem Step.trans2 {O O' : Addr → Prop} (al : ∀ a, O a → h'.get? a ≠ none) (x : Step σ σ' O h h') (y : Step σ' σ'' O' h' h'') (sub : ∀ a o, h.get? a = some o → O' a → O a) : Step σ σ'' O h h'' := by
  refine ⟨fun a o e q n => ?_, fun a q n => ?_, fun a e => y.stay a (x.stay a e)⟩
  · refine (x.keep a o e q n).trans fun o' e' => y.keep a o' e' ?_ fun q' => n (sub a o e q')
    cases z : σ' a with
    | none => rfl
    | some _ => have := x.fresh a q (by rw [z]; simp); rw [e] at this; cases this
  · cases z : σ' a with
    | some _ => exact x.fresh a q (by rw [z]; simp)
    | none =>
      have e := y.fresh a z n
      cases w : h.get? a with
      | none => rfl
      | some o =>
        have : ¬ O a := fun q => al a q e
        exact absurd e (x.keep a o w q this).alive
theorem Good.off (g : Good c σ h) {a : Addr} (e : h.get? a = none) : σ a = none := by
  cases q : σ a with
  | none => rfl
  | some o => obtain ⟨oc, e', _⟩ := g.obj a o q; rw [e] at e'; cases e'
theorem Good.off₀ (g : Good c σ h) {a : Addr} (e : h.get? a = none) : c.h₀.get? a = none := by
  cases q : c.h₀.get? a with
  | none => rfl
  | some o => have := g.keep _ _ q; rw [e] at this; cases this
theorem Here.alive (H : Here c f ℓ σ p h) {a : Addr} (o : a = p.L ∨ ∃ x, p.cells.lookup x = some a) : h.get? a ≠ none := by
  rcases o with rfl | ⟨x, hx⟩
  · obtain ⟨m, ⟨o, es, ep, ho, hd, _⟩, _⟩ := H.ns
    rw [ho]; simp
  · obtain ⟨v, o, ho, hd⟩ := H.cells x a hx
    rw [ho]; simp
theorem Here.apart (H : Here c f ℓ σ p h) {b : Addr} (e : h.get? b = none) : b ≠ p.L ∧ ∀ x, p.cells.lookup x ≠ some b :=
  ⟨by rintro rfl; exact H.alive (.inl rfl) e, fun x hx => H.alive (.inr ⟨x, hx⟩) e⟩

/-! ## what is walked -/
structure Wk (c : Cx) (t : Expr) (vs : List AV) (I : Addr) (wr : List Addr) (Req : Store → Prop) (St : Nat → Heap → Prop) : Prop where
  frame : ∀ i h h', St i h → (∀ b ∈ wr, ∀ o, h.get? b = some o → h'.get? b = some o) → TK h h' → St i h'
  cls : ∀ i h, St i h → ∀ b ∈ wr, ∃ o vs, h.get? b = some o ∧ o.data = .fields vs
  turn : ∀ (A : Around) (s : Shared) (σ : Store) (i : Nat) (v : AV) (Q : Value → Shared → Prop) (N : Shared → Prop) (E E' : Value → Shared → Prop), A.handled = none → c.Ok → Good c σ s.heap → Req σ → St i s.heap → vs[i]? = some v →
    (∀ x h' tk, VR h' v x → St (i + 1) h' → KeepBut wr s.heap h' → Q x { s with heap := h', toks := tk }) →
    wpAny (model c.prog c.w) A (pyNext (.ref I)) (fun r s₁ => match r with | none => N s₁ | some x => wpAny (model c.prog c.w) A (letOwnedTupleGo t (.ref I) x) (fun _ s₂ => Q x s₂) E' s₁) E s
  done : ∀ (A : Around) (s : Shared) (σ : Store) (N : Shared → Prop) (E : Value → Shared → Prop), A.handled = none → c.Ok → Good c σ s.heap → Req σ → St vs.length s.heap →
    (∀ h' tk, KeepBut wr s.heap h' → N { s with heap := h', toks := tk }) → wpAny (model c.prog c.w) A (pyNext (.ref I)) (fun r s₁ => r = none ∧ N s₁) E s
  self : ∀ (A : Around) (s : Shared) (i : Nat) (Q : Value → Shared → Prop) (E : Value → Shared → Prop), St i s.heap → Q (.ref I) s → wpAny (model c.prog c.w) A (pyIter (.ref I)) Q E s

/-- an iterable, evaluated and opened -/
noncomputable def Itr (c : Cx) (f : Fn) (ℓ : Locs) (σ : Store) (it t : Expr) (Φ : List AV → (Store → Prop) → Store → Prop) : Prop :=
  ∀ (A : Around) (p : Pl) (s : Shared) (Q : Value → Shared → Prop) (E : Value → Shared → Prop), c.Ok → Room c f.d f.hf A → A.handled = none → Here c f ℓ σ p s.heap →
    (∀ I wr St vs Req σ₁ h' tk, Φ vs Req σ₁ → Wk c t vs I wr Req St → St 0 h' → Here c f ℓ σ₁ p h' → Step σ σ₁ (Own f p) s.heap h' → (∀ b ∈ wr, s.heap.get? b = none ∧ σ₁ b = none) → Q (.ref I) { s with heap := h', toks := tk }) →
    wpAny (model c.prog c.w) A (eval it (f.env p)) (fun x s₁ => wpAny (model c.prog c.w) A (pyIter x) Q E s₁) E s

noncomputable def LoopK (Inv : Nat → Locs → Store → Prop) (i : Nat) (Φ : AF → Locs → Store → Prop) : AF → Locs → Store → Prop
  | .next, ℓ, σ => Inv (i + 1) ℓ σ
  | .cont, ℓ, σ => Inv (i + 1) ℓ σ
  | .brk, ℓ, σ => Φ .next ℓ σ
  | .ret v, ℓ, σ => Φ (.ret v) ℓ σ

theorem st_for {t it : Expr} {body : List Stmt} {pos : Pos} {Φ : AF → Locs → Store → Prop} (hf : f.hf = true)
    (q : Itr c f ℓ σ it t fun vs Req σ₁ => ∃ Inv : Nat → Locs → Store → Prop, Inv 0 ℓ σ₁ ∧ (∀ i ℓ σ, Inv i ℓ σ → Req σ) ∧
      (∀ i v ℓ σ, vs[i]? = some v → Inv i ℓ σ → As c f ℓ σ t v fun ℓ' σ' => Ss c f ℓ' σ' body (LoopK Inv i Φ)) ∧ (∀ ℓ σ, Inv vs.length ℓ σ → Φ .next ℓ σ))
    (hs : ∀ env x, foldedSetIterable it env x = pure x := by intro _ _; rfl) : St c f ℓ σ (.For t it body [] pos) Φ := by
  intro A p s Q E ok rm H k
  have hh := rm.hand hf
  refine wpAny_For ?_ (hs _)
  refine q A p s _ E ok rm hh H fun I wr St vs Req σ₁ h₁ t₁ ⟨Inv, i0, hreq, hbody, hend⟩ W st₀ H₁ s₁ hwr => ?_
  have apart : ∀ b ∈ wr, b ≠ p.L ∧ ∀ x, p.cells.lookup x ≠ some b := fun b m => H.apart (hwr b m).1
  have off₀ : ∀ b ∈ wr, c.h₀.get? b = none := fun b m => H.good.off₀ (hwr b m).1
  have none₀ : ∀ b ∈ wr, s.heap.get? b = none := fun b m => (hwr b m).1
  refine codeAny_forLoop_any (fun n s' => ∃ i ℓi σi h' tk, s' = { s with heap := h', toks := tk } ∧ St i h' ∧ Here c f ℓi σi p h' ∧ Step σ σi (Own f p) s.heap h' ∧ Inv i ℓi σi ∧ (∀ b ∈ wr, σi b = none) ∧ i ≤ vs.length ∧ n = vs.length + 1 - i) ?_ (vs.length + 1)
    ⟨0, ℓ, σ₁, h₁, t₁, rfl, st₀, H₁, s₁, i0, fun b m => (hwr b m).2, Nat.zero_le _, rfl⟩
  rintro n s' ⟨i, ℓi, σi, h₂, t₂, rfl, st, H₂, s₂, inv, wn, le, rfl⟩
  have hids : Hids c σi h₂ wr := fun b m => ⟨wn b m, off₀ b m, H.good.notFrame (none₀ b m), nt_of (W.cls _ _ st b m)⟩
  by_cases lt : i < vs.length
  · refine W.turn A _ σi i vs[i] _ _ _ _ hh ok H₂.good (hreq _ _ _ inv) st (List.getElem?_eq_getElem lt) fun x h₃ t₃ vr st₃ k₃ => ?_
    have H₃ := H₂.hidL hids k₃ apart
    have s₃ := s₂.hidL k₃ none₀
    refine hbody i vs[i] ℓi σi (List.getElem?_eq_getElem lt) inv A p { s with heap := h₃, toks := t₃ } x _ _ ok rm H₃ vr fun ℓ₄ σ₄ h₄ t₄ q₄ H₄ s₄ => ?_
    have tk₄ := s₄.tk H₃
    have own₃ : ∀ b ∈ wr, ¬ Own f p b := fun b m => by
      rintro (rfl | ⟨y, _, hy⟩)
      · exact (apart _ m).1 rfl
      · exact (apart _ m).2 y hy
    have keep₄ : ∀ b ∈ wr, ∀ o, h₃.get? b = some o → h₄.get? b = some o := fun b m o e => Kp.fields (W.cls _ _ st₃ b m) e (s₄.keep b o e (wn b m) (own₃ b m))
    have st₄ : St (i + 1) h₄ := W.frame _ _ _ st₃ keep₄ tk₄
    have wn₄ : ∀ b ∈ wr, σ₄ b = none := fun b m => by
      cases z : σ₄ b with
      | none => rfl
      | some _ => have := s₄.fresh b (wn b m) (by rw [z]; simp); obtain ⟨o, _, e, _⟩ := W.cls _ _ st₃ b m; rw [e] at this; cases this
    refine q₄ A p { s with heap := h₄, toks := t₄ } _ _ ok rm H₄ fun r fl ℓ₅ σ₅ h₅ t₅ q₅ H₅ s₅ fr => ?_
    have S₅ := (s₃.trans H₃ s₄).trans H₄ s₅
    have again : Inv (i + 1) ℓ₅ σ₅ → ∃ m, m < vs.length + 1 - i ∧ ∃ i ℓi σi h' tk, ({ s with heap := h₅, toks := t₅ } : Shared) = { s with heap := h', toks := tk } ∧ St i h' ∧ Here c f ℓi σi p h' ∧ Step σ σi (Own f p) s.heap h' ∧ Inv i ℓi σi ∧ (∀ b ∈ wr, σi b = none) ∧ i ≤ vs.length ∧ m = vs.length + 1 - i := fun inv₅ => by
      refine ⟨vs.length + 1 - (i + 1), by omega, i + 1, ℓ₅, σ₅, h₅, t₅, rfl, W.frame _ _ _ st₄ (fun b m o e => Kp.fields (W.cls _ _ st₄ b m) e (s₅.keep b o e (wn₄ b m) (own₃ b m))) (s₅.tk H₄), H₅, S₅, inv₅, fun b m => ?_, by omega, rfl⟩
      cases z : σ₅ b with
      | none => rfl
      | some _ => have := s₅.fresh b (wn₄ b m) (by rw [z]; simp); obtain ⟨o, _, e, _⟩ := W.cls _ _ st₄ b m; rw [e] at this; cases this
    cases fr with
    | next => exact again q₅
    | cont => exact again q₅
    | brk => exact k .next .next ℓ₅ σ₅ h₅ t₅ q₅ H₅ S₅ .next
    | ret vr => exact k (.ret _) (.ret _) ℓ₅ σ₅ h₅ t₅ q₅ H₅ S₅ (.ret vr)
  · have e : i = vs.length := by omega
    subst e
    refine wpAny_mono (W.done A _ σi (fun s' => wpAny (model c.prog c.w) A (execs [] (f.env p)) (fun f s₃ => Q f s₃) (notedBy (model c.prog c.w) A (f.env p) fun e s' => cameBackBy (model c.prog c.w) A (f.env p) E e s') s') _ hh ok H₂.good (hreq _ _ _ inv) st fun h₃ t₃ k₃ => ?_) (fun r s' hr => ?_) fun _ _ e => e
    · exact wpAny_execs_nil (k .next .next ℓi σi h₃ t₃ (hend _ _ inv) (H₂.hidL hids k₃ apart) (s₂.hidL k₃ none₀) .next)
    · obtain ⟨rfl, hr⟩ := hr; exact hr

/-! ## the iterables -/
theorem itr_of {it t : Expr} {Φ : List AV → (Store → Prop) → Store → Prop}
    (q : Ev c f ℓ σ it fun v σ₁ => ∀ (A : Around) (s : Shared) (x : Value) (Q : Value → Shared → Prop) (E : Value → Shared → Prop), Good c σ₁ s.heap → VR s.heap v x →
      (∀ I wr St vs Req h' tk, Φ vs Req σ₁ → Wk c t vs I wr Req St → St 0 h' → (∀ b o, s.heap.get? b = some o → h'.get? b = some o) → (∀ b ∈ wr, s.heap.get? b = none) → Q (.ref I) { s with heap := h', toks := tk }) →
      wpAny (model c.prog c.w) A (pyIter x) Q E s) : Itr c f ℓ σ it t Φ := by
  intro A p s Q E ok rm hh H k
  refine q A p s [] _ E ok rm H .nil fun v x σ₁ h₁ t₁ q₁ H₁ s₁ vv => ?_
  refine q₁ A { s with heap := h₁, toks := t₁ } x Q E H₁.good vv fun I wr St vs Req h₂ t₂ φ W st kp hw => ?_
  refine k I wr St vs Req σ₁ h₂ t₂ φ W st (H₁.ext kp) (s₁.trans H₁ (.ext kp)) fun b m => ⟨?_, H₁.good.off (hw b m)⟩
  cases e : s.heap.get? b with
  | none => rfl
  | some o =>
    have e' := hw b m
    by_cases ob : Own f p b
    · exact absurd e' (H₁.own_alive ob)
    · cases z : σ b with
      | none => exact absurd e' (s₁.keep b o e z ob).alive
      | some z' =>
        cases z₁ : σ₁ b with
        | none => exact absurd z₁ (s₁.stay b (by rw [z]; simp))
        | some o₁ => obtain ⟨oc, e₁, _⟩ := H₁.good.obj b o₁ z₁; rw [e₁] at e'; cases e'
end
end Mine

set_option autoImplicit false
set_option maxRecDepth 100000
namespace Mine
open PySem PySem.W PySem.Calls PyProof.Rows

section
variable {c : Cx} {f : Fn} {ℓ : Locs} {σ σ' σ'' : Store} {h h' h₀ h'' : Heap} {p : Pl} {wr : List Addr}

/-- the target asks no tuple back -/
noncomputable def Quiet (t : Expr) (vs : List AV) : Prop := (∀ it v, letOwnedTupleGo t it v = pure ()) ∨ ((∃ es n pos, t = .Tuple es n pos) ∧ ∀ v ∈ vs, ∃ us, v = .tup us)
theorem quiet_name (x : Str) (pos : Pos) (vs : List AV) : Quiet (.Name x pos) vs := .inl fun _ _ => rfl

theorem letGo_tupiter {prog : Program} {w : World} {A : Around} {E : Value → Shared → Prop} {s : Shared} {elts : List Expr} {x1} {pos : Pos} {I l T : Addr} {i : Nat} {Q : Unit → Shared → Prop} (hit : s.heap.IsTupleIter I l i) (hQ : Q () s) :
    wpAny (model prog w) A (letOwnedTupleGo (.Tuple elts x1 pos) (.ref I) (.ref T)) Q E s := by
  obtain ⟨o, ho, hc, hd⟩ := hit
  unfold letOwnedTupleGo
  refine wpAny_bind (wpAny_load ho ?_)
  rw [hc, hd]
  show wpAny _ A (if (["enumerate", "zip", "dict_itemiterator", "dict_reverseitemiterator", "odict_iterator", "itertools.zip_longest", "itertools.pairwise"].contains "tuple_iterator" &&
      (#[.ref l, .int i 0] : Array Value)[0]? == some (rawInt T)) = true then _ else _) Q E s
  rw [if_neg (by
    intro h
    rw [show (["enumerate", "zip", "dict_itemiterator", "dict_reverseitemiterator", "odict_iterator", "itertools.zip_longest", "itertools.pairwise"].contains "tuple_iterator") = false from by decide, Bool.false_and] at h
    cases h)]
  exact wpAny_pure hQ

theorem ListIs.ne {l I : Addr} {vs : List AV} (i : ListIs c σ l vs) (g : Good c σ h) (e : h.get? I = none) : l ≠ I := by
  rintro rfl
  obtain ⟨xs, n, e', _⟩ := list_at i g
  rw [e] at e'; cases e'

theorem wk_list {t : Expr} {l I : Addr} {vs : List AV} (ht : Quiet t vs) (ne : l ≠ I) : Wk c t vs I [I] (fun σ => ListIs c σ l vs) (fun i h => h.IsListIter I l i) where
  frame := fun i h h' st kp _ => st.at fun o e => kp I (List.mem_singleton.mpr rfl) o e
  cls := fun i h st b m => by
    rw [List.mem_singleton] at m; subst m
    obtain ⟨o, ho, _, hd⟩ := st
    exact ⟨o, _, ho, hd⟩
  turn := fun A s σ i v Q N E E' hh ok g req st hv k => by
    obtain ⟨xs, n, e, r⟩ := list_at req g
    obtain ⟨x, hx, vr⟩ := r.get hv
    refine wpAny_pyNext_list_item st (items := xs) ⟨_, e, rfl, n, rfl⟩ (by rw [← Array.getElem?_toList]; exact hx) fun h' hit' hs' => ?_
    have kb : KeepBut [I] s.heap h' := fun b o nb e => (hs'.2 b fun q => nb (List.mem_singleton.mpr q)).trans e
    have tk : TK s.heap h' := fun a ys e => kb a _ (fun m => by
      rw [List.mem_singleton] at m; subst m
      obtain ⟨o, ho, hc, _⟩ := st
      rw [e] at ho; cases ho; exact absurd hc (by simp)) e
    have fin := k x h' s.toks (vr.mono tk) hit' kb
    rcases ht with ht | ⟨⟨es, m, pos, rfl⟩, ht⟩
    · exact wpAny_of_eq (ht _ _) fin
    · obtain ⟨us, rfl⟩ := ht v (List.mem_of_getElem? hv)
      cases vr with
      | tup e r => exact wpAny_letOwnedTupleGo_listiter hit' fin
  done := fun A s σ N E hh ok g req st k => by
    obtain ⟨xs, n, e, r⟩ := list_at req g
    refine wpAny_pyNext_list_end hh st (items := xs) ⟨_, e, rfl, n, rfl⟩ (by rw [r.size]; simp) fun h' hx => ⟨rfl, ?_⟩
    exact k h' s.toks fun b o nb e => hx b o (fun q => nb (List.mem_singleton.mpr q)) e
  self := fun A s i Q E st hQ => wpAny_pyIter_listiter st hQ

theorem itr_list {it t : Expr} {Φ : List AV → (Store → Prop) → Store → Prop}
    (q : Ev c f ℓ σ it fun v σ₁ => ∃ l vs, v = .ref l ∧ ListIs c σ₁ l vs ∧ Quiet t vs ∧ Φ vs (fun σ => ListIs c σ l vs) σ₁) : Itr c f ℓ σ it t Φ := by
  refine itr_of (q.mono fun v σ₁ ⟨l, vs, hv, il, ht, φ⟩ => ?_)
  intro A s x Q E g vr k
  subst hv
  cases vr
  obtain ⟨xs, n, e, r⟩ := list_at il g
  refine wpAny_pyIter_list ⟨_, e, rfl, n, rfl⟩ ?_
  have none₀ : s.heap.get? s.heap.objs.size = none := by
    cases z : s.heap.get? s.heap.objs.size with
    | none => rfl
    | some o => exact absurd (Heap.lt_size z) (Nat.lt_irrefl _)
  refine k _ [s.heap.objs.size] _ vs _ _ s.toks φ (wk_list ht (il.ne g none₀)) ⟨_, Heap.get?_push_size _ rfl, rfl, rfl⟩ (fun b o e => Heap.get?_push_of_some _ e) fun b m => ?_
  rw [List.mem_singleton] at m; subst m; exact none₀

theorem wk_tup {t : Expr} {a I : Addr} {vs : List AV} {xs : Array Value} (ht : Quiet t vs) : Wk c t vs I [I] (fun _ => True) (fun i h => h.IsTupleIter I a i ∧ h.get? a = some (tupObj xs) ∧ VRs h vs xs.toList) where
  frame := fun i h h' st kp tk => ⟨st.1.at fun o e => kp I (List.mem_singleton.mpr rfl) o e, tk _ _ st.2.1, st.2.2.mono tk⟩
  cls := fun i h st b m => by
    rw [List.mem_singleton] at m; subst m
    obtain ⟨o, ho, _, hd⟩ := st.1
    exact ⟨o, _, ho, hd⟩
  turn := fun A s σ i v Q N E E' hh ok g req st hv k => by
    obtain ⟨hit, e, r⟩ := st
    obtain ⟨x, hx, vr⟩ := r.get hv
    refine wpAny_pyNext_tuple_item hit (items := xs) ⟨_, e, rfl, 0, rfl⟩ (by rw [← Array.getElem?_toList]; exact hx) fun h' hit' hs' => ?_
    have kb : KeepBut [I] s.heap h' := fun b o nb e => (hs'.2 b fun q => nb (List.mem_singleton.mpr q)).trans e
    have tk : TK s.heap h' := fun a ys e => kb a _ (fun m => by
      rw [List.mem_singleton] at m; subst m
      obtain ⟨o, ho, hc, _⟩ := hit
      rw [e] at ho; cases ho; exact absurd hc (by simp)) e
    have fin := k x h' s.toks (vr.mono tk) ⟨hit', tk _ _ e, r.mono tk⟩ kb
    rcases ht with ht | ⟨⟨es, m, pos, rfl⟩, ht⟩
    · exact wpAny_of_eq (ht _ _) fin
    · obtain ⟨us, rfl⟩ := ht v (List.mem_of_getElem? hv)
      cases vr with
      | tup e r => exact letGo_tupiter hit' fin
  done := fun A s σ N E hh ok g req st k => by
    obtain ⟨hit, e, r⟩ := st
    refine wpAny_pyNext_tuple_end hh hit (items := xs) ⟨_, e, rfl, 0, rfl⟩ (by rw [r.size]; simp) fun h' hx => ⟨rfl, ?_⟩
    exact k h' s.toks fun b o nb e => hx b o (fun q => nb (List.mem_singleton.mpr q)) e
  self := fun A s i Q E st hQ => wpAny_pyIter_tupleiter st.1 hQ

theorem itr_tup {it t : Expr} {Φ : List AV → (Store → Prop) → Store → Prop}
    (q : Ev c f ℓ σ it fun v σ₁ => ∃ vs, v = .tup vs ∧ Quiet t vs ∧ Φ vs (fun _ => True) σ₁) : Itr c f ℓ σ it t Φ := by
  refine itr_of (q.mono fun v σ₁ ⟨vs, hv, ht, φ⟩ => ?_)
  intro A s x Q E g vr k
  subst hv
  cases vr with
  | tup e r =>
    rename_i a xs
    refine wpAny_pyIter_tuple ⟨_, e, rfl, 0, rfl⟩ ?_
    have none₀ : s.heap.get? s.heap.objs.size = none := by
      cases z : s.heap.get? s.heap.objs.size with
      | none => rfl
      | some o => exact absurd (Heap.lt_size z) (Nat.lt_irrefl _)
    refine k _ [s.heap.objs.size] _ vs _ _ s.toks φ (wk_tup (a := a) (xs := xs) ht) ⟨⟨_, Heap.get?_push_size _ rfl, rfl, rfl⟩, Heap.get?_push_of_some _ e, r.mono (TK.push _)⟩ (fun b o e => Heap.get?_push_of_some _ e) fun b m => ?_
    rw [List.mem_singleton] at m; subst m; exact none₀

/-- a call, its arguments at hand -/
theorem call_direct {fn : Expr} {es : List Expr} {pos : Pos} {Φ : List AV → Store → Prop} {g : Value} (hfn : Ev c f ℓ σ fn fun g' σ₁ => g' = .val g ∧ σ₁ = σ) (hc : CalleeOk c g) (h : EvL c f ℓ es σ Φ)
    (hne : es ≠ []) (hp : es.all plainE = true) (he : ∀ env, eval (.Call fn es [] pos) env = (do callWith pos (← eval fn env) [] (backTo pos (starEach es env)) (backToKw pos (keywordEach [] env)))) :
    ∀ (A : Around) (p : Pl) (s : Shared) (Q : Value → Shared → Prop) (E : Value → Shared → Prop), c.Ok → Room c f.d f.hf A → Here c f ℓ σ p s.heap →
    (∀ as xs σ' h' tk, Φ as σ' → Here c f ℓ σ' p h' → Step σ σ' (Own f p) s.heap h' → VRs h' as xs → wpAny (model c.prog c.w) A (call g xs []) Q E { s with heap := h', toks := tk }) →
    wpAny (model c.prog c.w) A (eval (.Call fn es [] pos) (f.env p)) Q E s := by
  intro A p s Q E ok rm H k
  refine Call_ (hfn A p s [] _ E ok rm H .nil fun g' x σ₁ h₁ t₁ q₁ H₁ s₁ vg => ?_) (he _)
  obtain ⟨rfl, rfl⟩ := q₁
  cases vg
  refine callWith_of (P := KeepB c) (by rw [backTo_any hp]; rfl) (fun h' kp => hc.looks ok h' kp) ?_
  cases es with
  | nil => exact absurd rfl hne
  | cons e es =>
    rw [List.all_cons, Bool.and_eq_true] at hp
    rw [starEach_plain hp.1]
    refine evalArgs_plain ?_
    have := evl_run (pos := pos) (es := e :: es) (by rw [List.all_cons, hp.1, hp.2]; rfl) h A p { s with heap := h₁, toks := t₁ } [] (fun vs s₁ => KeepB c s₁.heap ∧ wpAny (model c.prog c.w) A (call g ([] ++ vs) []) Q E s₁) E ok rm H₁ .nil fun vs vs' σ₂ h₂ t₂ q₂ H₂ s₂ vv => ?_
    · replace this : wpAny _ _ (spliced (backTo pos (starEach (e :: es) (f.env p)))) _ _ _ := this
      rw [starEach_plain hp.1] at this; exact this
    · exact ⟨H₂.good.keep, k vs vs' σ₂ h₂ t₂ q₂ H₂ (s₁.trans H₁ s₂) vv⟩

/-! ## enumerate -/
noncomputable def numbered (vs : List AV) : List AV := (List.range vs.length).zipWith (fun (i : Nat) v => .tup [.int i, v]) vs
theorem numbered_len (vs : List AV) : (numbered vs).length = vs.length := by simp [numbered]
theorem numbered_get {vs : List AV} {i : Nat} (h : i < vs.length) : (numbered vs)[i]? = some (.tup [.int i, vs[i]]) := by
  unfold numbered
  rw [List.getElem?_zipWith, List.getElem?_range h, List.getElem?_eq_getElem h]
theorem wk_enum {t : Expr} {es : List Expr} {m : Nat} {pos : Pos} {l I I₂ : Addr} {vs : List AV} (ht : t = .Tuple es m pos) (n1 : I ≠ I₂) (n2 : l ≠ I) (n3 : l ≠ I₂) :
    Wk c t (numbered vs) I [I, I₂] (fun σ => ListIs c σ l vs) (fun i h => (∃ old, IsEnum h I I₂ i old) ∧ h.IsListIter I₂ l i) where
  frame := fun i h h' st kp _ => by
    obtain ⟨⟨old, he⟩, hit⟩ := st
    exact ⟨⟨old, kp I (by simp) _ he⟩, hit.at fun o e => kp I₂ (by simp) o e⟩
  cls := fun i h st b m => by
    obtain ⟨⟨old, he⟩, hit⟩ := st
    rcases List.mem_cons.mp m with rfl | m
    · exact ⟨_, _, he, rfl⟩
    · rw [List.mem_singleton] at m; subst m
      obtain ⟨o, ho, _, hd⟩ := hit
      exact ⟨o, _, ho, hd⟩
  turn := fun A s σ i v Q N E E' hh ok g req st hv k => by
    subst ht
    obtain ⟨⟨old, he⟩, hit⟩ := st
    obtain ⟨xs, n, e, r⟩ := list_at req g
    have hil : i < vs.length := by
      obtain ⟨q, _⟩ := List.getElem?_eq_some_iff.mp hv
      rw [numbered_len] at q; exact q
    have hv' : v = .tup [.int i, vs[i]] := by
      rw [numbered_get hil] at hv
      exact (Option.some.inj hv).symm
    obtain ⟨x, hx, vr⟩ := r.get (List.getElem?_eq_getElem hil)
    refine wpAny_pyNext_enum_item he hit (items := xs) (l := l) ⟨_, e, rfl, n, rfl⟩ (by rw [← Array.getElem?_toList]; exact hx) n1 fun h' ho hit' hT hsz hk => ?_
    refine wpAny_letOwnedTupleGo_enum ho fun h'' he'' hs'' => ?_
    have tk : TK s.heap h' := fun a ys e => hk a _ (by rintro rfl; rw [he] at e; simp [tupObj] at e) (by
      rintro rfl; obtain ⟨o, ho, hc, _⟩ := hit; rw [e] at ho; cases ho; exact absurd hc (by simp)) e
    have hlt : I < s.heap.objs.size := Heap.lt_size he
    have neT : s.heap.objs.size ≠ I := Nat.ne_of_gt hlt
    have tk₂ : TK h' h'' := fun a ys e => (hs''.2 a (by rintro rfl; rw [show h'.get? a = _ from ho] at e; simp [tupObj] at e)).trans e
    refine k _ h'' (s.toks + 1) ?_ ⟨⟨_, by simpa using he''⟩, hit'.at fun o e => (hs''.2 I₂ n1.symm).trans e⟩ fun b o nb e => ?_
    · subst hv'
      exact .tup (xs := #[.int i s.toks, x]) ((hs''.2 _ neT).trans hT) (.cons (.int _ _) (.one ((vr.mono tk).mono tk₂)))
    · simp only [List.mem_cons, List.not_mem_nil, or_false, not_or] at nb
      exact (hs''.2 b nb.1).trans (hk b o nb.1 nb.2 e)
  done := fun A s σ N E hh ok g req st k => by
    obtain ⟨⟨old, he⟩, hit⟩ := st
    obtain ⟨xs, n, e, r⟩ := list_at req g
    rw [numbered_len] at he hit
    refine wpAny_pyNext_enum_end hh he hit (items := xs) (l := l) ⟨_, e, rfl, n, rfl⟩ (by rw [r.size]; simp) fun h' hx => ⟨rfl, ?_⟩
    exact k h' s.toks fun b o nb e => hx b o (fun q => nb (by simp [q])) e
  self := fun A s i Q E st hQ => by
    obtain ⟨⟨old, he⟩, _⟩ := st
    exact wpAny_pyIter_enum he hQ

theorem itr_enum {e : Expr} {t : Expr} {npos pos : Pos} {es : List Expr} {m : Nat} {tpos : Pos} {Φ : List AV → (Store → Prop) → Store → Prop}
    (hg : f.kind "enumerate" = some .globalImplicit) (hn : nsIn c.K mainGlobals "enumerate" = some none) (ht : t = .Tuple es m tpos)
    (q : Ev c f ℓ σ e fun v σ₁ => ∃ l vs, v = .ref l ∧ ListIs c σ₁ l vs ∧ Φ (numbered vs) (fun σ => ListIs c σ l vs) σ₁)
    (hp : plainE e = true := by rfl) (he : ∀ env, eval (.Call (.Name "enumerate" npos) [e] [] pos) env = (do callWith pos (← eval (.Name "enumerate" npos) env) [] (backTo pos (starEach [e] env)) (backToKw pos (keywordEach [] env))) := by intro _; rfl) :
    Itr c f ℓ σ (.Call (.Name "enumerate" npos) [e] [] pos) t Φ := by
  intro A p s Q E ok rm hh H k
  refine call_direct (g := .type "enumerate") (es := [e]) (Φ := fun as σ₁ => ∃ l vs, as = [.ref l] ∧ ListIs c σ₁ l vs ∧ Φ (numbered vs) (fun σ => ListIs c σ l vs) σ₁)
    (ev_builtin hg hn (by rfl) ⟨rfl, rfl⟩) (.inr fun _ => by simp) ?_ (by simp) (by simp [hp]) he A p s _ E ok rm H ?_
  · exact Tr.mono q fun v σ₁ ⟨l, vs, a, b, d⟩ => ⟨l, vs, by rw [a], b, d⟩
  · rintro as xs σ₁ h₁ t₁ ⟨l, vs, rfl, il, φ⟩ H₁ s₁ va
    cases va with
    | cons vl r =>
      cases r; cases vl
      obtain ⟨xs, n, e', r⟩ := list_at il H₁.good
      refine call_enumerate_1 (n := n) (items := xs) e' fun h' hE hI hsz hk => wpAny_pyIter_enum hE ?_
      have nn : ∀ a, h₁.objs.size ≤ a → h₁.get? a = none := fun a ha => by
        cases z : h₁.get? a with
        | none => rfl
        | some o => exact absurd (Heap.lt_size z) (Nat.not_lt.mpr ha)
      have n1 := nn (h₁.objs.size + 1) (Nat.le_succ _)
      have n2 := nn h₁.objs.size (Nat.le_refl _)
      have s₂ := s₁.trans H₁ (.ext hk)
      have old : ∀ b, h₁.get? b = none → s.heap.get? b = none ∧ σ₁ b = none := fun b e' => by
        refine ⟨?_, H₁.good.off e'⟩
        cases e : s.heap.get? b with
        | none => rfl
        | some o =>
          by_cases ob : Own f p b
          · exact absurd e' (H₁.own_alive ob)
          · cases z : σ b with
            | none => exact absurd e' (s₁.keep b o e z ob).alive
            | some z' =>
              cases z₁ : σ₁ b with
              | none => exact absurd z₁ (s₁.stay b (by rw [z]; simp))
              | some o₁ => obtain ⟨oc, e₁, _⟩ := H₁.good.obj b o₁ z₁; rw [e₁] at e'; cases e'
      refine k _ _ _ _ _ σ₁ h' t₁ φ (wk_enum (l := l) (I₂ := h₁.objs.size) ht (Nat.succ_ne_self _) (il.ne H₁.good n1) (il.ne H₁.good n2)) ⟨⟨_, hE⟩, hI⟩ (H₁.ext hk) s₂ fun b m => ?_
      rcases List.mem_cons.mp m with rfl | m
      · exact old _ n1
      · rw [List.mem_singleton] at m; subst m; exact old _ n2
end
end Mine

set_option autoImplicit false
set_option maxRecDepth 100000
namespace Mine
open PySem PySem.W PySem.Calls PyProof.Rows

noncomputable def clOf (g : Str → Addr) : List (Str × NameKind) → List (Str × Addr) → List (Str × Addr)
  | [], cs => cs
  | (n, k) :: r, cs => if k == .free then clOf g r ((n, g n) :: cs) else clOf g r cs
theorem closureFor_cells {scope : Scope} {env : Env} (g : Str → Addr) (h : ∀ n, (n, NameKind.free) ∈ scope.names → env.cells.lookup n = some (g n)) : closureFor scope env = pure (clOf g scope.names []) := by
  have key : ∀ (names : List (Str × NameKind)) (cs : List (Str × Addr)), (∀ n, (n, NameKind.free) ∈ names → env.cells.lookup n = some (g n)) →
      (forIn names cs fun (x : Str × NameKind) (r : List (Str × Addr)) => (if (x.2 == NameKind.free) = true then (do let a ← cellOf env x.1; pure (ForInStep.yield ((x.1, a) :: r))) else pure (ForInStep.yield r) : Sem (ForInStep (List (Str × Addr))))) = (pure (clOf g names cs) : Sem _) := by
    intro names
    induction names with
    | nil => intro cs _; rfl
    | cons y r ih =>
      intro cs hh
      obtain ⟨n, k⟩ := y
      rw [List.forIn_cons]
      have ihr := fun cs => ih cs fun n hn => hh n (List.mem_cons_of_mem _ hn)
      by_cases hk : (k == NameKind.free) = true
      · have hk' : k = .free := by simpa using hk
        subst hk'
        have e : cellOf env n = pure (g n) := by unfold cellOf; rw [hh n List.mem_cons_self]
        simp only [hk, if_true, e]
        show (forIn r ((n, g n) :: cs) _ : Sem _) = _
        rw [ihr]; rfl
      · simp only [hk, if_false, Bool.false_eq_true]
        show (forIn r cs _ : Sem _) = pure (if (k == NameKind.free) = true then clOf g r ((n, g n) :: cs) else clOf g r cs)
        rw [if_neg hk]
        exact ihr cs
  simp only [closureFor]
  have := key scope.names [] h
  show (forIn scope.names [] _ >>= fun r => pure r : Sem _) = _
  rw [show (forIn scope.names ([] : List (Str × Addr)) fun x r => (if (x.2 == NameKind.free) = true then (do let a ← cellOf env x.1; pure (ForInStep.yield ((x.1, a) :: r))) else pure (ForInStep.yield r) : Sem _)) = pure (clOf g scope.names []) from this]
  rfl
theorem clOf_mem {g : Str → Addr} : ∀ {names : List (Str × NameKind)} {cs : List (Str × Addr)} {n : Str} {a : Addr}, (n, a) ∈ clOf g names cs → (n, a) ∈ cs ∨ (a = g n ∧ (n, NameKind.free) ∈ names)
  | [], _, _, _, h => .inl h
  | (m, k) :: r, cs, n, a, h => by
    unfold clOf at h
    by_cases hk : (k == NameKind.free) = true
    · rw [if_pos hk] at h
      have hk' : k = .free := by simpa using hk
      subst hk'
      rcases clOf_mem h with h | ⟨e, h⟩
      · rcases List.mem_cons.mp h with h | h
        · cases h; exact .inr ⟨rfl, List.mem_cons_self⟩
        · exact .inl h
      · exact .inr ⟨e, List.mem_cons_of_mem _ h⟩
    · rw [if_neg hk] at h
      rcases clOf_mem h with h | ⟨e, h⟩
      · exact .inl h
      · exact .inr ⟨e, List.mem_cons_of_mem _ h⟩
theorem clOf_has {g : Str → Addr} : ∀ {names : List (Str × NameKind)} {cs : List (Str × Addr)} {n : Str}, ((n, g n) ∈ cs ∨ (n, NameKind.free) ∈ names) → (n, g n) ∈ clOf g names cs
  | [], _, _, h => by rcases h with h | h; exact h; cases h
  | (m, k) :: r, cs, n, h => by
    unfold clOf
    by_cases hk : (k == NameKind.free) = true
    · rw [if_pos hk]
      have hk' : k = .free := by simpa using hk
      subst hk'
      apply clOf_has
      rcases h with h | h
      · exact .inl (List.mem_cons_of_mem _ h)
      · rcases List.mem_cons.mp h with h | h
        · cases h; exact .inl List.mem_cons_self
        · exact .inr h
    · rw [if_neg hk]
      apply clOf_has
      rcases h with h | h
      · exact .inl h
      · rcases List.mem_cons.mp h with h | h
        · cases h; simp at hk
        · exact .inr h
theorem lookup_of_mem' {α : Type} : ∀ {l : List (Str × α)} {n : Str} {a : α}, (n, a) ∈ l → ∃ b, l.lookup n = some b
  | (m, b) :: r, n, a, h => by
    by_cases e : n = m
    · subst e; exact ⟨b, by simp [List.lookup]⟩
    · have : (n == m) = false := by simpa using e
      rcases List.mem_cons.mp h with h | h
      · cases h; exact absurd rfl e
      · obtain ⟨b', hb⟩ := lookup_of_mem' h
        exact ⟨b', by simp only [List.lookup, this]; exact hb⟩
theorem mem_of_lookup' {α : Type} : ∀ {l : List (Str × α)} {n : Str} {a : α}, l.lookup n = some a → (n, a) ∈ l
  | (m, b) :: r, n, a, h => by
    by_cases e : n = m
    · subst e; simp [List.lookup] at h; subst h; exact List.mem_cons_self
    · have : (n == m) = false := by simpa using e
      simp only [List.lookup, this] at h
      exact List.mem_cons_of_mem _ (mem_of_lookup' h)

section
variable {c : Cx} {f : Fn} {ℓ : Locs} {σ σ' σ'' : Store} {h h' h₀ h'' : Heap} {p : Pl} {wr : List Addr}

noncomputable def relab (f : Fn) (scope : Scope) : Scope := relabel scope (f.env ⟨0, [], none⟩)
noncomputable def Fn.comp (f : Fn) (scope : Scope) : Fn := ⟨f.qual, relab f scope, none, f.cd, f.d, f.hf⟩
/-- what a comprehension sees of its place's names -/
noncomputable def Locs.comp (ℓ : Locs) (f : Fn) (scope : Scope) : Locs := fun x => if (f.comp scope).kind x = some .cell ∨ (f.comp scope).kind x = some .free then ℓ x else none

structure CompOk (f : Fn) (scope : Scope) : Prop where
  kind : scope.kind = .function
  cell : ∀ y ∈ scope.names, y.2 ≠ .cell
  names : ∀ y ∈ scope.names, y.2 = .local → scope.names.lookup y.1 = some .local
  free : ∀ y ∈ scope.names, y.2 = .free → f.kind y.1 = some .cell

theorem comp_kind {scope : Scope} (K : CompOk f scope) {x : Str} (h : (f.comp scope).kind x = some .cell ∨ (f.comp scope).kind x = some .free) : (x, NameKind.free) ∈ scope.names := by
  have hm : ∃ k, (x, k) ∈ (relab f scope).names ∧ (k = .cell ∨ k = .free) := by
    rcases h with h | h
    · exact ⟨_, mem_of_lookup' h, .inl rfl⟩
    · exact ⟨_, mem_of_lookup' h, .inr rfl⟩
  obtain ⟨k, hm, hk⟩ := hm
  obtain ⟨⟨n, k'⟩, hn, e⟩ := List.mem_map.mp (show (x, k) ∈ scope.names.map _ from hm)
  dsimp only at e
  split at e
  · rename_i q
    rw [Bool.and_eq_true, Bool.and_eq_true] at q
    have : k' = .free := by simpa using q.1.1
    cases e; subst this; exact hn
  · cases e
    rcases hk with rfl | rfl
    · exact absurd rfl (K.cell _ hn)
    · exact hn

theorem tests_run {ifs : List Expr} {Φ : Bool → Store → Prop} (q : TeAll c f ℓ ifs σ Φ) :
    Tr c f ℓ σ [] (fun env _ => forIn ifs true fun x r => if r = true then do let ok ← isTrue x env (eval x env); pure (ForInStep.yield ok) else pure (ForInStep.yield r)) (fun _ b b' => b = b') Φ := by
  intro A p s xs Q E ok rm H v0 k
  clear v0
  have stuck : ∀ (es : List Expr) (s : Shared) (Q : Bool → Shared → Prop), Q false s → wpAny (model c.prog c.w) A (forIn es false fun x r => if r = true then do let ok ← isTrue x (f.env p) (eval x (f.env p)); pure (ForInStep.yield ok) else pure (ForInStep.yield r)) Q E s := by
    intro es
    induction es with
    | nil => intro s Q hq; exact wpAny_pure hq
    | cons e es ih =>
      intro s Q hq
      rw [List.forIn_cons]
      simp only [Bool.false_eq_true, if_false]
      exact wpAny_bind (wpAny_pure (ih s Q hq))
  induction ifs generalizing σ s with
  | nil => exact wpAny_pure (k true true σ s.heap s.toks q H .refl rfl)
  | cons e es ih =>
    show wpAny _ A (forIn (e :: es) true fun x r => if r = true then do let ok ← isTrue x (f.env p) (eval x (f.env p)); pure (ForInStep.yield ok) else pure (ForInStep.yield r)) Q E s
    rw [List.forIn_cons]
    simp only [if_true]
    refine wpAny_bind (wpAny_bind (q A p s [] _ E ok rm H .nil fun b b' σ₁ h₁ t₁ q₁ H₁ s₁ vb => wpAny_pure ?_))
    subst vb
    cases b with
    | false => exact stuck es _ _ (k false false σ₁ h₁ t₁ q₁ H₁ s₁ rfl)
    | true => exact ih q₁ { s with heap := h₁, toks := t₁ } H₁ fun b b' σ₂ h₂ t₂ q₂ H₂ s₂ vb => k b b' σ₂ h₂ t₂ q₂ H₂ (s₁.trans H₁ s₂) vb

noncomputable def Store.le (σ σ' : Store) : Prop := ∀ a, σ a ≠ none → σ' a = σ a
theorem Store.le_set {σ : Store} {a : Addr} {o : AO} (h : σ a = none) : σ.le (σ.set a o) := fun b e => Store.set_ne (by rintro rfl; exact e h)

/-- what one turn of a comprehension does -/
noncomputable def CompTurn (c : Cx) (fC : Fn) (ℓC : Locs) (t elt : Expr) (ifs : List Expr) (g : AV → Option AV) (v : AV) (σ : Store) : Prop :=
  As c fC ℓC σ t v fun ℓ' σ' => σ' = σ ∧ (∀ x v, ℓC x = some v → ℓ' x = some v) ∧
    TeAll c fC ℓ' ifs σ fun b σ'' => σ'' = σ ∧ if b = true then Ev c fC ℓ' σ elt fun y σ₃ => σ₃ = σ ∧ g v = some y else g v = none

theorem codeAny_compLoop_go {prog : Program} {w : World} {A : Around} {R : Result → Shared → Prop} {s : Shared} {elt target iter : Expr} {ifs : List Expr} {scope : Scope} {pos : Pos} {it acc : Value} {env : Env} (I : Nat → Shared → Prop)
    (turn : ∀ n s, I n s → wpAny (model prog w) A (pyNext it) (fun r s₁ => match r with
      | none => R (.ok .next) s₁
      | some v => wpAny (model prog w) A (letOwnedTupleGo target it v) (fun _ s₁' => wpAny (model prog w) A (assign target env v) (fun _ s₂ =>
          wpAny (model prog w) A (forIn ifs true fun c r => if r = true then do let ok ← isTrue c env (eval c env); pure (ForInStep.yield ok) else pure (ForInStep.yield r)) (fun ok s₃ =>
            if ok = true then wpAny (model prog w) A (eval elt env) (fun x s₄ =>
              wpAny (model prog w) A (call (.builtin "list.append") [acc, x]) (fun _ s₅ => ∃ m, m < n ∧ I m s₅) (notedBy (model prog w) A env fun e s' => R (.error e) s') s₄) (notedBy (model prog w) A env fun e s' => R (.error e) s') s₃
            else ∃ m, m < n ∧ I m s₃) (notedBy (model prog w) A env fun e s' => R (.error e) s') s₂) (notedBy (model prog w) A env fun e s' => R (.error e) s') s₁') (notedBy (model prog w) A env fun e s' => R (.error e) s') s₁) (notedBy (model prog w) A env fun e s' => R (.error e) s') s)
    (n : Nat) (h : I n s) :
    codeAny (model prog w) A (.compLoop (.ListComp elt [⟨target, iter, ifs, 0⟩] scope pos) 0 it acc env) R s := by
  refine codeAny_loop rfl I (fun n s hI => ?_) n h
  show wpAny _ A ((compTurn (.ListComp elt [⟨target, iter, ifs, 0⟩] scope pos) 0 it acc env).onRaise (fun x => do noteFrame x env; theTreesLotGoes x)) _ _ s
  refine wpAny_noted ?_
  rw [compTurn_list]
  refine wpAny_bind (wpAny_standAt (wpAny_bind (wpAny_mono (turn n s hI) (fun r s₁ h₁ => ?_) fun _ _ h' => h')))
  cases r with
  | none => exact wpAny_pure h₁
  | some v =>
    refine wpAny_bind (wpAny_mono h₁ (fun _ s₁' h₁' => ?_) fun _ _ h' => h')
    refine wpAny_bind (wpAny_mono h₁' (fun _ s₂ h₂ => wpAny_bind (wpAny_mono h₂ (fun ok s₃ h₃ => ?_) fun _ _ h' => h')) fun _ _ h' => h')
    cases ok with
    | false => exact wpAny_pure ⟨rfl, h₃⟩
    | true =>
      exact wpAny_bind (wpAny_bind (wpAny_mono h₃ (fun x s₄ h₄ => wpAny_bind (wpAny_mono h₄ (fun _ s₅ h₅ => wpAny_pure (wpAny_pure ⟨rfl, h₅⟩)) fun _ _ h' => h')) fun _ _ h' => h'))

end
end Mine

set_option autoImplicit false
set_option maxRecDepth 100000
namespace Mine
open PySem PySem.W PySem.Calls PyProof.Rows

section
variable {c : Cx} {f : Fn} {ℓ : Locs} {σ σ' σ'' : Store} {h h' h₀ h'' : Heap} {p : Pl} {wr : List Addr}

theorem Here.weak {ℓ' : Locs} (H : Here c f ℓ' σ p h) (k : ∀ x v, ℓ x = some v → ℓ' x = some v) : Here c f ℓ σ p h :=
  ⟨H.good, H.isFn, let ⟨m, n, r⟩ := H.ns; ⟨m, n, fun x v e hk => r x v (k x v e) hk⟩, fun x v e hk => H.cell x v (k x v e) hk, H.cells, H.inj, H.has, H.off, H.top⟩

structure Two (c : Cx) (f : Fn) (ℓ : Locs) (p : Pl) (σ₀ : Store) (h₀ : Heap) (wr : List Addr) (σ : Store) (h : Heap) : Prop where
  H : Here c f ℓ σ p h
  S : Step σ₀ σ (Own f p) h₀ h
  wn : ∀ b ∈ wr, σ b = none

theorem Two.adv {fC : Fn} {pC : Pl} {ℓC ℓb : Locs} {σ₀ σa σb : Store} {ha hb : Heap} (T : Two c f ℓ p σ₀ h₀ wr σa ha) (HC : Here c fC ℓC σa pC ha) (HC' : Here c fC ℓb σb pC hb) (s : Step σa σb (Own fC pC) ha hb)
    (hC : ∀ a, Own fC pC a → a = pC.L) (nl : pC.L ≠ p.L) (nc : ∀ x, p.cells.lookup x ≠ some pC.L) (n0 : h₀.get? pC.L = none) (al : ∀ b ∈ wr, ha.get? b ≠ none) : Two c f ℓ p σ₀ h₀ wr σb hb where
  H := T.H.stepO s (s.tk HC) HC'.good (by
    rintro a (rfl | ⟨x, hx⟩) o
    · exact nl (hC _ o).symm
    · exact nc x ((hC _ o) ▸ hx))
  S := Step.trans2 (fun _ o => T.H.own_alive o) T.S s fun a o e q => by have := hC a q; subst this; rw [e] at n0; cases n0
  wn := fun b m => by
    cases z : σb b with
    | none => rfl
    | some _ => exact absurd (s.fresh b (T.wn b m) (by rw [z]; simp)) (al b m)

theorem comp_core {elt t iter : Expr} {ifs : List Expr} {scope : Scope} {pos pos' : Pos} {use : Option (Value → Sem Unit)} {Φ : Addr → Store → Prop} (hf : f.hf = true) (K : CompOk f scope)
    (q : Itr c f ℓ σ iter t fun vs Req σ₁ => ∃ g : AV → Option AV, vs.length ≤ 1000 ∧ (∀ σ', σ₁.le σ' → Req σ') ∧ (∀ v ∈ vs, ∀ σ', σ₁.le σ' → CompTurn c (f.comp scope) (ℓ.comp f scope) t elt ifs g v σ') ∧
      ∀ D, σ₁ D = none → Φ D (σ₁.set D (.list (vs.filterMap g))))
    (hs : ∀ env x, foldedSetIterable iter env x = pure x) {A : Around} {s : Shared} {Q : Value → Shared → Prop} {E : Value → Shared → Prop} (ok : c.Ok) (rm : Room c f.d f.hf A) (H : Here c f ℓ σ p s.heap)
    (k : ∀ D σ' C h' tk m, Φ D σ' → Here c f ℓ σ' p h' → Step σ σ' (Own f p) s.heap h' → h'.Ns C m → σ' C = none → c.h₀.get? C = none → C ≠ p.L → (∀ x, p.cells.lookup x ≠ some C) → s.heap.get? C = none →
      compPost (model c.prog c.w) A E use Q (.ref D) C (.ok .next) { s with heap := h', toks := tk }) :
    wpAny (model c.prog c.w) A (comprehension (.ListComp elt [⟨t, iter, ifs, 0⟩] scope pos) scope (f.env p) pos' (newList []) false (eval iter (f.env p)) use) Q E s := by
  have hh := rm.hand hf
  have hcells : ∀ n, (n, NameKind.free) ∈ scope.names → p.cells.lookup n = some ((p.cells.lookup n).getD 0) := fun n hn => by
    obtain ⟨a, ha⟩ := H.has n (K.free _ hn rfl)
    rw [ha]; rfl
  refine wpAny_comprehension_free (cl := clOf (fun n => (p.cells.lookup n).getD 0) scope.names []) rfl (hs _) (closureFor_cells _ hcells) K.kind K.names ?_
  refine q A p s _ E ok rm hh H fun I wr St vs Req σ₁ h₁ t₁ ⟨g, hz, hreq, hturn, hend⟩ W st₀ H₁ s₁ hwr => ?_
  have al₁ : ∀ b ∈ wr, h₁.get? b ≠ none := fun b m => by obtain ⟨o, _, e, _⟩ := W.cls _ _ st₀ b m; rw [e]; simp
  have apart : ∀ b ∈ wr, b ≠ p.L ∧ ∀ x, p.cells.lookup x ≠ some b := fun b m => H.apart (hwr b m).1
  have off₀ : ∀ b ∈ wr, c.h₀.get? b = none := fun b m => H.good.off₀ (hwr b m).1
  have none₀ : ∀ b ∈ wr, s.heap.get? b = none := fun b m => (hwr b m).1
  refine wpAny_newObj_type ?_ (by size_fits)
  -- the list
  have H₂ : Here c f ℓ (σ₁.set h₁.objs.size (.list [])) p (h₁.push (listObj #[] 0)) := H₁.alloc (.list .nil)
  have s₂ := s₁.trans H₁ (.ofC (Step.alloc (σ := σ₁) (h := h₁) (o := .list []) (oc := listObj #[] 0)))
  have off₁ := H₁.good.size_off
  have old₁ : ∀ b, h₁.get? b ≠ none → b < h₁.objs.size := fun b e => by
    cases z : h₁.get? b with
    | none => exact absurd z e
    | some o => exact Heap.lt_size z
  have wn₂ : ∀ b ∈ wr, (σ₁.set h₁.objs.size (.list [])) b = none := fun b m => by
    rw [Store.set_ne (Nat.ne_of_lt (old₁ b (al₁ b m)))]; exact (hwr b m).2
  have fresh : ∀ a, h₁.objs.size ≤ a → s.heap.get? a = none := fun a ha => by
    cases e : s.heap.get? a with
    | none => rfl
    | some o =>
      have e' : h₁.get? a = none := by
        cases z : h₁.get? a with
        | none => rfl
        | some o => exact absurd (Heap.lt_size z) (Nat.not_lt.mpr ha)
      by_cases ob : Own f p a
      · exact absurd e' (H₁.own_alive ob)
      · cases z : σ a with
        | none => exact absurd e' (s₁.keep a o e z ob).alive
        | some z' =>
          cases z₁ : σ₁ a with
          | none => exact absurd z₁ (s₁.stay a (by rw [z]; simp))
          | some o₁ => obtain ⟨oc, e₁, _⟩ := H₁.good.obj a o₁ z₁; rw [e₁] at e'; cases e'
  refine wpAny_newFunctionEnv K.cell (by intro y hy; simp at hy) (fun h₃ hns hsb => ?_) K.kind
  dsimp only at hns hsb
  show codeAny _ A (.compStart _ 0 (.ref I) (.ref h₁.objs.size) ((f.comp scope).env ⟨(h₁.push (listObj #[] 0)).objs.size, clOf (fun n => (p.cells.lookup n).getD 0) scope.names [], p.fr⟩)) _ _
  have sz : (h₁.push (listObj #[] 0)).objs.size = h₁.objs.size + 1 := Heap.size_push _ _
  generalize hC : (h₁.push (listObj #[] 0)).objs.size = C at hns hsb sz ⊢
  have kp₃ : ∀ b o, (h₁.push (listObj #[] 0)).get? b = some o → h₃.get? b = some o := fun b o e =>
    hsb.extBut b o (by have := Heap.lt_size e; rw [hC] at this; exact Nat.ne_of_lt this) (Heap.get?_push_of_some _ e)
  have H₃ := H₂.ext kp₃
  have s₃ := s₂.trans H₂ (.ext kp₃)
  have nC : s.heap.get? C = none := fresh C (by omega)
  have apC := H.apart nC
  have C₀ : c.h₀.get? C = none := H.good.off₀ nC
  have C₂ : (σ₁.set h₁.objs.size (.list [])) C = none := by
    refine H₂.good.off ?_
    cases z : (h₁.push (listObj #[] 0)).get? C with
    | none => rfl
    | some o => exact absurd (Heap.lt_size z) (by rw [hC]; exact Nat.lt_irrefl _)
  generalize hcl : clOf (fun n => (p.cells.lookup n).getD 0) scope.names [] = cl
  have clP : ∀ x a, cl.lookup x = some a → p.cells.lookup x = some a ∧ (x, NameKind.free) ∈ scope.names := fun x a e => by
    have := mem_of_lookup' e
    rw [← hcl] at this
    rcases clOf_mem this with h | ⟨e, h⟩
    · cases h
    · exact ⟨by rw [e]; exact hcells x h, h⟩
  have HC₃ : Here c (f.comp scope) (ℓ.comp f scope) (σ₁.set h₁.objs.size (.list [])) ⟨C, cl, p.fr⟩ h₃ := by
    refine ⟨H₃.good, K.kind, ⟨_, hns, fun x v e hk => ?_⟩, fun x v e hk => ?_, fun x a e => H₃.cells x a (clP x a e).1, fun x y a e e' => H₃.inj x y a (clP x a e).1 (clP y a e').1, fun x e => ?_, ?_, fun h => by cases h⟩
    · unfold Locs.comp at e
      rw [if_neg (by rw [hk]; simp)] at e; cases e
    · unfold Locs.comp at e
      rw [if_pos hk] at e
      have fr := comp_kind K hk
      obtain ⟨a, v', e1, ic, vr⟩ := H₃.cell x v e (.inl (K.free _ fr rfl))
      refine ⟨a, v', ?_, ic, vr⟩
      obtain ⟨b, hb⟩ := lookup_of_mem' (l := cl) (n := x) (a := (p.cells.lookup x).getD 0) (by rw [← hcl]; exact clOf_has (.inr fr))
      show cl.lookup x = some a
      rw [hb]
      have := (clP x b hb).1
      rw [e1] at this; cases this; rfl
    · have fr := comp_kind K (.inl e)
      obtain ⟨b, hb⟩ := lookup_of_mem' (l := cl) (n := x) (a := (p.cells.lookup x).getD 0) (by rw [← hcl]; exact clOf_has (.inr fr))
      exact ⟨b, hb⟩
    · rintro a (rfl | ⟨x, hx⟩)
      · exact ⟨C₂, C₀⟩
      · exact H₃.off a (.inr ⟨x, (clP x a hx).1⟩)
  have ownC : ∀ a, Own (f.comp scope) ⟨C, cl, p.fr⟩ a → a = C := by
    rintro a (rfl | ⟨x, ⟨e, _⟩, _⟩)
    · rfl
    · cases e
  have wC : ∀ b ∈ wr, b ≠ C := fun b m => Nat.ne_of_lt (by rw [sz]; exact Nat.lt_succ_of_lt (old₁ b (al₁ b m)))
  have st₃ : St 0 h₃ := W.frame _ _ _ st₀ (fun b m o e => kp₃ b o (Heap.get?_push_of_some _ e)) fun a xs e => kp₃ a _ (Heap.get?_push_of_some _ e)
  have loop : ∀ tk, codeAny (model c.prog c.w) A (.compLoop (.ListComp elt [⟨t, iter, ifs, 0⟩] scope pos) 0 (.ref I) (.ref h₁.objs.size) ((f.comp scope).env ⟨C, cl, p.fr⟩)) (compPost (model c.prog c.w) A E use Q (.ref h₁.objs.size) C) { s with heap := h₃, toks := tk } := by
    intro tk
    refine codeAny_compLoop_go (fun n s' => ∃ i σi h' tk, s' = { s with heap := h', toks := tk } ∧ σi = σ₁.set h₁.objs.size (.list ((vs.take i).filterMap g)) ∧ St i h' ∧ Two c f ℓ p σ s.heap wr σi h' ∧ Here c (f.comp scope) (ℓ.comp f scope) σi ⟨C, cl, p.fr⟩ h' ∧
      i ≤ vs.length ∧ n = vs.length + 1 - i) ?_ (vs.length + 1) ⟨0, _, h₃, tk, rfl, by simp, st₃, ⟨H₃, s₃, wn₂⟩, HC₃, Nat.zero_le _, rfl⟩
    rintro n s' ⟨i, σi, h₄, t₄, rfl, hσ, st, T, HC, le, rfl⟩
    have leσ : σ₁.le σi := hσ ▸ Store.le_set off₁
    have hids : Hids c σi h₄ wr := fun b m => ⟨T.wn b m, off₀ b m, H.good.notFrame (none₀ b m), nt_of (W.cls _ _ st b m)⟩
    by_cases lt : i < vs.length
    · refine W.turn A _ σi i vs[i] _ _ _ _ hh ok T.H.good (hreq _ leσ) st (List.getElem?_eq_getElem lt) fun x h₅ t₅ vr st₅ k₅ => ?_
      have T₅ : Two c f ℓ p σ s.heap wr σi h₅ := ⟨T.H.hidL hids k₅ apart, T.S.hidL k₅ none₀, T.wn⟩
      have HC₅ := HC.hidL hids k₅ fun b m => ⟨wC b m, fun x e => (apart b m).2 x (clP x b e).1⟩
      have al₅ : ∀ b ∈ wr, h₅.get? b ≠ none := fun b m => by obtain ⟨o, _, e, _⟩ := W.cls _ _ st₅ b m; rw [e]; simp
      have ownw : ∀ b ∈ wr, ¬ Own (f.comp scope) ⟨C, cl, p.fr⟩ b := fun b m o => wC b m (ownC b o)
      refine hturn vs[i] (List.getElem_mem lt) σi leσ A ⟨C, cl, p.fr⟩ { s with heap := h₅, toks := t₅ } x _ _ ok rm HC₅ vr fun ℓ₆ σ₆ h₆ t₆ ⟨e₆, w₆, q₆⟩ HC₆ s₆ => ?_
      subst e₆
      have T₆ := T₅.adv HC₅ HC₆ s₆ ownC apC.1 apC.2 nC al₅
      have st₆ := W.frame _ _ h₆ st₅ (fun b m o e => Kp.fields (W.cls _ _ st₅ b m) e (s₆.keep b o e (T.wn b m) (ownw b m))) (s₆.tk HC₅)
      have al₆ : ∀ b ∈ wr, h₆.get? b ≠ none := fun b m => by obtain ⟨o, _, e, _⟩ := W.cls _ _ st₆ b m; rw [e]; simp
      refine tests_run q₆ A ⟨C, cl, p.fr⟩ { s with heap := h₆, toks := t₆ } [] _ _ ok rm HC₆ .nil fun b b' σ₇ h₇ t₇ ⟨e₇, q₇⟩ HC₇ s₇ vb => ?_
      subst e₇ vb
      have T₇ := T₆.adv HC₆ HC₇ s₇ ownC apC.1 apC.2 nC al₆
      have st₇ := W.frame _ _ h₇ st₆ (fun b m o e => Kp.fields (W.cls _ _ st₆ b m) e (s₇.keep b o e (T.wn b m) (ownw b m))) (s₇.tk HC₆)
      have al₇ : ∀ b ∈ wr, h₇.get? b ≠ none := fun b m => by obtain ⟨o, _, e, _⟩ := W.cls _ _ st₇ b m; rw [e]; simp
      cases b with
      | false =>
        simp only [Bool.false_eq_true, if_false] at q₇ ⊢
        refine ⟨vs.length + 1 - (i + 1), by omega, i + 1, σ₇, h₇, t₇, rfl, ?_, st₇, T₇, HC₇.weak w₆, by omega, rfl⟩
        rw [hσ, List.take_add_one, List.getElem?_eq_getElem lt, List.filterMap_append]
        simp [q₇]
      | true =>
        simp only [if_true] at q₇ ⊢
        refine q₇ A ⟨C, cl, p.fr⟩ { s with heap := h₇, toks := t₇ } [] _ _ ok rm HC₇ .nil fun y y' σ₈ h₈ t₈ ⟨e₈, q₈⟩ HC₈ s₈ vy => ?_
        subst e₈
        have T₈ := T₇.adv HC₇ HC₈ s₈ ownC apC.1 apC.2 nC al₇
        have st₈ := W.frame _ _ h₈ st₇ (fun b m o e => Kp.fields (W.cls _ _ st₇ b m) e (s₈.keep b o e (T.wn b m) (ownw b m))) (s₈.tk HC₇)
        have al₈ : ∀ b ∈ wr, h₈.get? b ≠ none := fun b m => by obtain ⟨o, _, e, _⟩ := W.cls _ _ st₈ b m; rw [e]; simp
        have hD : σ₈ h₁.objs.size = some (.list ((vs.take i).filterMap g)) := by rw [hσ]; exact Store.set_same ..
        obtain ⟨xs, nn, eD, rD⟩ := list_at (.inl hD) T₈.H.good
        have len := rD.size
        have lenb : ((vs.take i).filterMap g).length ≤ vs.length := Nat.le_trans (List.length_filterMap_le _ _) (by rw [List.length_take]; omega)
        refine wpAny_list_append_plain (hsz := by rw [sizeLine_eq]; omega) ⟨_, eD⟩ fun h₉ hl₉ hs₉ => ?_
        obtain ⟨n₉, e₉⟩ := hl₉
        have orD : OR c.prog c.w h₉ (.list ((vs.take i).filterMap g ++ [y])) (listObj (xs.push y') n₉) := by
          refine .list ?_
          have tk := TK.upd T₈.H.good hD hs₉
          rw [Array.toList_push]
          exact (rD.mono tk).append (.one (vy.mono tk))
        have HC₉ := HC₈.upd hD hs₉ e₉ orD
        have T₉ := T₈.adv HC₈ HC₉ (.ofC (.upd hD hs₉)) ownC apC.1 apC.2 nC al₈
        refine ⟨vs.length + 1 - (i + 1), by omega, i + 1, _, h₉, t₈, rfl, ?_, W.frame _ _ h₉ st₈ (fun b m o e => (hs₉.2 b (by rintro rfl; have := T.wn _ m; rw [hD] at this; cases this)).trans e) (TK.upd T₈.H.good hD hs₉), T₉, HC₉.weak w₆, by omega, rfl⟩
        rw [hσ, List.take_add_one, List.getElem?_eq_getElem lt, List.filterMap_append]
        funext a
        unfold Store.set
        split <;> simp [q₈]
    · have e : i = vs.length := by omega
      subst e
      refine wpAny_mono (W.done A _ σi (fun s' => compPost (model c.prog c.w) A E use Q (.ref h₁.objs.size) C (.ok .next) s') _ hh ok T.H.good (hreq _ leσ) st fun h₅ t₅ k₅ => ?_) (fun r s' hr => ?_) fun _ _ e => e
      · obtain ⟨m, hm, _⟩ := HC.ns
        have nCw : C ∉ wr := fun m => wC C m rfl
        refine k _ σi C h₅ t₅ m ?_ (T.H.hidL hids k₅ apart) (T.S.hidL k₅ none₀) (hm.at' fun o e => k₅ _ o nCw e) (HC.off C (.inl rfl)).1 C₀ apC.1 apC.2 nC
        rw [hσ, List.take_length]
        exact hend _ off₁
      · obtain ⟨rfl, hr⟩ := hr; exact hr
  exact codeAny_compStart_list (loop _) (W.self A _ 0 _ _ st₃ (loop _))

theorem ev_comp {elt t iter : Expr} {ifs : List Expr} {scope : Scope} {pos : Pos} {Φ : AV → Store → Prop} (hf : f.hf = true) (K : CompOk f scope)
    (q : Itr c f ℓ σ iter t fun vs Req σ₁ => ∃ g : AV → Option AV, vs.length ≤ 1000 ∧ (∀ σ', σ₁.le σ' → Req σ') ∧ (∀ v ∈ vs, ∀ σ', σ₁.le σ' → CompTurn c (f.comp scope) (ℓ.comp f scope) t elt ifs g v σ') ∧
      ∀ D, σ₁ D = none → Φ (.ref D) (σ₁.set D (.list (vs.filterMap g))))
    (hs : ∀ env x, foldedSetIterable iter env x = pure x := by intro _ _; rfl) : Ev c f ℓ σ (.ListComp elt [⟨t, iter, ifs, 0⟩] scope pos) Φ := by
  intro A p s xs Q E ok rm H _ k
  show wpAny _ A (eval (.ListComp elt [⟨t, iter, ifs, 0⟩] scope pos) (f.env p)) Q E s
  rw [eval_ListComp]
  refine comp_core (use := none) (Φ := fun D σ' => Φ (.ref D) σ') hf K q hs ok rm H fun D σ' C h' tk m φ H' s' hn hC C₀ nl nc n0 => ⟨m, hn, fun h'' hs'' => ?_⟩
  have hw : Hids c σ' h' [C] := fun b mb => by
    rw [List.mem_singleton] at mb; subst mb
    obtain ⟨o, es, ep, ho, hd, _⟩ := hn
    exact ⟨hC, C₀, H.good.notFrame n0, o, ho, fun xs e => by rw [e] at hd; cases hd⟩
  have kb : KeepBut [C] h' h'' := fun b o nb e => (hs''.2 b fun q => nb (List.mem_singleton.mpr q)).trans e
  exact k (.ref D) (.ref D) σ' h'' tk φ (H'.hidL hw kb fun b mb => by rw [List.mem_singleton] at mb; subst mb; exact ⟨nl, nc⟩) (s'.hidL kb fun b mb => by rw [List.mem_singleton] at mb; subst mb; exact n0) (.ref _)

/-- a comprehension that is stored at once -/
theorem st_assign_comp {x : Str} {xpos spos : Pos} {elt t iter : Expr} {ifs : List Expr} {scope : Scope} {pos : Pos} {Φ : AF → Locs → Store → Prop} (hf : f.hf = true) (K : CompOk f scope) (hk : f.kind x = some .local)
    (q : Itr c f ℓ σ iter t fun vs Req σ₁ => ∃ g : AV → Option AV, vs.length ≤ 1000 ∧ (∀ σ', σ₁.le σ' → Req σ') ∧ (∀ v ∈ vs, ∀ σ', σ₁.le σ' → CompTurn c (f.comp scope) (ℓ.comp f scope) t elt ifs g v σ') ∧
      ∀ D, σ₁ D = none → Φ .next (ℓ.set x (.ref D)) (σ₁.set D (.list (vs.filterMap g))))
    (hsw : ∀ env, swapsWith (.ListComp elt [⟨t, iter, ifs, 0⟩] scope pos) (some (.Name x xpos)) spos.line env = pure true := by intro _; rfl)
    (hs : ∀ env x, foldedSetIterable iter env x = pure x := by intro _ _; rfl) : St c f ℓ σ (.Assign [.Name x xpos] (.ListComp elt [⟨t, iter, ifs, 0⟩] scope pos) spos) Φ := by
  intro A p s Q E ok rm H k
  rw [exec_Assign_Name_used _ _ _ _ (hsw _)]
  refine wpAny_bind (wpAny_standAt (wpAny_bind ?_))
  show wpAny _ A (do let _ ← comprehension (.ListComp elt [⟨t, iter, ifs, 0⟩] scope pos) scope (f.env p) _ (newList []) false (eval iter (f.env p)) (some (assign (.Name x xpos) (f.env p)))) _ _ s
  refine wpAny_bind ?_
  refine comp_core (use := some (assign (.Name x xpos) (f.env p))) (Q := fun _ s' => wpAny (model c.prog c.w) A (pure ()) (fun _ s' => wpAny (model c.prog c.w) A (pure Flow.next) Q E s') E s') (Φ := fun D σ' => Φ .next (ℓ.set x (.ref D)) σ') hf K q hs ok rm H
    fun D σ' C h' tk m φ H' s' hn hC C₀ nl nc n0 => ?_
  show wpAny _ A (assign (.Name x xpos) (f.env p) (.ref D)) _ _ _
  refine as_local (Φ := fun ℓ' σ'' => ℓ' = ℓ.set x (.ref D) ∧ σ'' = σ') hk ⟨rfl, rfl⟩ A p { s with heap := h', toks := tk } (.ref D) _ E ok rm H' (.ref D) fun ℓ' σ'' h₂ t₂ e H₂ s₂ => ?_
  obtain ⟨rfl, rfl⟩ := e
  have ownC : ¬ Own f p C := by
    rintro (e | ⟨y, _, hy⟩)
    · exact nl e
    · exact nc y hy
  have hn₂ : h₂.Ns C m := Ns.kp hn fun o e => s₂.keep C o e hC ownC
  refine ⟨m, hn₂, fun h'' hs'' => wpAny_pure (wpAny_pure ?_)⟩
  have hw : Hids c σ'' h₂ [C] := fun b mb => by
    rw [List.mem_singleton] at mb; subst mb
    obtain ⟨o, es, ep, ho, hd, _⟩ := hn₂
    exact ⟨hC, C₀, H.good.notFrame n0, o, ho, fun xs e => by rw [e] at hd; cases hd⟩
  have kb : KeepBut [C] h₂ h'' := fun b o nb e => (hs''.2 b fun q => nb (List.mem_singleton.mpr q)).trans e
  exact k .next .next _ _ h'' t₂ φ (H₂.hidL hw kb fun b mb => by rw [List.mem_singleton] at mb; subst mb; exact ⟨nl, nc⟩) ((s'.trans H' s₂).hidL kb fun b mb => by rw [List.mem_singleton] at mb; subst mb; exact n0) .next
end
end Mine

set_option autoImplicit false
set_option maxRecDepth 100000
namespace Mine
open PySem PySem.W PySem.Calls PyProof.Rows

section
variable {c : Cx} {f : Fn} {ℓ : Locs} {σ σ' σ'' : Store} {h h' h₀ h'' : Heap} {p : Pl} {wr : List Addr} {d : Nat} {hf : Bool}

theorem cok {b : String} : CalleeOk c (.builtin b) := .inr fun _ e => by cases e
theorem cok_type {b : String} : CalleeOk c (.type b) := .inr fun _ e => by cases e

/-- an object of the heap's enters the store -/
theorem Good.enter {a : Addr} {o : AO} {oc : Obj} (g : Good c σ h) (e : h.get? a = some oc) (r : OR c.prog c.w h o oc) (n0 : c.h₀.get? a = none) (low : a ≠ sysModules) (nf : ∀ env ∈ c.stk, env.frame ≠ some a) : Good c (σ.set a o) h := by
  refine ⟨g.keep, fun b x q => ?_, fun b q => ?_, g.stat, (Store.set_ne low.symm).trans g.low, fun env he => ?_⟩
  · by_cases eb : b = a
    · subst eb; rw [Store.set_same] at q; cases q; exact ⟨oc, e, r⟩
    · rw [Store.set_ne eb] at q; exact g.obj b x q
  · by_cases eb : b = a
    · subst eb; exact n0
    · rw [Store.set_ne eb] at q; exact g.new b q
  · obtain ⟨k, L, m, ef, ns, h0, s0⟩ := g.fr env he
    exact ⟨k, L, m, ef, ns, h0, (Store.set_ne (by rintro rfl; exact nf env he ef)).trans s0⟩
theorem Step.enter {O : Addr → Prop} {a : Addr} {o : AO} (kp : ∀ b x, h.get? b = some x → h'.get? b = some x) (n : h.get? a = none) : Step σ (σ.set a o) O h h' := by
  refine ⟨fun b x e _ _ => .same (kp b x e), fun b q q' => ?_, fun b q => Store.set_some q⟩
  by_cases eb : b = a
  · subst eb; exact n
  · rw [Store.set_ne eb] at q'; exact absurd q q'
theorem size_none (h : Heap) : h.get? h.objs.size = none := by
  cases z : h.get? h.objs.size with
  | none => rfl
  | some o => exact absurd (Heap.lt_size z) (Nat.lt_irrefl _)

/-! ## methods of builtin objects -/
theorem meth_list {l : Addr} {vs : List AV} {name : Str} {id : String} (il : ListIs c σ l vs) (slot : Slot "list" name id) (hty : typeOf (.builtin id) = pure (.type "method_descriptor")) : MethOf c σ (.ref l) name (.builtin id) := by
  intro A s x pl Q E ok g vr k
  cases vr
  obtain ⟨xs, n, e, r⟩ := list_at il g
  exact getMethod_builtin ⟨_, e, rfl⟩ PySem.F.plainAttrs_list slot hty (fun a ea => by cases ea; exact ⟨_, e, rfl⟩) k
theorem meth_dict {l : Addr} {es : Es} {name : Str} {id : String} (i : σ l = some (.dict es)) (slot : Slot "dict" name id) (hty : typeOf (.builtin id) = pure (.type "method_descriptor")) : MethOf c σ (.ref l) name (.builtin id) := by
  intro A s x pl Q E ok g vr k
  cases vr
  obtain ⟨kvs, hd, r, low⟩ := dict_at i g
  exact getMethod_builtin hd.typeIs PySem.F.plainAttrs_dict slot hty hd.mapOf.noDict k
theorem meth_str {y : Str} {name : Str} {id : String} (slot : Slot "str" name id) (hty : typeOf (.builtin id) = pure (.type "method_descriptor")) : MethOf c σ (.str y) name (.builtin id) := by
  intro A s x pl Q E ok g vr k
  cases vr
  exact getMethod_builtin (typeIs_str ..) PySem.F.plainAttrs_str slot hty (fun a ea => by cases ea) k

/-! ## helpers: a builtin is called -/
theorem cw1 {g : Value} {a : AV} {Φ : AV → Store → Prop}
    (q : ∀ (A : Around) (s : Shared) (x : Value) (Q : Value → Shared → Prop) (E : Value → Shared → Prop), c.Ok → Room c d hf A → Good c σ s.heap → VR s.heap a x →
      (∀ v y σ' h' tk, Φ v σ' → Good c σ' h' → StepC σ σ' s.heap h' → VR h' v y → Q y { s with heap := h', toks := tk }) → wpAny (model c.prog c.w) A (call g [x]) Q E s) : Cw c d hf σ (.val g) [a] [] Φ := by
  intro A s g' xs ks Q E ok rm G vg va vk k
  cases vg; cases vk
  cases va with
  | cons va r => cases r; exact q A s _ Q E ok rm G va k
theorem cw2 {g : Value} {a b : AV} {Φ : AV → Store → Prop}
    (q : ∀ (A : Around) (s : Shared) (x y : Value) (Q : Value → Shared → Prop) (E : Value → Shared → Prop), c.Ok → Room c d hf A → Good c σ s.heap → VR s.heap a x → VR s.heap b y →
      (∀ v y σ' h' tk, Φ v σ' → Good c σ' h' → StepC σ σ' s.heap h' → VR h' v y → Q y { s with heap := h', toks := tk }) → wpAny (model c.prog c.w) A (call g [x, y]) Q E s) : Cw c d hf σ (.val g) [a, b] [] Φ := by
  intro A s g' xs ks Q E ok rm G vg va vk k
  cases vg; cases vk
  cases va with
  | cons va r => cases r with
    | cons vb r => cases r; exact q A s _ _ Q E ok rm G va vb k
theorem cw3 {g : Value} {a b e : AV} {Φ : AV → Store → Prop}
    (q : ∀ (A : Around) (s : Shared) (x y z : Value) (Q : Value → Shared → Prop) (E : Value → Shared → Prop), c.Ok → Room c d hf A → Good c σ s.heap → VR s.heap a x → VR s.heap b y → VR s.heap e z →
      (∀ v y σ' h' tk, Φ v σ' → Good c σ' h' → StepC σ σ' s.heap h' → VR h' v y → Q y { s with heap := h', toks := tk }) → wpAny (model c.prog c.w) A (call g [x, y, z]) Q E s) : Cw c d hf σ (.val g) [a, b, e] [] Φ := by
  intro A s g' xs ks Q E ok rm G vg va vk k
  cases vg; cases vk
  cases va with
  | cons va r => cases r with
    | cons vb r => cases r with
      | cons vc r => cases r; exact q A s _ _ _ Q E ok rm G va vb vc k

theorem cw_append {l : Addr} {vs : List AV} {v : AV} {Φ : AV → Store → Prop} (il : σ l = some (.list vs)) (hz : vs.length ≤ 1000) (φ : Φ .none (σ.set l (.list (vs ++ [v])))) : Cw c d hf σ (.val (.builtin "list.append")) [.ref l, v] [] Φ :=
  cw2 fun A s x y Q E ok rm g va vb k => by
    cases va
    obtain ⟨xs, n, e, r⟩ := list_at (.inl il) g
    refine wpAny_list_append_plain (hsz := by rw [sizeLine_eq]; have := r.size; omega) ⟨_, e⟩ fun h' hl hs => ?_
    obtain ⟨n', e'⟩ := hl
    have tk := TK.upd g il hs
    have orD : OR c.prog c.w h' (.list (vs ++ [v])) (listObj (xs.push y) n') := .list (by rw [Array.toList_push]; exact (r.mono tk).append (.one (vb.mono tk)))
    exact k .none .none _ h' s.toks φ (g.upd il hs e' orD) (.upd il hs) .none
theorem cw_get {D : Addr} {es : Es} {ky : Str} {Φ : AV → Store → Prop} (i : σ D = some (.dict es)) (φ : Φ ((es.get ky).getD .none) σ) : Cw c d hf σ (.val (.builtin "dict.get")) [.ref D, .str ky, .none] [] Φ :=
  cw3 fun A s x y z Q E ok rm g va vb vc k => by
    cases va; cases vb; cases vc
    obtain ⟨kvs, hd, r, low⟩ := dict_at i g
    refine call_meetsIn PySem.F.slot_dict_get hd.typeIs PySem.F.entry_dict_get (PySem.F.args_dict_get_3 _ _ _) (meets_dict_get_default (PySem.strKind c.prog c.w) D (strKind_is c.prog c.w ky _) low .none) ⟨_, hd.mapOf, ?_⟩
    refine k _ _ σ s.heap _ φ g .refl ?_
    cases e : es.get ky with
    | none => rw [r.get_none e]; exact .none
    | some v => obtain ⟨x, hx, vr⟩ := r.get e; rw [hx]; exact vr
theorem cw_pop {D : Addr} {es : Es} {ky : Str} {v : AV} {Φ : AV → Store → Prop} (i : σ D = some (.dict es)) (hz : es.length ≤ 1000) (hv : es.get ky = some v) (φ : Φ v (σ.set D (.dict (es.del ky)))) :
    Cw c d hf σ (.val (.builtin "dict.pop")) [.ref D, .str ky] [] Φ :=
  cw2 fun A s x y Q E ok rm g va vb k => by
    cases va; cases vb
    obtain ⟨kvs, hd, r, low⟩ := dict_at i g
    obtain ⟨x, hx, vr⟩ := r.get hv
    refine call_meetsIn PySem.F.slot_dict_pop hd.typeIs PySem.F.entry_dict_pop (PySem.F.args_dict_pop_2 _ _) (meets_dict_pop_there (PySem.strKind c.prog c.w) D (strKind_is c.prog c.w ky _) [] (.inl rfl) rfl) ⟨kvs, x, hd, by rw [sizeLine_eq, ← r.length]; omega, hx, fun h' hd' hs => ?_⟩
    have tk := TK.upd g i hs
    obtain ⟨G', S'⟩ := dict_turnedC (es' := es.del ky) g i hd' hs fun tk => (r.mono tk).del ky
    exact k v x _ h' _ φ G' S' (vr.mono tk)
theorem cw_update_nil {D O : Addr} {es : Es} {Φ : AV → Store → Prop} (i : σ D = some (.dict es)) (o : σ O = some (.dict [])) (ne : D ≠ O) (hz : es.length ≤ 1000) (φ : Φ .none (σ.set D (.dict es))) :
    Cw c d hf σ (.val (.builtin "dict.update")) [.ref D, .ref O] [] Φ :=
  cw2 fun A s x y Q E ok rm g va vb k => by
    cases va; cases vb
    obtain ⟨kvs, hd, r, low⟩ := dict_at i g
    obtain ⟨kvs₂, ho, r₂, low₂⟩ := dict_at o g
    cases r₂
    refine call_meetsIn PySem.F.slot_dict_update hd.typeIs PySem.F.entry_dict_update (PySem.F.args_dict_update_2 _ _) (meets_dict_update (PySem.strKind c.prog c.w) D O ne low₂) ⟨kvs, [], hd, ho, by rw [sizeLine_eq, ← r.length]; simp; omega, fun h' hd' _ hs => ?_⟩
    obtain ⟨G', S'⟩ := dict_turnedC (es' := es) g i (kvs' := kvs) hd' hs fun tk => r.mono tk
    exact k .none .none _ h' _ φ G' S' .none
theorem cw_len_list {l : Addr} {vs : List AV} {Φ : AV → Store → Prop} (il : ListIs c σ l vs) (hz : vs.length ≤ 1000) (φ : Φ (.int vs.length) σ) : Cw c d hf σ (.val (.builtin "len")) [.ref l] [] Φ :=
  cw1 fun A s x Q E ok rm g va k => by
    cases va
    obtain ⟨xs, n, e, r⟩ := list_at il g
    have len := r.size
    refine call_len_list (items := xs) ⟨_, e, rfl, n, rfl⟩ (by omega) ?_
    exact k (.int vs.length) _ σ s.heap _ φ g .refl (by rw [len]; exact .int _ _)
theorem cw_len_str {y : Str} {Φ : AV → Store → Prop} (hz : y.length ≤ 1000) (φ : Φ (.int y.length) σ) : Cw c d hf σ (.val (.builtin "len")) [.str y] [] Φ :=
  cw1 fun A s x Q E ok rm g va k => by
    cases va
    exact call_len_gives (typeIs_str ..) PySem.F.slot_str_len PySem.F.entry_str_len (PySem.F.args_str_len_1 _) (gives_str_len y _) (by omega) (by omega) (k (.int y.length) _ σ s.heap _ φ g .refl (.int _ _))
theorem cw_isi_str {y : Str} {Φ : AV → Store → Prop} (φ : Φ (.bool true) σ) : Cw c d hf σ (.val (.builtin "isinstance")) [.str y, .val (.type "str")] [] Φ :=
  cw2 fun A s x z Q E ok rm g va vb k => by
    cases va; cases vb
    exact IsiPair.str_str (k _ _ σ s.heap s.toks φ g .refl (.bool true))
theorem cw_list {l : Addr} {vs : List AV} {Φ : AV → Store → Prop} (il : ListIs c σ l vs) (hz : vs.length ≤ 1000) (φ : ∀ a, σ a = none → Φ (.ref a) (σ.set a (.list vs))) : Cw c d hf σ (.val (.type "list")) [.ref l] [] Φ :=
  cw1 fun A s x Q E ok rm g va k => by
    cases va
    obtain ⟨xs, n, e, r⟩ := list_at il g
    refine call_list_seq l (.inl rfl) e rfl rfl (fun h' c' kp e' => ?_) (by rw [sizeLine_eq]; have := r.size; omega)
    have G' := g.ext kp
    have tk : TK s.heap h' := fun a ys e => kp _ _ e
    exact k _ _ _ h' s.toks (φ _ g.size_off) (G'.enter e' (.list (r.mono tk)) g.base_size g.size_low (g.notFrame (size_none _))) (Step.enter kp (size_none _)) (.ref _)
theorem cw_list_tup {vs : List AV} {Φ : AV → Store → Prop} (hz : vs.length ≤ 1000) (φ : ∀ a, σ a = none → Φ (.ref a) (σ.set a (.list vs))) : Cw c d hf σ (.val (.type "list")) [.tup vs] [] Φ :=
  cw1 fun A s x Q E ok rm g va k => by
    cases va with
    | tup e r =>
      refine call_list_seq _ (.inr rfl) e rfl rfl (fun h' c' kp e' => ?_) (by rw [sizeLine_eq]; have := r.size; omega)
      have G' := g.ext kp
      have tk : TK s.heap h' := fun a ys e => kp _ _ e
      exact k _ _ _ h' s.toks (φ _ g.size_off) (G'.enter e' (.list (r.mono tk)) g.base_size g.size_low (g.notFrame (size_none _))) (Step.enter kp (size_none _)) (.ref _)
theorem cw_tuple {l : Addr} {vs : List AV} {Φ : AV → Store → Prop} (il : ListIs c σ l vs) (hz : vs.length ≤ 1000) (φ : Φ (.tup vs) σ) : Cw c d hf σ (.val (.type "tuple")) [.ref l] [] Φ :=
  cw1 fun A s x Q E ok rm g va k => by
    cases va
    obtain ⟨xs, n, e, r⟩ := list_at il g
    refine call_tuple_list (items := xs) ⟨_, e, rfl, n, rfl⟩ (fun h' kp => ?_) (by rw [sizeLine_eq]; have := r.size; omega)
    have kp' : ∀ b o, s.heap.get? b = some o → (h'.push (tupObj xs)).get? b = some o := fun b o e => Heap.get?_push_of_some _ (kp b o e)
    exact k (.tup vs) _ σ _ s.toks φ (g.ext kp') (.ext kp') (.tup (Heap.get?_push_size _ rfl) (r.mono fun a ys e => kp' _ _ e))

/-! ## displays of dicts -/
theorem ev_dict_nil {pos : Pos} {Φ : AV → Store → Prop} (φ : ∀ a, σ a = none → Φ (.ref a) (σ.set a (.dict []))) : Ev c f ℓ σ (.Dict [] [] pos) Φ := by
  intro A p s xs Q E ok rm H _ k
  refine wpAny_Dict_empty ?_
  have r : OR c.prog c.w (s.heap.push emptyDict) (.dict []) emptyDict := .dict (kvs := []) ⟨#[], 0, ⟨rfl, rfl, rfl⟩, rfl, fun _ he => by simp at he, Pairs.nil, List.nodup_nil⟩ .nil
  exact k _ _ _ _ s.toks (φ _ H.good.size_off) (H.alloc r) (.ofC .alloc) (.ref _)

/-! ## sums, slices -/
theorem op_add_list {l m : Addr} {vs ws : List AV} {Φ : AV → Store → Prop} (il : ListIs c σ l vs) (im : ListIs c σ m ws) (hz : vs.length + ws.length ≤ 1000) (φ : ∀ a, σ a = none → Φ (.ref a) (σ.set a (.list (vs ++ ws)))) :
    Op c f ℓ σ [.ref l, .ref m] (ap2 (binaryOp .Add)) Φ := by
  intro A p s xs Q E ok rm H va k
  cases va with
  | cons va r => cases r with
    | cons vb r =>
      cases r; cases va; cases vb
      obtain ⟨xs, n, e, r⟩ := list_at il H.good
      obtain ⟨ys, n2, e2, r2⟩ := list_at im H.good
      have l1 := r.size
      have l2 := r2.size
      refine concat_meets ⟨_, e, rfl⟩ ⟨_, e2, rfl⟩ PySem.noFill_list_add PySem.seq_list_add PySem.F.slot_list_add PySem.F.entry_list_add (PySem.F.args_list_add_2 _ _) (AutoSeq1.list___add___list_list_0 l xs n m ys n2 (by rw [sizeLine_eq]; omega)) ⟨e, e2, ?_⟩
      have rr : OR c.prog c.w (s.heap.push (listObj (xs ++ ys) 0)) (.list (vs ++ ws)) (listObj (xs ++ ys) 0) := .list (by rw [Array.toList_append]; exact (r.append r2).mono (TK.push _))
      exact k _ _ _ _ s.toks (φ _ H.good.size_off) (H.alloc rr) (.ofC .alloc) (.ref _)
theorem op_add_tup {vs ws : List AV} {Φ : AV → Store → Prop} (h1 : vs ≠ []) (h2 : ws ≠ []) (hz : vs.length + ws.length ≤ 1000) (φ : Φ (.tup (vs ++ ws)) σ) : Op c f ℓ σ [.tup vs, .tup ws] (ap2 (binaryOp .Add)) Φ := by
  intro A p s xs Q E ok rm H va k
  cases va with
  | cons va r => cases r with
    | cons vb r =>
      cases r
      cases va with
      | tup e r =>
        cases vb with
        | tup e2 r2 =>
          have l1 := r.size
          have l2 := r2.size
          rename_i a xs b ys
          have p1 := List.length_pos_iff.mpr h1
          have p2 := List.length_pos_iff.mpr h2
          refine PySem.P.add_tuple (n := 0) (n2 := 0) e e2 (by intro q; have := Array.size_eq_zero_iff.mpr (Array.isEmpty_iff.mp q); omega) (by intro q; have := Array.size_eq_zero_iff.mpr (Array.isEmpty_iff.mp q); omega) ?_ (by rw [sizeLine_eq]; omega)
          exact k _ _ σ _ s.toks φ (H.push (tupObj _)) (.ofC (.push _)) (.tup (Heap.get?_push_size _ rfl) (by rw [Array.toList_append]; exact (r.append r2).mono (TK.push _)))

inductive Part : Option Expr → Option Int → Prop
  | none : Part none none
  | int (i : Int) (k : Nat) (pos : Pos) : Part (some (.Constant (.int i) k pos)) (some i)
theorem part_run {M : Model} {A : Around} {E : Value → Shared → Prop} {s : Shared} {env : Env} {e : Option Expr} {lo : Option Int} {Q : Value → Shared → Prop} (pt : Part e lo) (k : ∀ v tk, IsPart v lo → Q v { s with toks := tk }) : wpAny M A (evalPart e env) Q E s := by
  cases pt with
  | none => rw [evalPart_none]; exact wpAny_pure (k .none s.toks .none)
  | int i n pos => rw [evalPart_some]; exact wpAny_Constant_int (k _ _ (.int i _))
noncomputable def pick (vs : List AV) (lo hi : Option Int) : List AV := (vs.drop (lo.elim 0 (clipAt vs.length))).take (hi.elim vs.length (clipAt vs.length) - lo.elim 0 (clipAt vs.length))
theorem pick_of {vs : List AV} {xs : Array Value} {lo hi : Option Int} (r : VRs h vs xs.toList) : VRs h (pick vs lo hi) (slicePick xs lo hi none).toList := by
  rw [slicePick_plain]
  unfold pick
  rw [r.size]
  exact (r.drop _).take _
theorem ev_slice_list {e : Expr} {lower upper : Option Expr} {lo hi : Option Int} {spos pos : Pos} {Φ : AV → Store → Prop} (p1 : Part lower lo) (p2 : Part upper hi)
    (q : Ev c f ℓ σ e fun v σ₁ => ∃ l vs, v = .ref l ∧ ListIs c σ₁ l vs ∧ vs.length ≤ 1000 ∧ ∀ a, σ₁ a = none → Φ (.ref a) (σ₁.set a (.list (pick vs lo hi)))) : Ev c f ℓ σ (.Subscript e (.Slice lower upper none spos) pos) Φ := by
  intro A p s xs Q E ok rm H _ k
  refine Subscript_ (q A p s [] _ E ok rm H .nil fun v v' σ₁ h₁ t₁ q₁ H₁ s₁ vv => wpAny_Slice (part_run p1 fun vl t₂ pl => part_run p2 fun vu t₃ pu => ?_))
  obtain ⟨l, vs, rfl, il, hz, φ⟩ := q₁
  cases vv
  obtain ⟨ys, n, e, r⟩ := list_at il H₁.good
  rw [evalPart_none]
  refine wpAny_pure ?_
  have hl : (h₁.push { cls := .type "slice", data := .fields #[vl, vu, .none] }).IsList l ys := ⟨_, Heap.get?_push_of_some _ e, rfl, n, rfl⟩
  refine tail_any (ops := [.ref h₁.objs.size, .ref l]) (T := "list") hl.typeIs slot_list_getitem.lookup (wpAny_getItem_list_slice hl (Heap.IsSliceOf.new ..) pl pu .none (by simp) ?_ (by rw [sizeLine_eq]; have := r.size; omega)) rfl
  have H₂ := H₁.push { cls := .type "slice", data := .fields #[vl, vu, .none] }
  have rr : OR c.prog c.w ((h₁.push { cls := .type "slice", data := .fields #[vl, vu, .none] }).push (listObj (slicePick ys lo hi none) 0)) (.list (pick vs lo hi)) (listObj (slicePick ys lo hi none) 0) := .list ((pick_of r).mono ((TK.push _).trans (TK.push _)))
  have S₂ := s₁.trans H₁ (.ofC (Step.push (σ := σ₁) { cls := .type "slice", data := .fields #[vl, vu, .none] }))
  exact k _ _ _ _ _ (φ _ H₂.good.size_off) (H₂.alloc rr) (S₂.trans H₂ (.ofC .alloc)) (.ref _)
theorem ev_slice_tup {e : Expr} {a : Nat} {n : Nat} {ipos spos pos : Pos} {Φ : AV → Store → Prop}
    (q : Ev c f ℓ σ e fun v σ₁ => ∃ vs, v = .tup vs ∧ 1 ≤ a ∧ a ≤ vs.length ∧ vs.length ≤ 1000 ∧ Φ (.tup (vs.drop a)) σ₁) : Ev c f ℓ σ (.Subscript e (.Slice (some (.Constant (.int (a : Int)) n ipos)) none none spos) pos) Φ := by
  intro A p s xs Q E ok rm H _ k
  refine Subscript_ (q A p s [] _ E ok rm H .nil fun v v' σ₁ h₁ t₁ q₁ H₁ s₁ vv => wpAny_Slice (wpAny_evalPart_some (wpAny_Constant_int ?_)))
  obtain ⟨vs, rfl, h1, h2, hz, φ⟩ := q₁
  cases vv with
  | tup e r =>
    rename_i t ys
    rw [evalPart_none]
    refine wpAny_pure (wpAny_pure ?_)
    have len := r.size
    have tk₂ : TK h₁ (h₁.push { cls := .type "slice", data := .fields #[.int (a : Int) t₁, .none, .none] }) := TK.push _
    refine tail_any (ops := [.ref h₁.objs.size, .ref t]) (T := "tuple") ⟨_, Heap.get?_push_of_some _ e, rfl⟩ slot_tuple_getitem.lookup
      (getItem_tuple_from (items := ys) ⟨_, Heap.get?_push_of_some _ e, rfl, 0, rfl⟩ (Heap.IsSliceOf.new ..) h1 (by omega) ?_ (by rw [sizeLine_eq]; omega)) rfl
    have H₂ := H₁.push { cls := .type "slice", data := .fields #[.int (a : Int) t₁, .none, .none] }
    have S₂ := s₁.trans H₁ (.ofC (Step.push (σ := σ₁) { cls := .type "slice", data := .fields #[.int (a : Int) t₁, .none, .none] }))
    exact k _ _ _ _ _ φ (H₂.push (tupObj _)) (S₂.trans H₂ (.ofC (.push _))) (.tup (Heap.get?_push_size _ rfl) (by simpa using ((r.drop a).mono tk₂).mono (TK.push _)))
end
end Mine

set_option autoImplicit false
set_option maxRecDepth 100000
namespace Mine
open PySem PySem.W PySem.Calls PyProof.Rows

section
variable {c : Cx} {f : Fn} {ℓ : Locs} {σ σ' σ'' : Store} {h h' h₀ h'' : Heap} {p : Pl} {wr : List Addr} {d : Nat} {hf : Bool}

/-! ## data -/
mutual
inductive Dt (c : Cx) (σ : Store) : AV → PyData → Prop
  | none : Dt c σ .none .none
  | bool (b) : Dt c σ (.bool b) (.bool b)
  | int (i) : Dt c σ (.int i) (.int i)
  | str (x) : Dt c σ (.str x) (.str x)
  | list {l vs ds} : ListIs c σ l vs → DtAll c σ vs ds → Dt c σ (.ref l) (.list ds)
  | tup {vs ds} : DtAll c σ vs ds → Dt c σ (.tup vs) (.tuple ds)
inductive DtAll (c : Cx) (σ : Store) : List AV → List PyData → Prop
  | nil : DtAll c σ [] []
  | cons {v vs d ds} : Dt c σ v d → DtAll c σ vs ds → DtAll c σ (v :: vs) (d :: ds)
end
mutual
theorem Dt.reads {v : AV} {d : PyData} (g : Good c σ h) : Dt c σ v d → ∀ {x : Value}, VR h v x → ∃ as, Reads h x d as
  | .none, _, r => by cases r; exact ⟨_, .none⟩
  | .bool b, _, r => by cases r; exact ⟨_, .bool b⟩
  | .int i, _, r => by cases r; exact ⟨_, .int i _⟩
  | .str x, _, r => by cases r; exact ⟨_, .str x _⟩
  | .list il ds, _, r => by
    cases r
    obtain ⟨xs, n, e, rr⟩ := list_at il g
    obtain ⟨as, q⟩ := DtAll.reads g ds rr
    exact ⟨_, .list e rfl rfl q⟩
  | .tup ds, _, r => by
    cases r with
    | tup e rr =>
      obtain ⟨as, q⟩ := DtAll.reads g ds rr
      exact ⟨_, .tuple e rfl rfl q⟩
theorem DtAll.reads {vs : List AV} {ds : List PyData} (g : Good c σ h) : DtAll c σ vs ds → ∀ {xs : List Value}, VRs h vs xs → ∃ as, ReadsAll h xs ds as
  | .nil, _, r => by cases r; exact ⟨_, .nil⟩
  | .cons a b, _, r => by
    cases r with
    | cons u w =>
      obtain ⟨_, q1⟩ := a.reads g u
      obtain ⟨_, q2⟩ := b.reads g w
      exact ⟨_, .cons q1 q2⟩
end
theorem op_eq_data {a b : AV} {da db : PyData} {Φ : AV → Store → Prop} (ha : Dt c σ a da) (hb : Dt c σ b db) (sa : SeqAt.shaped da = true) (sb : SeqAt.shaped db = true) (φ : Φ (.bool (PyData.eqv da db)) σ) : Op c f ℓ σ [a, b] (ap2 (compareOp .Eq)) Φ :=
  op2_of (fun A s x y Q E ok rm g va vb k => by
    obtain ⟨_, ra⟩ := ha.reads g va
    obtain ⟨_, rb⟩ := hb.reads g vb
    exact eq_dataH ra rb sa sb (by have := rm.units; show A.units + 64 < 9900; omega) (k _ s.toks (.bool _))) φ
theorem op_ne_data {a b : AV} {da db : PyData} {Φ : AV → Store → Prop} (ha : Dt c σ a da) (hb : Dt c σ b db) (sa : SeqAt.shaped da = true) (sb : SeqAt.shaped db = true) (φ : Φ (.bool (!PyData.eqv da db)) σ) : Op c f ℓ σ [a, b] (ap2 (compareOp .NotEq)) Φ :=
  op2_of (fun A s x y Q E ok rm g va vb k => by
    obtain ⟨_, ra⟩ := ha.reads g va
    obtain ⟨_, rb⟩ := hb.reads g vb
    exact ne_dataH ra rb sa sb (by have := rm.units; show A.units + 64 < 9900; omega) (k _ s.toks (.bool _))) φ

/-! ## lists of strs -/
noncomputable abbrev strsA (ss : List Str) : List AV := ss.map .str
theorem dt_strs : ∀ (ss : List Str), DtAll c σ (strsA ss) (ss.map PyData.str)
  | [] => .nil
  | x :: r => .cons (.str x) (dt_strs r)
theorem eqv_strs : ∀ ss ts : List Str, PyData.eqvAll (ss.map .str) (ts.map .str) = decide (ss = ts)
  | [], [] => by simp [PyData.eqvAll]
  | [], _ :: _ => by simp [PyData.eqvAll]
  | _ :: _, [] => by simp [PyData.eqvAll]
  | a :: r, b :: t => by
    simp only [List.map_cons, PyData.eqvAll, PyData.eqv, eqv_strs r t]
    by_cases h : a = b <;> by_cases h' : r = t <;> simp [h, h']
theorem canLay_strs : ∀ {ss : List Str}, (∀ x ∈ ss, PyData.strOk x = true) → PyData.canLayAll0 (ss.map .str) = true
  | [], _ => by simp [PyData.canLayAll0]
  | a :: r, h => by
    simp only [List.map_cons, PyData.canLayAll0, PyData.canLay0, Bool.and_eq_true]
    exact ⟨h a List.mem_cons_self, canLay_strs fun x hx => h x (List.mem_cons_of_mem _ hx)⟩
theorem depth_strs : ∀ ss : List Str, PyData.depthAll (ss.map .str) = 0
  | [] => by simp [PyData.depthAll]
  | a :: r => by simp [PyData.depthAll, PyData.depth, depth_strs r]
theorem shaped_strs {ss : List Str} (h : ∀ x ∈ ss, PyData.strOk x = true) : SeqAt.shaped (.list (ss.map .str)) = true := by
  unfold SeqAt.shaped
  rw [Bool.and_eq_true]
  refine ⟨by simp only [PyData.canLay0]; exact canLay_strs h, decide_eq_true ?_⟩
  simp only [PyData.depth, depth_strs]; omega
theorem op_eq_strs {l m : Addr} {ss ts : List Str} {Φ : AV → Store → Prop} (il : ListIs c σ l (strsA ss)) (im : ListIs c σ m (strsA ts)) (hs : ∀ x ∈ ss, PyData.strOk x = true) (ht : ∀ x ∈ ts, PyData.strOk x = true) (φ : Φ (.bool (decide (ss = ts))) σ) :
    Op c f ℓ σ [.ref l, .ref m] (ap2 (compareOp .Eq)) Φ :=
  op_eq_data (.list il (dt_strs ss)) (.list im (dt_strs ts)) (shaped_strs hs) (shaped_strs ht) (by simp only [PyData.eqv]; rw [eqv_strs]; exact φ)
theorem op_ne_strs {l m : Addr} {ss ts : List Str} {Φ : AV → Store → Prop} (il : ListIs c σ l (strsA ss)) (im : ListIs c σ m (strsA ts)) (hs : ∀ x ∈ ss, PyData.strOk x = true) (ht : ∀ x ∈ ts, PyData.strOk x = true) (φ : Φ (.bool (!decide (ss = ts))) σ) :
    Op c f ℓ σ [.ref l, .ref m] (ap2 (compareOp .NotEq)) Φ :=
  op_ne_data (.list il (dt_strs ss)) (.list im (dt_strs ts)) (shaped_strs hs) (shaped_strs ht) (by simp only [PyData.eqv]; rw [eqv_strs]; exact φ)
theorem strsAre_of : ∀ {ss : List Str} {xs : List Value}, VRs h (strsA ss) xs → StrsAre xs ss
  | [], _, r => by cases r; exact .nil
  | a :: t, _, r => by
    cases r with
    | cons u w => cases u; exact .cons _ _ (strsAre_of w)
theorem op_in_list {l : Addr} {ss : List Str} {k : Str} {Φ : AV → Store → Prop} (il : ListIs c σ l (strsA ss)) (φ : Φ (.bool (ss.any (· == k))) σ) : Op c f ℓ σ [.str k, .ref l] (ap2 (compareOp .In)) Φ :=
  op2_of (fun A s x y Q E ok rm g va vb kk => by
    cases va; cases vb
    obtain ⟨xs, n, e, r⟩ := list_at il g
    exact in_list_strs (vs := xs.toList) ⟨_, e, rfl, n, rfl⟩ (strsAre_of r) (kk _ s.toks (.bool _))) φ
theorem op_notin_list {l : Addr} {ss : List Str} {k : Str} {Φ : AV → Store → Prop} (il : ListIs c σ l (strsA ss)) (φ : Φ (.bool (!ss.any (· == k))) σ) : Op c f ℓ σ [.str k, .ref l] (ap2 (compareOp .NotIn)) Φ :=
  op2_of (fun A s x y Q E ok rm g va vb kk => by
    cases va; cases vb
    obtain ⟨xs, n, e, r⟩ := list_at il g
    exact notin_list_strs (vs := xs.toList) ⟨_, e, rfl, n, rfl⟩ (strsAre_of r) (kk _ s.toks (.bool _))) φ
theorem op_in_str {x k : Str} {b : Bool} {Φ : AV → Store → Prop} (hb : (!(Builtin.Str.occurrences x k 0 x.length 1).isEmpty) = b) (φ : Φ (.bool b) σ) : Op c f ℓ σ [.str k, .str x] (ap2 (compareOp .In)) Φ :=
  op2_of (fun A s y z Q E ok rm g va vb kk => by
    cases va; cases vb
    exact P.in_str (by rw [hb]; exact kk _ s.toks (.bool _))) φ
theorem op_neg {i : Int} {Φ : AV → Store → Prop} (φ : Φ (.int (-i)) σ) : Op c f ℓ σ [.int i] (ap1 (unaryOp .USub)) Φ :=
  op1_of (fun A s x Q E ok rm g va k => by cases va; exact neg_int (k _ _ (.int _ _))) φ
end
end Mine

set_option autoImplicit false
set_option maxRecDepth 100000
namespace Mine
open PySem PySem.W PySem.Calls PyProof.Rows

/-! ## sets of strs -/
noncomputable def addS (σ : List Str) (v : Str) : List Str := if v ∈ σ then σ else σ ++ [v]
noncomputable def dd (ys : List Str) : List Str := ys.foldl addS []
theorem addS_mem (σ : List Str) (v k : Str) : k ∈ addS σ v ↔ k ∈ σ ∨ k = v := by
  unfold addS; split
  · constructor
    · exact .inl
    · rintro (h | rfl) <;> assumption
  · simp
theorem addS_nodup {σ : List Str} (h : σ.Nodup) (v : Str) : (addS σ v).Nodup := by
  unfold addS; split
  · exact h
  · rename_i n
    rw [List.nodup_append]
    refine ⟨h, by simp, ?_⟩
    intro a ha b hb
    simp only [List.mem_singleton] at hb
    subst hb
    exact fun e => n (e ▸ ha)
theorem dd_succ (ys : List Str) (i : Nat) (v : Str) (h : ys[i]? = some v) : dd (ys.take (i + 1)) = addS (dd (ys.take i)) v := by
  unfold dd; rw [List.take_add_one, h, List.foldl_append]; rfl
theorem foldl_mem (k : Str) : ∀ (ys σ : List Str), k ∈ ys.foldl addS σ ↔ k ∈ σ ∨ k ∈ ys
  | [], σ => by simp
  | y :: r, σ => by
    rw [List.foldl_cons, foldl_mem k r, addS_mem]
    simp only [List.mem_cons]
    constructor
    · rintro ((h | h) | h)
      · exact .inl h
      · exact .inr (.inl h)
      · exact .inr (.inr h)
    · rintro (h | h | h)
      · exact .inl (.inl h)
      · exact .inl (.inr h)
      · exact .inr h
theorem dd_mem (ys : List Str) (k : Str) : k ∈ dd ys ↔ k ∈ ys := by unfold dd; rw [foldl_mem]; simp
theorem foldl_nodup : ∀ (ys σ : List Str), σ.Nodup → (ys.foldl addS σ).Nodup
  | [], _, h => h
  | y :: r, σ, h => by rw [List.foldl_cons]; exact foldl_nodup r _ (addS_nodup h y)
theorem dd_nodup (ys : List Str) : (dd ys).Nodup := foldl_nodup ys [] List.nodup_nil
theorem addS_len (σ : List Str) (v : Str) : (addS σ v).length = if v ∈ σ then σ.length else σ.length + 1 := by unfold addS; split <;> simp
theorem dd_len (ys : List Str) : (dd ys).length ≤ ys.length := by
  have : ∀ (ys σ : List Str), (ys.foldl addS σ).length ≤ σ.length + ys.length := by
    intro ys
    induction ys with
    | nil => intro σ; simp
    | cons y r ih => intro σ; rw [List.foldl_cons]; have := ih (addS σ y); rw [addS_len] at this; rw [List.length_cons]; split at this <;> omega
  unfold dd; simpa using this ys []

theorem str_at : ∀ {vs : List Value} {ys : List Str}, StrsAre vs ys → ∀ (i : Nat) (v : Value), vs[i]? = some v → ∃ y t, v = .str y t ∧ ys[i]? = some y
  | _, _, .nil, i, v, h => by simp at h
  | _, _, .cons y t hr, 0, v, h => by simp at h; exact ⟨y, t, h.symm, rfl⟩
  | _, _, .cons y t hr, i + 1, v, h => by
    simp only [List.getElem?_cons_succ] at h
    obtain ⟨y', t', e, q⟩ := str_at hr i v h
    exact ⟨y', t', e, by simpa using q⟩
section
variable {prog : Program} {w : World} {A : Around} {E : Value → Shared → Prop} {s : Shared}

theorem setOf_congr {h : Heap} {a : Addr} {S S' : Str → Bool} {n n' : Nat} (hS : h.SetOf (PySem.strKind prog w) a S n) (e : ∀ k, S k = S' k) (en : n = n') : h.SetOf (PySem.strKind prog w) a S' n' := by
  have : S = S' := funext e
  subst this; subst en; exact hS

theorem setOf_at {h h' : Heap} {a : Addr} {S : Str → Bool} {n : Nat} (hS : h.SetOf (PySem.strKind prog w) a S n) (k : ∀ o, h.get? a = some o → h'.get? a = some o) : h'.SetOf (PySem.strKind prog w) a S n :=
  let ⟨o, es, ep, t, ho, r⟩ := hS; ⟨o, es, ep, t, k o ho, r⟩

theorem set_loop {R : Result → Shared → Prop} {I : Addr} {fp wr : List Addr} {ys : List Str} {P : Nat → Value → Prop} {St : Nat → Heap → Prop} (W : Walks prog w A.in1 I fp wr ys.length P St) (S : Addr) (hSf : S ∉ fp)
    (hval : ∀ i v, P i v → ∃ y t, v = .str y t ∧ ys[i]? = some y) (hb : ys.length + 1 < scanBound) :
    ∀ (k i : Nat) (s : Shared), ys.length - i = k → i ≤ ys.length → St i s.heap →
      s.heap.SetOf (PySem.strKind prog w) S (fun x => decide (x ∈ dd (ys.take i))) (dd (ys.take i)).length →
      (∀ h' tk, (∀ b o, b ≠ S → b ∉ wr → s.heap.get? b = some o → h'.get? b = some o) → h'.SetOf (PySem.strKind prog w) S (fun x => decide (x ∈ dd ys)) (dd ys).length → R (.ok (.ret .none)) { s with heap := h', toks := tk }) →
      codeAny (model prog w) A (.builtin "set.update.loop" ⟨[.ref S, .ref I], []⟩) R s := by
  have hSw : S ∉ wr := fun h => hSf (W.sub _ h)
  intro k
  induction k with
  | zero =>
    intro i s hk hi hst hS hR
    have hin : i = ys.length := by omega
    subst hin
    refine codeAny_builtin F.entry_set_update_loop ?_
    rw [Around.under_plainId F.plain_set_update_loop _]
    show wpAny _ A.in1 (pyNext (.ref I) >>= _) _ _ s
    refine wpAny_bind (W.done s _ _ hst fun h' tk kp => ?_)
    show wpAny _ A.in1 (ret Value.none) _ _ _
    rw [List.take_length] at hS
    exact wpAny_pure (hR h' tk (fun b o _ nb e => kp b o nb e) (setOf_at hS fun o e => kp S o hSw e))
  | succ k ih =>
    intro i s hk hi hst hS hR
    have hlt : i < ys.length := by omega
    refine codeAny_builtin F.entry_set_update_loop ?_
    rw [Around.under_plainId F.plain_set_update_loop _]
    show wpAny _ A.in1 (pyNext (.ref I) >>= _) _ _ s
    refine wpAny_bind (W.item i s _ _ hlt hst fun v h₁ tk₁ hP hst₁ kp₁ => ?_)
    obtain ⟨y, t, rfl, hy⟩ := hval i v hP
    have hS₁ := setOf_at (h' := h₁) hS fun o e => kp₁ S o hSw e
    show wpAny _ A.in1 (holding [Value.str y t] (setAdd S (.str y t)) >>= _) _ _ _
    refine wpAny_bind (wpAny_holding ?_)
    unfold setAdd
    refine wpAny_holding ?_
    refine wpAny_bind ((PySem.strKind prog w).pyHash (k := y) (strKind_is prog w y t) ?_)
    have hroom : (dd (ys.take i)).length + 1 < scanBound := by have := dd_len (ys.take i); rw [List.length_take] at this; omega
    refine wpAny_setAddHashed_of (knd := PySem.strKind prog w) (k := y) (strKind_is prog w y t) rfl hS₁ hroom fun h₂ hsb hS₂ => ?_
    have hSi : h₂.SetOf (PySem.strKind prog w) S (fun x => decide (x ∈ dd (ys.take (i + 1)))) (dd (ys.take (i + 1))).length := by
      refine setOf_congr hS₂ (fun x => ?_) ?_
      · rw [dd_succ ys i y hy, Bool.eq_iff_iff]
        simp only [Bool.or_eq_true, decide_eq_true_eq, addS_mem]
      · rw [dd_succ ys i y hy, addS_len]
        by_cases q : y ∈ dd (ys.take i) <;> simp [q]
    refine wpAny_pure ⟨plainId_quiet F.plain_set_update_loop _, ih (i + 1) _ (by omega) hlt (W.frame _ _ _ hst₁ fun b hb o e => ?_) hSi fun h' tk kp hS' => ?_⟩
    · rw [hsb.2 b (fun h : b = S => hSf (by rw [← h]; exact hb))]; exact e
    · refine hR h' tk (fun b o nb nw e => kp b o nb nw ?_) hS'
      exact (hsb.2 b nb).trans (kp₁ b o nw e)

theorem sub_tuple_set' : isSubtype (.type "tuple") (.type "set") = pure false := by rw [isSubtype_type]; kernel_rfl
theorem sub_tuple_frozenset' : isSubtype (.type "tuple") (.type "frozenset") = pure false := by rw [isSubtype_type]; kernel_rfl

set_option maxHeartbeats 3200000 in
theorem call_set_strs {l : Addr} {T : String} {items : Array Value} {n : Nat} {ys : List Str} {Q : Value → Shared → Prop} (hT : T = "list" ∨ T = "tuple")
    (hh : A.handled = none) (hl : s.heap.get? l = some { cls := .type T, data := .seq items n }) (hi : StrsAre items.toList ys) (hb : ys.length + 1 < scanBound)
    (h : ∀ (h' : Heap) (tk : Nat), h'.SetOf (PySem.strKind prog w) s.heap.objs.size (fun k => decide (k ∈ dd ys)) (dd ys).length →
      (∀ b o, b < s.heap.objs.size → s.heap.get? b = some o → h'.get? b = some o) → Q (.ref s.heap.objs.size) { s with heap := h', toks := tk }) :
    wpAny (model prog w) A (call (.type "set") [.ref l]) Q E s := by
  obtain ⟨c, tl, hmro⟩ := PySem.F.called_set.mro
  have hmade := PySem.F.called_set.made
  have hsub := PySem.F.called_set.sub
  refine wpAny_call (codeAny_of_tree ?_)
  show wpAny _ _ (callAny (.type "set") _) _ _ _
  refine wpAny_pure ⟨Code.quiet_builtin _ (by decide +kernel), codeAny_builtin PySem.F.entry_type_call ?_⟩
  rw [Around.under_plain (weight_type_call_type "set" [.ref l] []) rfl]
  have h1 := PySem.F.called_set.notType
  have h2 := PySem.F.called_set.canCreate
  have hct := PySem.F.typeCall_set_1 (.ref l)
  repeat (any_goals (first | assumption | wp_step))
  refine codeAny_mono (code_set_new_1 (.ref l) (E := E) (Q₁ := fun obj s₁ => ∃ led : Bool, obj = .ref s.heap.objs.size ∧ s₁ = { s with heap := s.heap.push { cls := .type "set", dict := none, data := .set #[] 0 (.fresh 0 0 led) } }) fun led => ⟨led, rfl, rfl⟩) fun r s₁ hr => ?_
  cases r with
  | error e => exact hr
  | ok fl =>
    cases fl with
    | ret obj =>
      obtain ⟨led, rfl, rfl⟩ := hr
      generalize hSO : ({ cls := .type "set", dict := none, data := .set #[] 0 (.fresh 0 0 led) } : Obj) = SO
      have hS : (s.heap.push SO).get? s.heap.objs.size = some SO := Heap.get?_push_size _ (by subst hSO; rfl)
      have hTS : Shared.TypeIs { s with heap := s.heap.push SO } (.ref s.heap.objs.size) "set" := ⟨_, hS, by subst hSO; rfl⟩
      have hli := PySem.F.called_set.init.lookup
      have hbi := PySem.F.called_set.init.bind (.ref s.heap.objs.size)
      repeat (any_goals (first | assumption | wp_step))
      refine codeAny_mono (codeAny_call_builtin (R := wants (fun r s₂ => r = .none ∧ ∃ h' tk, s₂ = { s with heap := h', toks := tk } ∧
          h'.SetOf (PySem.strKind prog w) s.heap.objs.size (fun k => decide (k ∈ dd ys)) (dd ys).length ∧
          (∀ b o, b < s.heap.objs.size → s.heap.get? b = some o → h'.get? b = some o)) E) PySem.F.called_set.init.plain PySem.F.entry_set_init (check_set_init_1 hTS ?_)) fun r₂ s₂ hr₂ => ?_
      · have hlt : l < s.heap.objs.size := Heap.lt_size hl
        have hl' : (s.heap.push SO).get? l = some { cls := .type T, data := .seq items n } := Heap.get?_push_of_some _ hl
        have hT' : Shared.TypeIs { s with heap := s.heap.push SO } (.ref l) T := ⟨_, hl', rfl⟩
        have hsls : isSubtype (.type T) (.type "set") = pure false := by rcases hT with rfl | rfl; exact PySem.F.sub_list_set; exact sub_tuple_set'
        have hslf : isSubtype (.type T) (.type "frozenset") = pure false := by rcases hT with rfl | rfl; exact PySem.F.sub_list_frozenset; exact sub_tuple_frozenset'
        have hne : (Value.type T == Value.type "dict") = false := by rcases hT with rfl | rfl <;> decide
        have hh3 : A.in1.in1.in1.handled = none := by simp [hh]
        have sz1 : (s.heap.push SO).objs.size = s.heap.objs.size + 1 := Heap.size_push _ _
        have hneI : l ≠ (s.heap.push SO).objs.size := by rw [sz1]; exact Nat.ne_of_lt (Nat.lt_succ_of_lt hlt)
        have hSf : s.heap.objs.size ∉ [(s.heap.push SO).objs.size, l] := by
          rw [sz1]; simp only [List.mem_cons, List.not_mem_nil, or_false, not_or]
          exact ⟨Nat.ne_of_lt (Nat.lt_succ_self _), Nat.ne_of_gt hlt⟩
        have hys : items.size = ys.length := by rw [← Array.length_toList]; exact hi.length
        have hval : ∀ (i : Nat) (v : Value), items[i]? = some v → ∃ y t, v = .str y t ∧ ys[i]? = some y := fun i v hv => str_at hi i v (by rw [Array.getElem?_toList]; exact hv)
        have hS0 : ∀ IO, ((s.heap.push SO).push IO).SetOf (PySem.strKind prog w) s.heap.objs.size (fun x => decide (x ∈ dd (ys.take 0))) (dd (ys.take 0)).length := fun IO => by
          have hget : ((s.heap.push SO).push IO).get? s.heap.objs.size = some { cls := .type "set", dict := none, data := .set #[] 0 (.fresh 0 0 led) } := (Heap.get?_push_of_some _ hS).trans (congrArg some hSO.symm)
          exact setOf_congr ((PyProof.Rows.setObjOf_fresh (knd := PySem.strKind prog w) led).setOf hget (by unfold scanBound; omega)) (fun _ => by simp [dd]) (by simp [dd])
        have hR : ∀ (IO : Obj) (h' : Heap) (tk : Nat), (∀ b o, b ≠ s.heap.objs.size → b ∉ [(s.heap.push SO).objs.size] → ((s.heap.push SO).push IO).get? b = some o → h'.get? b = some o) → 
            ∀ b o, b < s.heap.objs.size → s.heap.get? b = some o → h'.get? b = some o := fun IO h' tk kp b o hb e => by
          refine kp b o (Nat.ne_of_lt hb) ?_ (Heap.get?_push_of_some _ (Heap.get?_push_of_some _ e))
          rw [List.mem_singleton, sz1]; exact Nat.ne_of_lt (Nat.lt_succ_of_lt hb)
        have hILp : T = "list" → (s.heap.push SO).IsList l items := fun e => by subst e; exact ⟨_, hl', rfl, n, rfl⟩
        have hITp : T = "tuple" → (s.heap.push SO).IsTuple l items := fun e => by subst e; exact ⟨_, hl', rfl, n, rfl⟩
        subst hSO
        unfold Builtin.«set.__init__» noKeywords Builtin.Frozenset.updateFrom
        generalize hPI : pyIter = PI
        wp_walk
        subst hPI
        rcases hT with rfl | rfl
        · have hIL := hILp rfl
          refine wpAny_pyIter_list hIL ?_
          refine wpAny_bind (wpAny_runValue ?_)
          have W := Walks.list (prog := prog) (w := w) hh3 _ l hneI items
          rw [hys] at W
          refine set_loop W s.heap.objs.size hSf hval hb (ys.length - 0) 0 _ rfl (Nat.zero_le _) ⟨⟨_, Heap.get?_push_size _ rfl, rfl, rfl⟩, hIL.push _⟩ (hS0 _) fun h' tk kp hS' => ?_
          show wpAny _ _ _ _ _ _
          refine wpAny_pure ?_
          show wpAny _ _ (ret Value.none) _ _ _
          exact wpAny_pure ⟨rfl, h', tk, rfl, hS', hR _ h' tk kp⟩
        · have hIL := hITp rfl
          refine wpAny_pyIter_tuple hIL ?_
          refine wpAny_bind (wpAny_runValue ?_)
          have W := Walks.tuple (prog := prog) (w := w) hh3 _ l hneI items
          rw [hys] at W
          refine set_loop W s.heap.objs.size hSf hval hb (ys.length - 0) 0 _ rfl (Nat.zero_le _) ⟨⟨_, Heap.get?_push_size _ rfl, rfl, rfl⟩, hIL.push _⟩ (hS0 _) fun h' tk kp hS' => ?_
          show wpAny _ _ _ _ _ _
          refine wpAny_pure ?_
          show wpAny _ _ (ret Value.none) _ _ _
          exact wpAny_pure ⟨rfl, h', tk, rfl, hS', hR _ h' tk kp⟩
      · cases r₂ with
        | error e => exact hr₂
        | ok fl₂ =>
          cases fl₂ with
          | ret r =>
            obtain ⟨rfl, h', tk, rfl, hS', hk'⟩ := hr₂
            repeat (any_goals (first | assumption | wp_step))
            exact h _ _ hS' hk'
          | _ => exact hr₂.elim
    | _ => exact hr.elim
end
end Mine

set_option autoImplicit false
set_option maxRecDepth 100000
namespace Mine
open PySem PySem.W PySem.Calls PyProof.Rows
section
variable {prog : Program} {w : World} {A : Around} {E : Value → Shared → Prop} {s : Shared}

theorem entry_set_ne' : entryFor table "set.__ne__" = some Builtin.«frozenset.__ne__» :=
  entryFor_alias (id' := "frozenset.__ne__") (by kernel_rfl) rfl (by decide +kernel) (by kernel_rfl)

theorem forIn_const {α β : Type} (f : α → β → Sem (ForInStep β)) (b : β) : ∀ (l : List α), (∀ x ∈ l, f x b = pure (.yield b)) → (forIn l b f : Sem β) = pure b
  | [], _ => rfl
  | x :: r, h => by
    rw [List.forIn_cons, h x List.mem_cons_self]
    exact forIn_const f b r fun y hy => h y (List.mem_cons_of_mem _ hy)

theorem elem_str {es : List (Int × Value)} (hel : ElemsOf (PySem.strKind prog w) es) {e : Int × Value} (he : e ∈ es) : ∃ k t, e.2 = .str k t ∧ e.1 = (PySem.strKind prog w).hash k := by
  obtain ⟨⟨k, hk, hh⟩, _⟩ := hel e he
  obtain ⟨t, ht⟩ := Value.isStrOf_shape hk
  exact ⟨k, t, ht, hh⟩

theorem walk_strs {a b : Addr} {S' : Str → Bool} {m : Nat} {oa : Obj} {es : Array (Int × Value)} {ep : Nat} {t : SetTable} {Q : List (Int × Value) → Shared → Prop} (ha : s.heap.get? a = some oa) (hd : oa.data = .set es ep t) (hf : t.fits es.size = true)
    (hel : ElemsOf (PySem.strKind prog w) es.toList) (hb : s.heap.SetOf (PySem.strKind prog w) b S' m) (h : Q es.toList s) : wpAny (model prog w) A (Builtin.Frozenset.walkUnseen a b) Q E s := by
  obtain ⟨ob, es', ep', t', hob, _, hdb, helb, _, _, hfb, _⟩ := hb
  unfold Builtin.Frozenset.walkUnseen
  refine wpAny_bind (wpAny_setEntries_of ha hd hf ?_)
  refine wpAny_bind (wpAny_setEntries_of hob hdb hfb ?_)
  refine wpAny_bind (wpAny_of_eq (forIn_const _ _ _ fun x hx => ?_) (wpAny_pure h))
  have : ∃ k t, x.2 = .str k t := by
    rcases List.mem_append.mp hx with hx | hx
    · obtain ⟨k, t, e, _⟩ := elem_str hel hx; exact ⟨k, t, e⟩
    · obtain ⟨k, t, e, _⟩ := elem_str helb hx; exact ⟨k, t, e⟩
  obtain ⟨k, t, e⟩ := this
  obtain ⟨x1, x2⟩ := x
  dsimp only at e
  subst e
  rfl
theorem sub_strs {a b : Addr} {S S' : Str → Bool} {n m : Nat} {Q : Bool → Shared → Prop} (id : String) (ha : s.heap.SetOf (PySem.strKind prog w) a S n) (hb : s.heap.SetOf (PySem.strKind prog w) b S' m) (hnm : n = m)
    (h : ∀ r, (r = true ↔ ∀ k, S k = true → S' k = true) → Q r s) : wpAny (model prog w) A (Builtin.Frozenset.subsetOf id a b) Q E s := by
  have hb' := hb
  obtain ⟨oa, es, ep, t, hoa, _, hda, hela, hmem, _, hfa, hn⟩ := ha
  obtain ⟨ob, es', ep', t', hob, _, hdb, helb, hmemb, _, hfb, hm⟩ := hb
  unfold Builtin.Frozenset.subsetOf Builtin.Frozenset.sizeOf
  refine wpAny_bind (wpAny_bind (wpAny_setEntries_of hoa hda hfa (wpAny_pure ?_)))
  refine wpAny_bind (wpAny_bind (wpAny_setEntries_of hob hdb hfb (wpAny_pure ?_)))
  rw [if_neg (by omega)]
  refine wpAny_bind (wpAny_setEpoch_of hoa hda hfa ?_)
  refine wpAny_bind (walk_strs hoa hda hfa hela hb' ?_)
  have loop : ∀ (l : List (Int × Value)), (∀ e ∈ l, e ∈ es.toList) → ∀ (Q' : Option Bool × Unit → Shared → Prop),
      ((∀ e ∈ l, ∀ k t, e.2 = .str k t → S' k = true) → Q' (none, ()) s) → ((∃ e ∈ l, ∃ k t, e.2 = .str k t ∧ S' k = false) → Q' (some false, ()) s) →
      wpAny (model prog w) A (forIn l ((none : Option Bool), ()) fun x _ => match x with
            | (h, x) => do
              let r ← holding [x] (setFind b x h)
              if r.isNone = true then pure (ForInStep.done (some false, ()))
                else do
                  Builtin.Frozenset.unchanged id a ep
                  pure (ForInStep.yield ((none : Option Bool), ()))) Q' E s := by
    intro l
    induction l with
    | nil => intro _ Q' h1 _; exact wpAny_pure (h1 fun e he => by cases he)
    | cons e r ih =>
      intro hl Q' h1 h2
      obtain ⟨k, t, e2, e1⟩ := elem_str hela (hl e List.mem_cons_self)
      obtain ⟨x1, x2⟩ := e
      dsimp only at e1 e2
      subst e1 e2
      rw [List.forIn_cons]
      refine wpAny_bind ?_
      refine wpAny_bind (wpAny_holding (wpAny_setFind_of (knd := PySem.strKind prog w) (k := k) (strKind_is prog w k t) rfl hb' fun r' hr' => ?_))
      cases hS : S' k with
      | false =>
        rw [hS] at hr'
        have : r'.isNone = true := by cases r' <;> simp_all
        rw [if_pos this]
        exact wpAny_pure (wpAny_pure (h2 ⟨_, List.mem_cons_self, k, t, rfl, hS⟩))
      | true =>
        rw [hS] at hr'
        have : ¬ r'.isNone = true := by cases r' <;> simp_all
        rw [if_neg this]
        unfold Builtin.Frozenset.unchanged
        refine wpAny_bind (wpAny_bind (wpAny_setEpoch_of hoa hda hfa ?_))
        rw [if_neg (by simp)]
        refine wpAny_pure (wpAny_pure ?_)
        refine ih (fun e he => hl e (List.mem_cons_of_mem _ he)) Q' (fun hall => h1 fun e he k' t' q => ?_) fun ⟨e, he, q⟩ => h2 ⟨e, List.mem_cons_of_mem _ he, q⟩
        rcases List.mem_cons.mp he with rfl | he
        · cases q; exact hS
        · exact hall e he k' t' q
  refine wpAny_bind (loop es.toList (fun _ h => h) _ (fun hall => ?_) fun ⟨e, he, k, t, e2, hS⟩ => ?_)
  · refine wpAny_pure (h true ⟨fun _ k hk => ?_, fun _ => rfl⟩)
    obtain ⟨e, he, hi⟩ := (hmem k).mp hk
    obtain ⟨t, ht⟩ := Value.isStrOf_shape hi
    exact hall e he k t ht
  · refine wpAny_pure (h false ⟨(fun h => by cases h), fun hh => ?_⟩)
    have := hh k ((hmem k).mpr ⟨e, he, by rw [e2]; exact strKind_is prog w k t⟩)
    rw [hS] at this; cases this
theorem ne_sets {a b : Addr} {S S' : Str → Bool} {n m : Nat} {Q : Value → Shared → Prop} (ha : s.heap.SetOf (PySem.strKind prog w) a S n) (hb : s.heap.SetOf (PySem.strKind prog w) b S' m) (hu : A.units < cLine)
    (h : ∀ r, (r = true ↔ n = m ∧ ∀ k, S k = true → S' k = true) → Q (.bool (!r)) s) : wpAny (model prog w) A (compareOp .NotEq (.ref a) (.ref b)) Q E s := by
  refine wpAny_richCompare_same_room (op := .NotEq) ha.typeIs hb.typeIs PySem.F.slot_set_ne (wpAny_call_entry PySem.F.slot_set_ne ha.typeIs entry_set_ne' ?_ (PySem.F.args_set_ne_2 _ _)) hu
  unfold Builtin.«frozenset.__ne__»
  show wpAny _ _ (Builtin.Frozenset.slot1 "__ne__" ⟨[.ref a, .ref b], []⟩ >>= _) _ _ s
  refine wpAny_bind (m := Builtin.Frozenset.slot1 "__ne__" _) ?_
  unfold Builtin.Frozenset.slot1 slotArgs
  refine wpAny_bind (m := _ ) ?_
  show wpAny _ _ (pure (Value.ref a, [Value.ref b])) _ _ _
  refine wpAny_pure ?_
  show wpAny _ _ (pure (Value.ref a, Value.ref b)) _ _ _
  refine wpAny_pure ?_
  dsimp only
  have hb' := hb
  have ha' := ha
  obtain ⟨oa, es, ep, t, hoa, _, hda, hela, hmem, _, hfa, hn⟩ := ha
  obtain ⟨ob, es', ep', t', hob, _, hdb, helb, hmemb, _, hfb, hm⟩ := hb
  refine wpAny_bind ?_
  unfold Builtin.Frozenset.isAnySet
  refine wpAny_bind (wpAny_isInstance (T := "set") (b := true) hb'.typeIs PySem.F.sub_set_set ?_)
  refine wpAny_pure ?_
  simp only [Bool.not_true, Bool.false_eq_true, if_false]
  refine wpAny_bind (wpAny_pure ?_)
  refine wpAny_bind (wpAny_pure ?_)
  refine wpAny_bind (wpAny_bind (wpAny_setEntries_of hoa hda hfa (wpAny_pure ?_)))
  refine wpAny_bind (wpAny_bind (wpAny_setEntries_of hob hdb hfb (wpAny_pure ?_)))
  refine wpAny_bind ?_
  by_cases hnm : es.size = es'.size
  · rw [if_neg (by simp [hnm])]
    refine wpAny_bind ?_
    refine wpAny_bind (wpAny_isInstance (T := "set") (b := false) ha'.typeIs PySem.F.sub_set_frozenset ?_)
    refine wpAny_pure ?_
    simp only [Bool.false_eq_true, if_false]
    refine sub_strs _ ha' hb' (by omega) fun r hr => ?_
    exact wpAny_pure ⟨_, rfl, (fun x => nomatch x), h r ⟨fun e => ⟨by omega, hr.mp e⟩, fun e => hr.mpr e.2⟩⟩
  · rw [if_pos (by simp [hnm])]
    refine wpAny_pure ?_
    exact wpAny_pure ⟨_, rfl, (fun x => nomatch x), h false ⟨(fun e => by cases e), fun e => absurd (by omega) hnm⟩⟩

theorem noBool_set : typeLookup (.type "set") "__bool__" = pure none := by rw [typeLookup_type, builtinLookup_eq_fast]; kernel_rfl
theorem truthy_set {a : Addr} {S : Str → Bool} {n : Nat} {Q : Bool → Shared → Prop} (ha : s.heap.SetOf (PySem.strKind prog w) a S n) (h : Q (n != 0) { s with toks := s.toks + 1 + 1 }) : wpAny (model prog w) A (truthy (.ref a)) Q E s := by
  have hT := ha.typeIs
  obtain ⟨oa, es, ep, t, hoa, hex, hda, hela, hmem, hlt, hfa, hn⟩ := ha
  have hfit : (es.size : Int) < 2 ^ 63 := by unfold scanBound at hlt; omega
  have key : wpAny (model prog w) A (runValue (.builtin "len" ⟨[.ref a], []⟩)) (fun r s' => r = .int es.size (s.toks + 1) ∧ Q (n != 0) s') E s := by
    refine wpAny_runValue (codeAny_builtin entry_len ?_)
    rw [Around.under_plainId plain_len _]
    exact wpAny_mono (wpAny_len_body_set (Q := fun r s' => r = .int es.size (s.toks + 1) ∧ Q (n != 0) s') hoa hex hda hfa hfit ⟨rfl, h⟩)
      (fun fin s' h' => by obtain ⟨r, rfl, hq⟩ := h'; exact hq) fun _ _ e => e
  unfold truthy
  dsimp only
  have e0 : ((es.size : Int) != 0) = (n != 0) := by rw [← hn]; cases es.size <;> simp; omega
  first
    | refine wpAny_bind (wpAny_callSpecial?_none (name := Str.ofString "__bool__") hT noBool_set ?_)
    | refine wpAny_bind (wpAny_pure (wpAny_bind (wpAny_callSpecial?_none (name := Str.ofString "__bool__") hT noBool_set ?_)))
  first
    | refine wpAny_bind (wpAny_specialOf (name := Str.ofString "__len__") hT PySem.F.slot_set_len.lookup ?_)
    | refine wpAny_bind (wpAny_pure (wpAny_bind (wpAny_specialOf (name := Str.ofString "__len__") hT PySem.F.slot_set_len.lookup ?_)))
  first
    | exact wpAny_bind (wpAny_mono key (fun r s' h' => by obtain ⟨rfl, hq⟩ := h'; rw [← e0] at hq; exact wpAny_pure hq) fun _ _ e => e)
    | exact wpAny_bind (wpAny_pure (wpAny_bind (wpAny_mono key (fun r s' h' => by obtain ⟨rfl, hq⟩ := h'; rw [← e0] at hq; exact wpAny_pure hq) fun _ _ e => e)))
theorem fmt_raw {prog : Program} {w : World} {A : Around} {E : Value → Shared → Prop} {s : Shared} {x : Str} {t u : Tok} {Q : Value → Shared → Prop} (hx : x.length ≤ 100) (h : ∀ y t' k, Q (.str y t') { s with toks := k }) :
    wpAny (model prog w) A (call (.builtin "str.format") [.str "Dependent file '{}' does not exist." t, .str x u]) Q E s := by
  refine' KFm.call_k ?kfmF ?kfmg ?kfmm ?_
  case kfmF => kfm_eq
  case kfmg => kfm_args
  case kfmm => kfm_run
  intro t' k
  exact h _ _ _
end

section
variable {c : Cx} {f : Fn} {ℓ : Locs} {σ σ' σ'' : Store} {h h' h₀ h'' : Heap} {p : Pl} {wr : List Addr} {d : Nat} {hf : Bool}

theorem cw_format {x : Str} {Φ : AV → Store → Prop} (hx : x.length ≤ 100) (φ : ∀ y, Φ (.str y) σ) : Cw c d hf σ (.val (.builtin "str.format")) [.str "Dependent file '{}' does not exist.", .str x] [] Φ :=
  cw2 fun A s a b Q E ok rm g va vb k => by
    cases va; cases vb
    exact fmt_raw hx fun y t' tk => k (.str y) _ σ s.heap tk (φ y) g .refl (.str _ _)

theorem set_at {a : Addr} {ss : List Str} (i : σ a = some (.set ss)) (g : Good c σ h) (hz : ss.length ≤ 1000) : ∃ S : Str → Bool, h.SetOf (PySem.strKind c.prog c.w) a S ss.length ∧ (∀ x, S x = true ↔ x ∈ ss) ∧ ss.Nodup := by
  obtain ⟨oc, e, r⟩ := g.obj a _ i
  cases r with
  | set si =>
    obtain ⟨S, so, hS⟩ := si.of
    exact ⟨S, so.setOf e (by unfold scanBound; omega), hS, si.nd⟩
theorem cw_set {l : Addr} {v : AV} {ys : List Str} {Φ : AV → Store → Prop} (hv : (v = .ref l ∧ ListIs c σ l (strsA ys)) ∨ v = .tup (strsA ys)) (hf' : hf = true) (hz : ys.length ≤ 1000) (φ : ∀ a, σ a = none → Φ (.ref a) (σ.set a (.set (dd ys)))) :
    Cw c d hf σ (.val (.type "set")) [v] [] Φ :=
  cw1 fun A s x Q E ok rm g va k => by
    have key : ∀ (t : Addr) (T : String) (items : Array Value) (n : Nat), (T = "list" ∨ T = "tuple") → s.heap.get? t = some { cls := .type T, data := .seq items n } → StrsAre items.toList ys → wpAny (model c.prog c.w) A (call (.type "set") [.ref t]) Q E s := by
      intro t T items n hT ht hs
      refine call_set_strs hT (rm.hand hf') ht hs (by unfold scanBound; omega) fun h' tk hS kp => ?_
      obtain ⟨o, ho, hso⟩ := hS.objOf
      have kp' : ∀ b o, s.heap.get? b = some o → h'.get? b = some o := fun b o e => kp b o (Heap.lt_size e) e
      have si : SetIs c.prog c.w (dd ys) o := ⟨hso.1.1, ⟨_, hso, fun x => by simp⟩, dd_nodup ys⟩
      exact k _ _ _ h' tk (φ _ g.size_off) ((g.ext kp').enter ho (.set si) g.base_size g.size_low (g.notFrame (size_none _))) (Step.enter kp' (size_none _)) (.ref _)
    rcases hv with ⟨rfl, il⟩ | rfl
    · cases va
      obtain ⟨xs, n, e, r⟩ := list_at il g
      exact key l "list" xs n (.inl rfl) e (strsAre_of r)
    · cases va with
      | tup e r => exact key _ "tuple" _ 0 (.inr rfl) e (strsAre_of r)
theorem tr_set {a : Addr} {ss : List Str} {Φ : Bool → Store → Prop} (i : σ a = some (.set ss)) (hz : ss.length ≤ 1000) (φ : Φ (ss.length != 0) σ) : OpB c f ℓ σ [.ref a] (ap1 truthy) Φ :=
  opb_of (fun A s x Q E ok rm g va k => by
    cases va
    obtain ⟨S, hS, _, _⟩ := set_at i g hz
    exact truthy_set hS (k _)) φ
theorem op_ne_set {a b : Addr} {ss ts : List Str} {Φ : AV → Store → Prop} (i : σ a = some (.set ss)) (j : σ b = some (.set ts)) (hz : ss.length ≤ 1000) (hy : ts.length ≤ 1000) (φ : ∀ r, (r = true ↔ ss.length = ts.length ∧ ∀ x ∈ ss, x ∈ ts) → Φ (.bool (!r)) σ) :
    Op c f ℓ σ [.ref a, .ref b] (ap2 (compareOp .NotEq)) Φ := by
  intro A p s xs Q E ok rm H va k
  cases va with
  | cons va r => cases r with
    | cons vb r =>
      cases r; cases va; cases vb
      obtain ⟨S, hS, hm, _⟩ := set_at i H.good hz
      obtain ⟨S', hS', hm', _⟩ := set_at j H.good hy
      refine ne_sets hS hS' (by have := rm.units; show A.units < 9900; omega) fun r hr => ?_
      refine k _ _ σ s.heap s.toks (φ r ?_) H .refl (.bool _)
      rw [hr]
      constructor
      · rintro ⟨e, q⟩; exact ⟨e, fun x hx => (hm' x).mp (q x ((hm x).mpr hx))⟩
      · rintro ⟨e, q⟩; exact ⟨e, fun x hx => (hm' x).mpr (q x ((hm x).mp hx))⟩
theorem op_notin_set {a : Addr} {ss : List Str} {k : Str} {Φ : AV → Store → Prop} (i : σ a = some (.set ss)) (hz : ss.length ≤ 1000) (φ : Φ (.bool (!decide (k ∈ ss))) σ) : Op c f ℓ σ [.str k, .ref a] (ap2 (compareOp .NotIn)) Φ :=
  op2_of (fun A s x y Q E ok rm g va vb kk => by
    cases va; cases vb
    obtain ⟨S, hS, hm, _⟩ := set_at i g hz
    have e : S k = decide (k ∈ ss) := by rw [Bool.eq_iff_iff, hm]; simp
    exact wpAny_notInSet_of (strKind_is c.prog c.w k _) rfl hS (by rw [e]; exact kk _ _ (.bool _))) φ
end
end Mine

set_option autoImplicit false
set_option maxRecDepth 100000
namespace Mine
open PySem PySem.W PySem.Calls PyProof.Rows

section
variable {c : Cx} {f : Fn} {ℓ : Locs} {σ σ' σ'' : Store} {h h' h₀ h'' : Heap} {p : Pl} {wr : List Addr} {d : Nat} {hf : Bool}

/-! ## displays of dicts -/
noncomputable def EvP (c : Cx) (f : Fn) (ℓ : Locs) : List (Expr × Expr) → Store → (Es → Store → Prop) → Prop
  | [], σ, Φ => Φ [] σ
  | (k, v) :: r, σ, Φ => Ev c f ℓ σ k fun kv σ₁ => ∃ s, kv = .str s ∧ Ev c f ℓ σ₁ v fun vv σ₂ => EvP c f ℓ r σ₂ fun es σ₃ => Φ ((s, vv) :: es) σ₃
noncomputable def semPairs (pos : Pos) (pairs : List (Expr × Expr)) (env : Env) : List (Sem Value × Sem Value) := pairs.map fun kv => (eval kv.1 env, do let x ← eval kv.2 env; standAt pos; pure x)
theorem shape_pairs (pos : Pos) (env : Env) : ∀ pairs : List (Expr × Expr), (evalEachOpt (pairs.map fun kv => some kv.1) env).zip ((evalEach (pairs.map (·.2)) env).map fun v => do let x ← v; standAt pos; pure x) = (semPairs pos pairs env).map fun p => (some p.1, p.2)
  | [] => rfl
  | (k, v) :: r => by
    have ih := shape_pairs pos env r
    unfold semPairs at ih ⊢
    simp only [List.map_cons]
    show (_ :: _ : List _) = _
    rw [← ih]; rfl
theorem evp_run {pos : Pos} {pairs : List (Expr × Expr)} {Φ : Es → Store → Prop} (q : EvP c f ℓ pairs σ Φ) :
    Tr c f ℓ σ [] (fun env _ => evalPairs (semPairs pos pairs env)) (fun h es vs => ∃ kvs, Carries (PySem.strKind c.prog c.w) vs kvs ∧ KRs h es kvs) Φ := by
  intro A p s xs Q E ok rm H v0 k
  clear v0
  induction pairs generalizing σ s Q Φ with
  | nil => exact evalPairs_nil (k [] [] σ s.heap s.toks q H .refl ⟨[], trivial, .nil⟩)
  | cons kv r ih =>
    obtain ⟨ke, ve⟩ := kv
    refine evalPairs_cons (q A p s [] _ E ok rm H .nil fun kv kv' σ₁ h₁ t₁ ⟨ks, ek, q₁⟩ H₁ s₁ vk => ?_)
    subst ek
    cases vk with
    | str ks t =>
      refine wpAny_bind (q₁ A p _ [] _ E ok rm H₁ .nil fun vv vv' σ₂ h₂ t₂ q₂ H₂ s₂ vv₂ => wpAny_bind (wpAny_standAt (wpAny_pure ?_)))
      refine ih q₂ { s with heap := h₂, toks := t₂ } _ H₂ fun es vs σ₃ h₃ t₃ q₃ H₃ s₃ ⟨kvs, hc, kr⟩ => ?_
      exact k _ _ σ₃ h₃ t₃ q₃ H₃ ((s₁.trans H₁ s₂).trans H₂ s₃) ⟨(ks, vv') :: kvs, ⟨strKind_is c.prog c.w ks t, rfl, hc⟩, .cons (vv₂.mono (s₃.tk H₂)) kr⟩
theorem ev_dict {pairs : List (Expr × Expr)} {keys : List (Option Expr)} {values : List Expr} {pos : Pos} {Φ : AV → Store → Prop} (hk : keys = pairs.map fun kv => some kv.1) (hv : values = pairs.map (·.2)) (h0 : pairs ≠ []) (hl : pairs.length ≤ 15)
    (q : ∀ D, σ D = none → EvP c f ℓ pairs (σ.set D (.dict [])) fun es σ₁ => (es.map (·.1)).Nodup ∧ σ₁ D = some (.dict []) ∧ Φ (.ref D) (σ₁.set D (.dict es))) : Ev c f ℓ σ (.Dict keys values pos) Φ := by
  intro A p s xs Q E ok rm H _ k
  subst hk hv
  refine wpAny_Dict_pairs (knd := PySem.strKind c.prog c.w) (pairs := semPairs pos pairs (f.env p)) (shape_pairs pos _ pairs) (by simp [semPairs, h0]) (by simp [semPairs, hl]) ?_
  have r : OR c.prog c.w (s.heap.push emptyDict) (.dict []) emptyDict := .dict (kvs := []) ⟨#[], 0, ⟨rfl, rfl, rfl⟩, rfl, fun _ he => by simp at he, Pairs.nil, List.nodup_nil⟩ .nil
  have H₁ := H.alloc r
  refine evp_run (pos := pos) (q _ H.good.size_off) A p { s with heap := s.heap.push emptyDict } [] _ E ok rm H₁ .nil fun es vs σ₂ h₂ t₂ ⟨nd, hD, φ⟩ H₂ s₂ ⟨kvs, hc, kr⟩ => ?_
  obtain ⟨kvs₀, hd₀, r₀, _⟩ := dict_at hD H₂.good
  cases r₀
  refine ⟨kvs, hc, hd₀, fun h' hd' hs => ?_⟩
  rw [merged_nil_of_nodup kvs (by rw [← kr.names]; exact nd)] at hd'
  obtain ⟨H₃, s₃⟩ := dict_turned (es' := es) H₂ hD hd' hs fun tk => kr.mono tk
  exact k _ _ _ h' _ φ H₃ (((Step.ofC .alloc).trans H₁ s₂).trans H₂ s₃) (.ref _)
end
section
theorem list_no_keys : typeLookup (.type "list") "keys" = pure none := by rw [typeLookup_type, builtinLookup_eq_fast]; kernel_rfl
theorem keys_miss {prog : Program} {w : World} {A : Around} {E : Value → Shared → Prop} {s : Shared} {a : Addr} {xs : Array Value} {k : Nat} {Q : Option Value → Shared → Prop}
    (hx : s.heap.get? a = some (listObj xs k)) (hA : A.handled = none)
    (h : ∀ h' tk, (∀ b o, s.heap.get? b = some o → h'.get? b = some o) → Q none { s with heap := h', toks := tk }) : wpAny (model prog w) A (getAttr? (.ref a) "keys") Q E s := by
  obtain ⟨hp, g, d, tk, os⟩ := s
  have hT : ∀ tk', (⟨hp, g, d, tk', os⟩ : Shared).TypeIs (.ref a) "list" := fun _ => ⟨_, hx, rfl⟩
  have f1 := sub_AttributeError
  have f3 := PySem.F.slot_list_getattribute.lookup
  have f4 := PySem.F.slot_list_getattribute.bind (.ref a)
  have f5 := am_list_getattr_none
  unfold getAttr? getAttrBy? getAttrBy
  repeat (any_goals (first | assumption | exact hT _ | ((with_reducible show wpAny _ _ (call (Value.builtin "list.__getattribute__") _ _) _ _ _); refine call_meets PySem.F.slot_list_getattribute (hT _) am_entry_list_getattribute (PySem.F.args_list_getattribute_2 _ _) (meets_getattribute_miss_list a xs k #[] "keys" _ list_no_keys (by decide) (by rw [sizeLine_eq]; decide)) ⟨hx, hA, fun h' tk' e hx' => ?_⟩) | wp_step))
  obtain ⟨t', u', he⟩ := hx'.there
  show wpAny _ _ (getattributeRaised _ _ _ _ _ _ _) _ _ _
  unfold getattributeRaised
  repeat (any_goals (first | assumption | wp_step))
  exact h _ _ hx'.keeps

theorem entry_dict_update_loop : entryFor table "dict.update.loop" = some Builtin.«dict.update.loop» := entryFor_of_tree (by kernel_rfl)
theorem plain_dict_update_loop : plainId "dict.update.loop" = true := by decide +kernel
section
variable {prog : Program} {w : World} {A : Around} {E : Value → Shared → Prop} {s : Shared}

noncomputable def PairAt (h : Heap) (v : Value) (kv : Str × Value) : Prop := ∃ t u, v = .ref t ∧ h.get? t = some (tupObj #[.str kv.1 u, kv.2])

theorem dict_loop {R : Result → Shared → Prop} {S I l : Addr} {items : Array Value} {kvs : List (Str × Value)} (hh : A.in1.handled = none) (hSI : S ≠ I) (hSl : S ≠ l) (hIl : l ≠ I) (hlen : items.size = kvs.length) (hz : kvs.length ≤ 1000) :
    ∀ (k i : Nat) (s : Shared), kvs.length - i = k → i ≤ kvs.length → s.heap.IsListIter I l i → s.heap.IsList l items → s.heap.DictOf (PySem.strKind prog w) S (merged [] (kvs.take i)) →
      (∀ (j : Nat) (kv : Str × Value), kvs[j]? = some kv → ∃ v, items[j]? = some v ∧ PairAt s.heap v kv) →
      (∀ h' tk, (∀ b o, b ≠ S → b ≠ I → s.heap.get? b = some o → h'.get? b = some o) → h'.DictOf (PySem.strKind prog w) S (merged [] kvs) → R (.ok (.ret .none)) { s with heap := h', toks := tk }) →
      codeAny (model prog w) A (.builtin "dict.update.loop" ⟨[.ref S, .ref I, rawInt i, .none], []⟩) R s := by
  intro k
  induction k with
  | zero =>
    intro i s hk hi hit hl hS hp hR
    have hin : i = kvs.length := by omega
    subst hin
    refine codeAny_builtin entry_dict_update_loop ?_
    rw [Around.under_plainId plain_dict_update_loop _]
    show wpAny _ A.in1 (pyNext (.ref I) >>= _) _ _ s
    refine wpAny_bind (wpAny_pyNext_list_end hh hit hl (by simp [hlen]) fun h' he => ?_)
    show wpAny _ A.in1 (Builtin.Dict.addKeywords S [] >>= fun _ => ret Value.none) _ _ _
    rw [List.take_length] at hS
    refine wpAny_bind (wpAny_pure (wpAny_pure (hR h' s.toks (fun b o _ nb e => he b o nb e) ?_)))
    obtain ⟨o, es, ep, ho, r⟩ := hS
    exact ⟨o, es, ep, he S o hSI ho, r⟩
  | succ k ih =>
    intro i s hk hi hit hl hS hp hR
    have hlt : i < kvs.length := by omega
    refine codeAny_builtin entry_dict_update_loop ?_
    rw [Around.under_plainId plain_dict_update_loop _]
    show wpAny _ A.in1 (pyNext (.ref I) >>= _) _ _ s
    obtain ⟨v, hv, t, u, rfl, ht⟩ := hp i kvs[i] (List.getElem?_eq_getElem hlt)
    have kpI : ∀ h', Heap.SameBut I s.heap h' → ∀ b o, s.heap.get? b = some o → b ≠ I → h'.get? b = some o := fun h' hs b o e n => (hs.2 b n).trans e
    have tI : t ≠ I := by
      rintro rfl; obtain ⟨o, ho, hc, _⟩ := hit; rw [ht] at ho; cases ho; exact absurd hc (by simp)
    have tS : t ≠ S := by
      rintro rfl; obtain ⟨o, es, ep, ho, hc, _⟩ := hS; rw [ht] at ho; cases ho; exact absurd hc.1 (by simp)
    refine wpAny_bind (wpAny_pyNext_list_item hit hl hv fun h₁ hit₁ hs₁ => ?_)
    have hS₁ : h₁.DictOf (PySem.strKind prog w) S (merged [] (kvs.take i)) := by
      obtain ⟨o, es, ep, ho, r⟩ := hS; exact ⟨o, es, ep, kpI _ hs₁ S o ho hSI, r⟩
    have ht₁ := kpI _ hs₁ t _ ht tI
    show wpAny _ A.in1 (holding [Value.ref t] _ >>= _) _ _ _
    refine wpAny_bind (wpAny_holding ?_)
    refine wpAny_bind (wpAny_tryCatch ?_)
    unfold Builtin.Dict.pairItems
    have hT : Shared.TypeIs { s with heap := h₁ } (.ref t) "tuple" := ⟨_, ht₁, rfl⟩
    refine wpAny_bind (wpAny_typeOf hT ?_)
    rw [if_pos (by decide)]
    refine wpAny_bind (wpAny_seqItems ht₁ rfl (wpAny_pure ?_))
    show wpAny _ A.in1 (holding [Value.str kvs[i].1 u, kvs[i].2] (dictSet S (.str kvs[i].1 u) kvs[i].2)) _ _ _
    refine wpAny_holding ?_
    have hml : (merged [] (kvs.take i)).length ≤ 1000 := by have := merged_length_le ([] : List (Str × Value)) (kvs.take i); rw [List.length_take] at this; simp at this; omega
    refine wpAny_dictSet_pairs (hsz := by rw [sizeLine_eq]; omega) (strKind_is prog w kvs[i].1 u) hS₁ fun h₂ hS₂ hs₂ => ?_
    rw [← merged_take_succ [] kvs i kvs[i] (List.getElem?_eq_getElem hlt)] at hS₂
    have old : ∀ b o, b ≠ S → b ≠ I → s.heap.get? b = some o → h₂.get? b = some o := fun b o nS nI e => (hs₂.2 b nS).trans (kpI _ hs₁ b o e nI)
    refine wpAny_pure ⟨plainId_quiet plain_dict_update_loop _, ?_⟩
    have hl₂ : h₂.IsList l items := by obtain ⟨o, ho, r⟩ := hl; exact ⟨o, old l o hSl.symm hIl ho, r⟩
    have hit₂ : h₂.IsListIter I l (i + 1) := by obtain ⟨o, ho, r⟩ := hit₁; exact ⟨o, (hs₂.2 I hSI.symm).trans ho, r⟩
    refine ih (i + 1) _ (by omega) hlt hit₂ hl₂ hS₂ (fun j kv hj => ?_) fun h' tk kp hS' => ?_
    · obtain ⟨v', hv', t', u', e', ht'⟩ := hp j kv hj
      refine ⟨v', hv', t', u', e', old t' _ ?_ ?_ ht'⟩
      · rintro rfl; obtain ⟨o, es, ep, ho, hc, _⟩ := hS; rw [ht'] at ho; cases ho; exact absurd hc.1 (by simp)
      · rintro rfl; obtain ⟨o, ho, hc, _⟩ := hit; rw [ht'] at ho; cases ho; exact absurd hc (by simp)
    · exact hR h' tk (fun b o nS nI e => kp b o nS nI (old b o nS nI e)) hS'

theorem call_dict_pairs' {l : Addr} {items : Array Value} {n : Nat} {kvs : List (Str × Value)} {Q : Value → Shared → Prop} (hh : A.handled = none) (hl : s.heap.get? l = some (listObj items n)) (hlen : items.size = kvs.length) (hz : kvs.length ≤ 1000)
    (hp : ∀ (j : Nat) (kv : Str × Value), kvs[j]? = some kv → ∃ v, items[j]? = some v ∧ PairAt s.heap v kv)
    (h : ∀ h' tk, (∀ b o, s.heap.get? b = some o → h'.get? b = some o) → h'.DictOf (PySem.strKind prog w) s.heap.objs.size (merged [] kvs) → Q (.ref s.heap.objs.size) { s with heap := h', toks := tk }) :
    wpAny (model prog w) A (call (.type "dict") [.ref l]) Q E s := by
  refine callType_codes (Q₁ := fun obj s₁ => obj = .ref s.heap.objs.size ∧ s₁ = { s with heap := s.heap.push { cls := .type "dict", data := .dict #[] } }) PySem.F.kt_called_dict (PySem.F.kt_typeCall_dict_1 _) PySem.F.entry_dict_init (kt_code_dict_new _ ⟨rfl, rfl⟩) ?_
  rintro obj s₁ ⟨rfl, rfl⟩
  have hnew : (s.heap.push { cls := .type "dict", data := .dict #[] }).DictOf (PySem.strKind prog w) s.heap.objs.size [] := Heap.DictOf.new s.heap
  have hl' : (s.heap.push { cls := .type "dict", data := .dict #[] }).get? l = some (listObj items n) := Heap.get?_push_of_some _ hl
  have hTl : Shared.TypeIs { s with heap := s.heap.push { cls := .type "dict", data := .dict #[] } } (.ref l) "list" := ⟨_, hl', rfl⟩
  refine ⟨hnew.typeIs, PySem.F.args_dict_init_2 _ _, ?_⟩
  unfold Builtin.«dict.__init__»
  refine wpAny_bind ?_
  unfold Builtin.Dict.selfAndRest
  refine wpAny_bind (wpAny_notOrdered_dict hnew.typeIs ?_)
  show wpAny _ _ (pure (s.heap.objs.size, [Value.ref l])) _ _ _
  refine wpAny_pure ?_
  show wpAny _ _ (Builtin.Dict.updateFrom "dict.__init__" s.heap.objs.size (.ref l) [] .none) _ _ _
  unfold Builtin.Dict.updateFrom
  refine wpAny_bind (wpAny_typeOf hTl ?_)
  rw [if_pos (by decide)]
  refine wpAny_bind (keys_miss hl' (by simp [hh]) fun h₁ tk₁ kp₁ => ?_)
  rw [if_pos (by rfl)]
  refine wpAny_bind (wpAny_rule ?_)
  have hl₁ : h₁.IsList l items := ⟨_, kp₁ _ _ hl', rfl, n, rfl⟩
  refine wpAny_bind (wpAny_pyIter_list hl₁ ?_)
  refine wpAny_bind (wpAny_pure ?_)
  have e0 : h₁.get? s.heap.objs.size ≠ none := by
    obtain ⟨o, es, ep, ho, _⟩ := hnew; rw [kp₁ _ _ ho]; simp
  have lt0 : s.heap.objs.size < h₁.objs.size := by
    cases z : h₁.get? s.heap.objs.size with
    | none => exact absurd z e0
    | some o => exact Heap.lt_size z
  have ltl : l < s.heap.objs.size := Heap.lt_size hl
  have kp₂ : ∀ b o, (s.heap.push { cls := .type "dict", data := .dict #[] }).get? b = some o → (h₁.push { cls := .type "list_iterator", data := .fields #[.ref l, .int 0 0] }).get? b = some o := fun b o e => Heap.get?_push_of_some _ (kp₁ b o e)
  have hS₂ : (h₁.push { cls := .type "list_iterator", data := .fields #[.ref l, .int 0 0] }).DictOf (PySem.strKind prog w) s.heap.objs.size (merged [] (kvs.take 0)) := by
    obtain ⟨o, es, ep, ho, r⟩ := hnew; exact ⟨o, es, ep, kp₂ _ _ ho, r⟩
  refine wpAny_pure ⟨plainId_quiet plain_dict_update_loop _, ?_⟩
  refine dict_loop (kvs := kvs) (by simp [hh]) (Nat.ne_of_lt lt0) (Nat.ne_of_gt ltl) (Nat.ne_of_lt (Nat.lt_trans ltl lt0)) hlen hz (kvs.length - 0) 0 _ rfl (Nat.zero_le _) ⟨_, Heap.get?_push_size _ rfl, rfl, rfl⟩ (hl₁.push _) hS₂ (fun j kv hj => ?_) fun h' tk kp hS' => ?_
  · obtain ⟨v, hv, t, u, e, ht⟩ := hp j kv hj
    exact ⟨v, hv, t, u, e, kp₂ _ _ (Heap.get?_push_of_some _ ht)⟩
  · refine ⟨rfl, h h' tk (fun b o e => ?_) hS'⟩
    exact kp b o (Nat.ne_of_lt (Heap.lt_size e)) (Nat.ne_of_lt (Nat.lt_trans (Heap.lt_size e) lt0)) (kp₂ _ _ (Heap.get?_push_of_some _ e))
end
end

section
variable {c : Cx} {f : Fn} {ℓ : Locs} {σ σ' σ'' : Store} {h h' h₀ h'' : Heap} {p : Pl} {wr : List Addr} {d : Nat} {hf : Bool}
theorem pairs_of : ∀ {es : Es} {xs : List Value}, VRs h (es.map fun kv => .tup [.str kv.1, kv.2]) xs → ∃ kvs, KRs h es kvs ∧ kvs.length = xs.length ∧ ∀ (j : Nat) (kv : Str × Value), kvs[j]? = some kv → ∃ v, xs[j]? = some v ∧ PairAt h v kv
  | [], _, r => by cases r; exact ⟨[], .nil, rfl, fun j kv e => by simp at e⟩
  | (k, v) :: es, _, r => by
    cases r with
    | cons u w =>
      obtain ⟨kvs, kr, len, q⟩ := pairs_of w
      cases u with
      | tup e rr =>
        rename_i a ys
        cases hy : ys.toList with
        | nil => rw [hy] at rr; cases rr
        | cons y1 yr =>
          rw [hy] at rr
          cases rr with
          | cons r1 r2 =>
            cases r2 with
            | cons r2 r3 =>
              cases r3
              cases r1 with
              | str k t =>
                rename_i y2
                have hys : ys = #[.str k t, y2] := by rw [← Array.toArray_toList (xs := ys), hy]
                subst hys
                refine ⟨(k, y2) :: kvs, .cons r2 kr, by simp [len], fun j kv hj => ?_⟩
                cases j with
                | zero => simp at hj; subst hj; exact ⟨_, rfl, _, t, rfl, e⟩
                | succ j => exact q j kv (by simpa using hj)
theorem cw_dict_pairs {l : Addr} {es : Es} {Φ : AV → Store → Prop} (il : ListIs c σ l (es.map fun kv => .tup [.str kv.1, kv.2])) (hf' : hf = true) (nd : (es.map (·.1)).Nodup) (hz : es.length ≤ 1000) (φ : ∀ a, σ a = none → Φ (.ref a) (σ.set a (.dict es))) :
    Cw c d hf σ (.val (.type "dict")) [.ref l] [] Φ :=
  cw1 fun A s x Q E ok rm g va k => by
    cases va
    obtain ⟨xs, n, e, r⟩ := list_at il g
    obtain ⟨kvs, kr, len, q⟩ := pairs_of r
    refine call_dict_pairs' (kvs := kvs) (rm.hand hf') e (by rw [len, Array.length_toList]) (by rw [← kr.length]; exact hz) (fun j kv hj => ?_) fun h' tk kp hD => ?_
    · obtain ⟨v, hv, pa⟩ := q j kv hj
      exact ⟨v, by rw [← Array.getElem?_toList]; exact hv, pa⟩
    · rw [merged_nil_of_nodup kvs (by rw [← kr.names]; exact nd)] at hD
      obtain ⟨o', e', i'⟩ := Heap.dictOf_iff.mp hD
      exact k _ _ _ h' tk (φ _ g.size_off) ((g.ext kp).enter e' (.dict i' (kr.mono fun a ys e => kp _ _ e)) g.base_size g.size_low (g.notFrame (size_none _))) (Step.enter kp (size_none _)) (.ref _)
end
end Mine

set_option autoImplicit false
set_option maxRecDepth 100000
namespace Mine
open PySem PySem.W PySem.Calls PyProof.Rows

/-! ## an exception of the text's own -/
noncomputable def excB : List Value := [.type "Exception", .type "BaseException", .type "object"]
structure ExcC (c : Cx) (x : Str) (C : Addr) : Prop where
  name : nsIn c.K mainGlobals x = some (some (.ref C))
  cls : excIn c.K C excB "Exception.__new__" = true
theorem ExcC.own {c : Cx} {x : Str} {C : Addr} (e : ExcC c x C) (ok : c.Ok) : OwnCls x C excB "Exception.__new__" c.mg c.h₀ := by
  refine ⟨mg_of ok.X ok.g e.name, ?_⟩
  have X := ok.X
  have q := e.cls
  unfold excIn at q
  split at q
  · rename_i dd cd sl ho
    split at q
    · rename_i C' bm k0 k1 k2 k3 n k5 hm hs
      simp only [Bool.and_eq_true, beq_iff_eq, Bool.not_eq_true'] at q
      obtain ⟨⟨⟨⟨⟨rfl, rfl⟩, hdel⟩, ht⟩, hok⟩, hni⟩ := q
      obtain ⟨nm, bs, mro, ns, qn, hd, sn, sub, ab, col, del⟩ := cd
      dsimp only at hm hdel hok hni
      subst hm hdel
      have hsl : sl = #[k0, k1, k2, k3, some (.builtin "Exception.__new__"), k5] := by
        obtain ⟨l⟩ := sl
        simp only at hs
        rw [hs]
      subst hsl
      exact ⟨bm, ns, nm, qn, bs, hd, sn, sub, ab, col, dd, k0, k1, k2, k3, k5, _, X _ _ ho, .of_isNs (isNs_of_in X hok), nsMap_none_of_in X hok hni, tail_of_in X ht⟩
    · cases q
  · cases q

section
variable {c : Cx} {f : Fn} {ℓ : Locs} {σ σ' σ'' : Store} {h h' h₀ h'' h₁ : Heap} {p : Pl} {wr : List Addr} {d : Nat} {hf : Bool}

/-- what may be hidden while an exception flies -/
noncomputable def FsOk (c : Cx) (σ : Store) (h : Heap) (fs : List Addr) : Prop := (∀ b ∈ fs, (∃ m, h.Ns b m) ∧ σ b = none ∧ c.h₀.get? b = none) ∧ ∀ env ∈ c.stk, ∀ b, env.frame = some b → b ∈ fs

theorem FsOk.flown {fs : List Addr} (k : FsOk c σ h fs) (g : Good c σ h) (st : (hideAll h fs).StaysIn h') (up : h.UpToSlots h') : Good c σ h' ∧ StepC σ σ h h' := by
  have ex : ∀ b o, h.get? b = some o → b ∉ fs → h'.get? b = some o := fun b o e n => st _ _ (hideAll_get _ e n)
  have tk : TK h h' := fun a xs e => ex _ _ e fun m => by
    obtain ⟨⟨_, o, _, _, ho, hd, _⟩, _⟩ := k.1 a m
    rw [e] at ho; cases ho; cases hd
  refine ⟨⟨fun b o e => ex _ _ (g.keep b o e) (fun m => by have := (k.1 b m).2.2; rw [e] at this; cases this), fun a o e => ?_, g.new, g.stat, g.low, fun env he => (g.fr env he).turn (fun L m _ ns _ _ => ⟨m, up.ns ns⟩) fun _ _ e => e⟩, ⟨fun a o e _ _ => ?_, fun _ a b => absurd a b, fun _ e => e⟩⟩
  · obtain ⟨oc, e1, r⟩ := g.obj a o e
    exact ⟨oc, ex _ _ e1 (fun m => by have := (k.1 a m).2.1; rw [e] at this; cases this), r.mono tk⟩
  · by_cases m : a ∈ fs
    · obtain ⟨⟨_, o', es, ep, ho, hd, _⟩, _⟩ := k.1 a m
      rw [e] at ho; cases ho
      obtain ⟨sl, e'⟩ := up a o e fun vs q => by rw [hd] at q; cases q
      exact ⟨sl, e', fun q => absurd hd (q es ep)⟩
    · exact .same (ex _ _ e m)
theorem Good.funFrames (g : Good c σ h) {fs : List Addr} (k : ∀ env ∈ c.stk, ∀ b, env.frame = some b → b ∈ fs) : ∀ {l : List Env}, (∀ env ∈ l, env ∈ c.stk) → h.FunFrames (hideAll h fs) l
  | [], _ => trivial
  | env :: l, hl => by
    obtain ⟨kk, L, m, e, ⟨o, es, ep, ho, hd, _⟩, _, _⟩ := g.fr env (hl env List.mem_cons_self)
    exact ⟨kk, ⟨L, o, e, hideAll_none _ (k env (hl env List.mem_cons_self) L e), ho, fun vs q => by rw [hd] at q; cases q⟩, g.funFrames k fun env he => hl env (List.mem_cons_of_mem _ he)⟩

/-- an exception flies through the place; nothing of the store turned -/
structure Flies (c : Cx) (σ : Store) (C : Addr) (e : Addr) (h₁ h' : Heap) : Prop where
  ex : ∃ fs a0, FsOk c σ h₁ fs ∧ Heap.FlyingW (hideAll h₁ fs) c.stk e (.ref C) a0 h' ∧ h₁.UpToSlots h'

/-- a tree that raises -/
noncomputable def TrR (c : Cx) (f : Fn) (ℓ : Locs) (σ : Store) {α : Type} (t : Env → Sem α) (C : Addr) : Prop :=
  ∀ (A : Around) (p : Pl) (s : Shared) (Q : α → Shared → Prop) (E : Value → Shared → Prop), c.Ok → Room c f.d f.hf A → Here c f ℓ σ p s.heap →
    (∀ e h₁ h' tk, Here c f ℓ σ p h₁ → Step σ σ (Own f p) s.heap h₁ → Flies c σ C e h₁ h' → E (.ref e) { s with heap := h', toks := tk }) →
    wpAny (model c.prog c.w) A (t (f.env p)) Q E s
/-- a tree that raises anew -/
noncomputable def TrM (c : Cx) (f : Fn) (ℓ : Locs) (σ : Store) {α : Type} (t : Env → Sem α) (C : Addr) : Prop :=
  ∀ (A : Around) (p : Pl) (s : Shared) (Q : α → Shared → Prop) (E : Value → Shared → Prop), c.Ok → Room c f.d f.hf A → A.handled = none → Here c f ℓ σ p s.heap →
    (∀ e vs h₁ h' tk, Here c f ℓ σ p h₁ → Step σ σ (Own f p) s.heap h₁ → Heap.MadeExcOf h₁ h' e (.ref C) vs → E (.ref e) { s with heap := h', toks := tk }) →
    wpAny (model c.prog c.w) A (t (f.env p)) Q E s
/-- a call that raises -/
noncomputable def CaR (c : Cx) (d : Nat) (hf : Bool) (σ : Store) (g : AV) (as : List AV) (C : Addr) : Prop :=
  ∀ (A : Around) (s : Shared) (g' : Value) (xs : List Value) (R : Result → Shared → Prop), c.Ok → Room c d hf A → Good c σ s.heap → VR s.heap g g' → VRs s.heap as xs →
    (∀ e h₁ h' tk, Good c σ h₁ → StepC σ σ s.heap h₁ → Flies c σ C e h₁ h' → R (.error (.ref e)) { s with heap := h', toks := tk }) →
    codeAny (model c.prog c.w) A (.call g' ⟨xs, []⟩) R s

theorem trm_if {t : Expr} {a b rest : List Stmt} {pos : Pos} {C : Addr} (q : Te c f ℓ σ t fun z σ₁ => z = true ∧ σ₁ = σ) (r : TrM c f ℓ σ (execs a) C) : TrM c f ℓ σ (execs (.If t a b pos :: rest)) C := by
  intro A p s Q E ok rm hh H k
  refine wpAny_execs_cons (wpAny_If (q A p s [] _ E ok rm H .nil fun z z' σ₁ h₁ t₁ ⟨e1, e2⟩ H₁ s₁ vz => ?_))
  subst e1 e2 vz
  rw [if_pos rfl]
  exact r A p _ _ E ok rm hh H₁ fun e vs h₂ h' tk H₂ s₂ hx => k e vs h₂ h' tk H₂ (s₁.trans H₁ s₂) hx
theorem trm_raise {x : Str} {np cpos pos : Pos} {e₀ : Expr} {rest : List Stmt} {C : Addr} (X : ExcC c x C) (hx : f.kind x = some .globalImplicit) (hp : plainE e₀ = true) (q : Ev c f ℓ σ e₀ fun _ σ₁ => σ₁ = σ) (hd : (x == ("__debug__" : Str)) = false := by decide) :
    TrM c f ℓ σ (execs (.Raise (some (.Call (.Name x np) [e₀] [] cpos)) none pos :: rest)) C := by
  intro A p s Q E ok rm hh H k
  refine wpAny_execs_cons ?_
  obtain ⟨tl, N, nm, qn, bs, hdct, sn, sub, ab, col, dd, k0, k1, k2, k3, k5, mN, hC, hN, hni, T⟩ := (X.own ok).obj
  refine wpAny_Raise_call_subT (C := C) (nm := nm) (q := qn) (N := N) (bs := bs) (bm := tl) (hdct := hdct) (sn := sn) (sub := sub) (ab := ab) (col := col) (dd := dd) (k0 := k0) (k1 := k1) (k2 := k2) (k3 := k3) (k5 := k5)
    PySem.F.excBase_Exception (mN := mN) (T.hasType PySem.F.excBase_Exception.hasBase) hh (backTo_any (by simp [hp])) hni ?_
  refine Name_function_global (env := f.env p) H.isFn hx (loadGlobal_global (ok.g.keeps H.good.keep) (mg_of ok.X ok.g X.name) ⟨rfl, ?_⟩) hd
  have run := evl_run (es := [e₀]) (pos := cpos) (f := f) (ℓ := ℓ) (Φ := fun vs σ₁ => σ₁ = σ ∧ vs.length ≤ 1) (by simp [hp]) (Tr.mono q fun v σ₁ e => ⟨e, by simp⟩)
  have := run A p s [] (fun vs s₂ => vs.length ≤ sizeLine ∧ KeepB c s₂.heap ∧ ∀ h' e, Heap.MadeExcOf s₂.heap h' e (.ref C) vs → E (.ref e) { s₂ with heap := h' }) E ok rm H .nil fun vs vs' σ₁ h₁ t₁ ⟨e1, hl⟩ H₁ s₁ vv => ?_
  · replace this : wpAny _ _ (spliced (backTo cpos (starEach [e₀] (f.env p)))) _ _ _ := this
    rw [starEach_plain hp] at this ⊢
    exact evalArgs_plain (wpAny_mono this (fun vs s₂ h₂ => ⟨rfl, h₂.1, h₂.2.1 _ _ hC, hN.keeps h₂.2.1, T.keeps h₂.2.1, h₂.2.2⟩) fun _ _ y => y)
  · subst e1
    refine ⟨by rw [sizeLine_eq, ← vv.length]; omega, H₁.good.keep, fun h' e hx => ?_⟩
    exact k e _ h₁ h' t₁ H₁ s₁ hx

/-- the call of a def that raises -/
theorem car_def {fa C : Addr} {name qual : Str} {params : Arguments} {body : List Stmt} {scope : Scope} {dV kV doc pm cdv ct oc : Value} {an od : Option Addr} {osl : Array (Option Value)} {as : List AV} {ab : List (Str × AV)}
    (D : IsDef c.K fa name qual params body scope dV kV doc pm cdv ct oc an od osl) (hb : Binds c (fnOf name qual params body scope dV kV doc pm an cdv ct) as [] ab) (hk : kindOk scope ab = true) (hf' : hf = true)
    (h : ∀ stk, TrM (c.on stk) ⟨qual ++ ".<locals>.", scope, some fa, cdv, d, hf⟩ (bindA ab fun _ => none) σ (execs body) C) : CaR c (d + 1) hf σ (.val (.ref fa)) as C := by
  intro A s g' xs R ok rm G vg va k
  cases vg
  refine def_enter D hb hk ok rm G va .nil _ rfl fun p h₁ tk H keep above rm' ⟨L, hL, nL⟩ => ?_
  refine h (Fn.env ⟨qual ++ ".<locals>.", scope, some fa, cdv, d, hf⟩ p :: c.stk) (A.deeper _) p { s with heap := h₁, toks := tk } _ _ ⟨ok.X, ok.g, ok.b, ok.lim, ok.bi⟩ rm' (rm'.hand hf') H fun e vs h₂ h₃ tk' H₂ st hx => ?_
  have G₂ : Good c σ h₂ := ⟨H₂.good.keep, H₂.good.obj, H₂.good.new, H₂.good.stat, H₂.good.low, fun env he => H₂.good.fr env (List.mem_cons_of_mem _ he)⟩
  have S₂ : StepC σ σ s.heap h₂ := by
    refine ⟨fun a o e hs _ => st.keep a o (keep a o e) hs fun ow => ?_, fun a e n => absurd e n, fun _ e => e⟩
    exact absurd (Heap.lt_size e) (Nat.not_lt.mpr (above a ow))
  generalize hEnv : Fn.env ⟨qual ++ ".<locals>.", scope, some fa, cdv, d, hf⟩ p = env at *
  have fsk : ∀ e' ∈ env :: c.stk, ∀ b, e'.frame = some b → b ∈ (env :: c.stk).filterMap (·.frame) := fun e' he' b hb => List.mem_filterMap.mpr ⟨e', he', hb⟩
  have fok : FsOk c σ h₂ ((env :: c.stk).filterMap (·.frame)) := by
    refine ⟨fun b hb => ?_, fun e' he' b hb => fsk e' (List.mem_cons_of_mem _ he') b hb⟩
    obtain ⟨e', he', hf''⟩ := List.mem_filterMap.mp hb
    obtain ⟨_, L', m, hL', ns, a0, b0⟩ := H₂.good.fr e' he'
    rw [hf''] at hL'; cases hL'
    exact ⟨⟨m, ns⟩, b0, a0⟩
  refine wpAny_leaves_madeW (base := hideAll h₂ ((env :: c.stk).filterMap (·.frame))) (outer := c.stk) rm'.frames hL (fun b o e => of_hideAll _ e) (H₂.good.funFrames fsk fun _ he => he) hx fun h₄ t fl _ _ up => ?_
  exact k e h₂ h₄ tk' G₂ S₂ ⟨_, _, fok, fl, (Heap.UpToSlots.of_keeps hx.keeps).trans up⟩
end
end Mine

set_option autoImplicit false
set_option maxRecDepth 100000
namespace Mine
open PySem PySem.W PySem.Calls PyProof.Rows

section
variable {c : Cx} {f : Fn} {ℓ : Locs} {σ σ' σ'' : Store} {h h' h₀ h'' h₁ : Heap} {p : Pl} {wr : List Addr} {d : Nat} {hf : Bool}

theorem trr_meth {o : Expr} {name : Str} {apos pos : Pos} {e₀ : Expr} {pl : Env → Sem Bool} {C : Addr}
    (h : Ev c f ℓ σ o fun ov σ₁ => σ₁ = σ ∧ ∃ g, MethOf c σ ov name g ∧ CalleeOk c g ∧ Ev c f ℓ σ e₀ fun a σ₂ => σ₂ = σ ∧ CaR c f.d f.hf σ (.val g) [ov, a] C)
    (hp : plainE e₀ = true := by rfl) (he : ∀ env, eval (.Call (.Attribute o name apos) [e₀] [] pos) env = (do
      let ov ← eval o env
      standAt apos.atName
      let (f, first) ← holding [ov] (getMethod ov name (pl env))
      callWith pos f first (backTo pos (starEach [e₀] env)) []) := by intro _; rfl) : TrR c f ℓ σ (eval (.Call (.Attribute o name apos) [e₀] [] pos)) C := by
  intro A p s Q E ok rm H k
  refine MethodCall_ (h A p s [] _ E ok rm H .nil fun ov ov' σ₁ h₁ t₁ ⟨e1, g, hm, hc, q₂⟩ H₁ s₁ vo => ?_) (he _)
  subst e1
  refine hm A _ ov' _ _ E ok H₁.good vo ?_
  refine callWith_of (P := KeepB c) (by rw [backTo_any (by simp [hp])]; rfl) (fun h' kp => hc.looks ok h' kp) ?_
  have run := evl_run (es := [e₀]) (pos := pos) (f := f) (ℓ := ℓ) (σ := σ₁) (Φ := fun as σ₂ => ∃ a, as = [a] ∧ σ₂ = σ₁ ∧ CaR c f.d f.hf σ₁ (.val g) [ov, a] C) (by simp [hp]) (Tr.mono q₂ fun v σ₂ e => ⟨v, rfl, e.1, e.2⟩)
  rw [starEach_plain hp] at *
  refine evalArgs_plain ?_
  have := run A p { s with heap := h₁, toks := t₁ } [] (fun vs s₂ => KeepB c s₂.heap ∧ wpAny (model c.prog c.w) A (call g ([ov'] ++ vs) []) Q E s₂) E ok rm H₁ .nil fun vs vs' σ₂ h₂ t₂ ⟨a, ea, e2, q₃⟩ H₂ s₂ vv => ?_
  · replace this : wpAny _ _ (spliced (backTo pos (starEach [e₀] (f.env p)))) _ _ _ := this
    rw [starEach_plain hp] at this; exact this
  · subst ea e2
    refine ⟨H₂.good.keep, wpAny_call (q₃ A { s with heap := h₂, toks := t₂ } g ([ov'] ++ vs') _ ok rm H₂.good (.val g) (.cons (vo.mono (s₂.tk H₁)) vv) fun e h₃ h₄ tk g₃ st fl => ?_)⟩
    exact k e h₃ h₄ tk (H₂.call st g₃) ((s₁.trans H₁ s₂).trans H₂ (.ofC st)) fl

theorem trr_assign {t e : Expr} {rest : List Stmt} {pos : Pos} {C : Addr} (q : TrR c f ℓ σ (eval e) C)
    (hs : ∀ env, swapsWithSole [t] e pos.line env = pure false := by intro _; rfl) : TrR c f ℓ σ (execs (.Assign [t] e pos :: rest)) C := by
  intro A p s Q E ok rm H k
  refine wpAny_execs_cons ?_
  show wpAny _ _ (exec (.Assign [t] e pos) (f.env p)) _ _ _
  rw [arm_exec_Assign]
  refine wpAny_bind (wpAny_standAt ?_)
  rw [hs]
  refine wpAny_bind (wpAny_pure ?_)
  rw [if_neg (by decide)]
  exact wpAny_bind (q A p s _ E ok rm H k)

/-- a try whose suite passes -/
theorem st_try {body orelse : List Stmt} {hd : ExceptHandler} {hds : List ExceptHandler} {pos : Pos} {Φ : AF → Locs → Store → Prop} (q : Ss c f ℓ σ body (SeqK c f orelse Φ)) : St c f ℓ σ (.Try body (hd :: hds) orelse [] pos) Φ := by
  intro A p s Q E ok rm H k
  show wpAny _ _ (exec (.Try body (hd :: hds) orelse [] pos) (f.env p)) _ _ _
  rw [arm_exec_Try]
  refine wpAny_bind (wpAny_standAt (wpAny_tryStmt_except ?_))
  refine q A p s _ _ ok rm H fun r fl ℓ₁ σ₁ h₁ t₁ q₁ H₁ s₁ fr => ?_
  cases fr with
  | next => exact q₁ A p _ Q E ok rm H₁ fun r fl ℓ₂ σ₂ h₂ t₂ q₂ H₂ s₂ fr => k r fl ℓ₂ σ₂ h₂ t₂ q₂ H₂ (s₁.trans H₁ s₂) fr
  | brk => exact k .brk .brk ℓ₁ σ₁ h₁ t₁ q₁ H₁ s₁ .brk
  | cont => exact k .cont .cont ℓ₁ σ₁ h₁ t₁ q₁ H₁ s₁ .cont
  | ret v => exact k (.ret _) (.ret _) ℓ₁ σ₁ h₁ t₁ q₁ H₁ s₁ (.ret v)

/-- the same place while an exception is being handled -/
noncomputable def Fn.busy (f : Fn) : Fn := { f with hf := false }
theorem Here.busy (H : Here c f ℓ σ p h) : Here c f.busy ℓ σ p h := ⟨H.good, H.isFn, H.ns, H.cell, H.cells, H.inj, H.has, H.off, H.top⟩
theorem Here.unbusy (H : Here c f.busy ℓ σ p h) : Here c f ℓ σ p h := ⟨H.good, H.isFn, H.ns, H.cell, H.cells, H.inj, H.has, H.off, H.top⟩

/-- a try whose suite raises what its clause names -/
theorem st_try_raise {x : Str} {np hpos pos : Pos} {body orelse suite : List Stmt} {b₀ : Stmt} {hds : List ExceptHandler} {C : Addr} {Φ : AF → Locs → Store → Prop} (X : ExcC c x C) (hx : f.kind x = some .globalImplicit) (hfn : f.func.isSome = true)
    (q : TrR c f ℓ σ (execs body) C) (q₂ : Ss c f.busy ℓ σ (b₀ :: suite) Φ) (hd : (x == ("__debug__" : Str)) = false := by decide) :
    St c f ℓ σ (.Try body (.ExceptHandler (some (.Name x np)) none (b₀ :: suite) hpos :: hds) orelse [] pos) Φ := by
  intro A p s Q E ok rm H k
  show wpAny _ _ (exec (.Try body (.ExceptHandler (some (.Name x np)) none (b₀ :: suite) hpos :: hds) orelse [] pos) (f.env p)) _ _ _
  rw [arm_exec_Try]
  refine wpAny_bind (wpAny_standAt (wpAny_tryStmt_except ?_))
  refine q A p s _ _ ok rm H fun e h₁ h₂ tk H₁ s₁ fl => ?_
  obtain ⟨fs, a0, fok, fly, up⟩ := fl.ex
  obtain ⟨outer, L, hstk, hL⟩ := H.top hfn
  have hfrm := rm.frames
  rw [hstk] at hfrm fly
  refine wpAny_looks_onW (s := { s with heap := h₂, toks := tk }) hfrm hL fly fun h₃ held₃ up₃ => ?_
  refine wpAny_landsW (s := { s with heap := h₃, toks := tk }) held₃ fun h₄ fly₄ up₄ => ?_
  obtain ⟨g₄, S₄⟩ := fok.flown H₁.good fly₄.1 ((up.trans up₃).trans up₄)
  have H₄ := H₁.call S₄ g₄
  obtain ⟨ob, hob, hobc⟩ := fly₄.there
  refine wpAny_handleBy_cons (codeAny_handlers_test ?_) (by intro q; cases q)
  refine Name_function_global (env := f.env p) H.isFn hx (loadGlobal_global (ok.g.keeps g₄.keep) (mg_of ok.X ok.g X.name) ?_) hd
  obtain ⟨tl, N, nm, qn, bs, hdct, sn, sub, ab, col, dd, k0, k1, k2, k3, k5, mN, hC, hN, hni, T⟩ := (X.own ok).obj
  refine wpAny_excMatches_sub_self (g₄.keep _ _ hC) hob hobc (T.hasType (by decide)) (codeAny_handlers_suite ?_)
  refine lands_againW (s := { s with heap := h₄, toks := tk }) fly₄ fun h₅ fly₅ up₅ => ?_
  obtain ⟨g₅, S₅⟩ := fok.flown H₁.good fly₅.1 (((up.trans up₃).trans up₄).trans up₅)
  have H₅ := H₁.call S₅ g₅
  refine q₂ (A.mark (some (.ref e))) p { s with heap := h₅, toks := tk } _ _ ok ⟨rm.frames, rm.depth, rm.units, fun h => by cases h⟩ H₅.busy fun r fl ℓ₆ σ₆ h₆ t₆ q₆ H₆ s₆ fr => ?_
  exact k r fl ℓ₆ σ₆ h₆ t₆ q₆ H₆.unbusy ((s₁.trans H₁ (.ofC S₅)).trans H₅ s₆) fr
end
end Mine

open PySem PySem.W PyProof.Rows
set_option Elab.async false
set_option maxRecDepth 1000000
set_option maxHeartbeats 0
set_option autoImplicit false
set_option linter.unusedVariables false
namespace Mine
noncomputable section
abbrev pg : Program := PySem.Challenge.pw_az0001_02
noncomputable def subB : Stmt → List Stmt | .FunctionDef _ _ b .. => b | .ClassDef _ _ _ b .. => b | _ => []
noncomputable def subA : Stmt → Arguments | .FunctionDef _ a .. => a | _ => ⟨[], [], none, [], [], none, []⟩
noncomputable def subS : Stmt → Scope | .FunctionDef _ _ _ _ _ _ s .. => s | .ClassDef _ _ _ _ _ _ s .. => s | _ => ⟨.module, [], false, false, []⟩
noncomputable def nth : List Stmt → Nat → Stmt | [], _ => .Pass ⟨0, 0, 0, 0⟩ | x :: _, 0 => x | _ :: r, n + 1 => nth r n
noncomputable def walkTo : List Stmt → List Nat → Stmt | _, [] => .Pass ⟨0, 0, 0, 0⟩ | b, [i] => nth b i | b, i :: r => walkTo (subB (nth b i)) r
noncomputable def fS (p : List Nat) : Stmt := walkTo pg.main.body p
noncomputable def fb (p : List Nat) : FuncBody := .stmts (subB (fS p))
noncomputable def fa (p : List Nat) : Arguments := subA (fS p)
noncomputable def fs (p : List Nat) : Scope := subS (fS p)

noncomputable def ev : Env := { scope := pg.main.scope, locals := mainNs, globals := mainNs, cells := [], code := (Value.ref 13), frame := some 14 }
noncomputable def cE : Code := .body (behindTheImports pg) ev
noncomputable def qE : Pos := ⟨0, 0, 0, 0⟩
noncomputable def annE : Option Value := (Option.some (Value.ref 6))
noncomputable def o11_0 (P : Params) : Obj := (Obj.mk (Value.type "tuple") Option.none (Data.seq #[] 0) #[])
noncomputable def o12_0 (P : Params) : Obj := (Obj.mk Value.none Option.none (Data.fields #[]) #[])
noncomputable def o13_0 (P : Params) : Obj := (Obj.mk (Value.type "code") Option.none (Data.fields #[(Value.str (Str.ofString "<module>") 182), (Value.str (Str.ofString "<module>") 183), (Value.str (Str.ofString "/claim/cut.py") 184), (Value.int 1 0), (Value.int 0 0), (Value.int 0 0), (Value.int 0 0), (Value.int 0 0), (Value.ref 11), (Value.bool Bool.false), (Value.int 181 0), (Value.ref 12), Value.none, Value.none, Value.none, Value.none, (Value.int 185 0), (Value.int 1 0), (Value.str (Str.ofString "/claim/cut.py") 186)]) #[])
noncomputable def o14_0 (P : Params) : Obj := (Obj.mk (Value.type "frame") Option.none Data.plain #[(Option.some (Value.ref 13)), (Option.some (Value.ref 3)), (Option.some (Value.ref 3)), Option.none, (Option.some (Value.str (Str.ofString "__main__") 164)), Option.none, (Option.some (Value.ref 0))])
noncomputable def lifeA : Life := (Life.mk [] [] [] 0 [] [] Bool.false #[] [] 0 Bool.false Bool.false Bool.false 0 [2000, 10, 10] Bool.false 0 Bool.true [] [] 0 Bool.false)
noncomputable def hpA (P : Params) : Heap := ⟨Array.mk [boot_o_0 P, boot_o_1 P, boot_o_2 P, boot_o_3 P, boot_o_4 P, boot_o_5 P, boot_o_6 P, boot_o_7 P, boot_o_8 P, boot_o_9 P, boot_o_10 P, o11_0 P, o12_0 P, o13_0 P, o14_0 P], lifeA⟩
noncomputable def drA : Drawn := (Drawn.mk 0 0 0 0)
noncomputable def stA (w : World) (os : OsState) : Shared := ⟨hpA w.params, #[], drA, 187, os⟩
theorem pre_go : ∀ (w : World) (os : OsState), topGo treeTable pg w 11 annE 12 ⟨boot_heap w.params, Array.mk [], boot_drawn, boot_toks, os⟩ (topStub pg) = some (stA w os, ⟨denote treeTable cE, cE, ⟨0, 0, 0, 0⟩, [topFrame qE]⟩) := by intro w os; kernel_rfl
noncomputable def tr0 (P : Params) : BT := (.node (boot_o_0 P) (.node (boot_o_1 P) (.node (boot_o_3 P) (.node (boot_o_7 P) .nil .nil) (.node (o11_0 P) .nil .nil)) (.node (boot_o_5 P) (.node (boot_o_9 P) .nil .nil) (.node (o13_0 P) .nil .nil))) (.node (boot_o_2 P) (.node (boot_o_4 P) (.node (boot_o_8 P) .nil .nil) (.node (o12_0 P) .nil .nil)) (.node (boot_o_6 P) (.node (boot_o_10 P) .nil .nil) (.node (o14_0 P) .nil .nil))))
noncomputable def lf0 : Life := (Life.mk [] [] [] 0 [] [] Bool.false #[] [] 0 Bool.false Bool.false Bool.false 0 [2000, 10, 10] Bool.false 0 Bool.true [] [] 0 Bool.false)
noncomputable def dr0 : Drawn := (Drawn.mk 0 0 0 0)
noncomputable def st0 (w : World) (os : OsState) : SharedT := ⟨tr0 w.params, 15, lf0, #[], dr0, 187, os⟩
theorem block_go : ∀ (w : World) (os : OsState), segRun treeTable pg w 11 annE 1 1 (stA w os) (blockOf (behindTheImports pg) ev cE ⟨0, 0, 0, 0⟩ [topFrame qE]) = some (.next, (st0 w os).abs, cE, ⟨0, 0, 0, 0⟩) := by intro w os; kernel_rfl

noncomputable def o2_2 (P : Params) : Obj := (Obj.mk Value.none Option.none (Data.dict #[(DictEntry.mk (PyData.keyHash P (Str.ofString "type.__subclasses__.Exception.0")) (Value.str (Str.ofString "type.__subclasses__.Exception.0") 212) (Value.int 31 0)), (DictEntry.mk (PyData.keyHash P (Str.ofString "type.__subclasses__.Exception.n")) (Value.str (Str.ofString "type.__subclasses__.Exception.n") 213) (Value.int 1 0))] 2) #[])
noncomputable def o3_2 (P : Params) : Obj := (Obj.mk (Value.type "dict") Option.none (Data.dict #[(DictEntry.mk (PyData.keyHash P (Str.ofString "__name__")) (Value.str (Str.ofString "__name__") 165) (Value.str (Str.ofString "doit.dependency") 194)), (DictEntry.mk (PyData.keyHash P (Str.ofString "__doc__")) (Value.str (Str.ofString "__doc__") 166) Value.none), (DictEntry.mk (PyData.keyHash P (Str.ofString "__package__")) (Value.str (Str.ofString "__package__") 167) Value.none), (DictEntry.mk (PyData.keyHash P (Str.ofString "__loader__")) (Value.str (Str.ofString "__loader__") 168) (Value.builtin "__main__.__loader__#opaque")), (DictEntry.mk (PyData.keyHash P (Str.ofString "__spec__")) (Value.str (Str.ofString "__spec__") 169) Value.none), (DictEntry.mk (PyData.keyHash P (Str.ofString "__annotations__")) (Value.str (Str.ofString "__annotations__") 170) (Value.ref 6)), (DictEntry.mk (PyData.keyHash P (Str.ofString "__builtins__")) (Value.str (Str.ofString "__builtins__") 171) (Value.ref 4)), (DictEntry.mk (PyData.keyHash P (Str.ofString "__file__")) (Value.str (Str.ofString "__file__") 173) (Value.str (Str.ofString "/claim/cut.py") 172)), (DictEntry.mk (PyData.keyHash P (Str.ofString "__cached__")) (Value.str (Str.ofString "__cached__") 174) Value.none), (DictEntry.mk (PyData.keyHash P (Str.ofString "_wall")) (Value.str (Str.ofString "_wall") 193) (Value.ref 21)), (DictEntry.mk (PyData.keyHash P (Str.ofString "MissingFile")) (Value.str (Str.ofString "MissingFile") 215) (Value.ref 31)), (DictEntry.mk (PyData.keyHash P (Str.ofString "get_md5")) (Value.str (Str.ofString "get_md5") 222) (Value.ref 41)), (DictEntry.mk (PyData.keyHash P (Str.ofString "JsonDB")) (Value.str (Str.ofString "JsonDB") 300) (Value.ref 100))] 13) #[])
noncomputable def o12_2 (P : Params) : Obj := (Obj.mk Value.none Option.none (Data.fields #[(Value.int 1 0), (Value.int 0 0), (Value.ref 20), (Value.int 5 0), (Value.int 0 0), (Value.ref 27), (Value.int 7 0), (Value.int 0 0), (Value.ref 40), (Value.int 9 0), (Value.int 0 0), (Value.ref 47)]) #[])
noncomputable def o15_2 (P : Params) : Obj := (Obj.mk (Value.type "tuple") Option.none (Data.seq #[] 0) #[])
noncomputable def o16_2 (P : Params) : Obj := (Obj.mk Value.none Option.none (Data.fields #[]) #[])
noncomputable def o17_2 (P : Params) : Obj := (Obj.mk (Value.type "tuple") Option.none (Data.seq #[(Value.str (Str.ofString "k") 190)] 0) #[])
noncomputable def o18_2 (P : Params) : Obj := (Obj.mk (Value.type "tuple") Option.none (Data.seq #[] 0) #[])
noncomputable def o19_2 (P : Params) : Obj := (Obj.mk Value.none Option.none (Data.func (FuncData.mk (Str.ofString "_wall") (Str.ofString "_wall") (fa [0]) (fb [0]) (fs [0]) 0 [] Value.none Value.none Value.none Value.none Option.none Value.none Value.none 0)) #[])
noncomputable def o20_2 (P : Params) : Obj := (Obj.mk (Value.type "code") Option.none (Data.fields #[(Value.str (Str.ofString "_wall") 187), (Value.str (Str.ofString "_wall") 188), (Value.str (Str.ofString "/claim/cut.py") 189), (Value.int 1 0), (Value.int 1 0), (Value.int 0 0), (Value.int 0 0), (Value.int 3 0), (Value.ref 15), (Value.bool Bool.true), (Value.int 181 0), (Value.ref 16), Value.none, (Value.ref 17), (Value.ref 18), (Value.ref 19), (Value.int 191 0), (Value.int 1 0), (Value.str (Str.ofString "/claim/cut.py") 192)]) #[])
noncomputable def o21_2 (P : Params) : Obj := (Obj.mk (Value.type "function") Option.none (Data.func (FuncData.mk (Str.ofString "_wall") (Str.ofString "_wall") (fa [0]) (fb [0]) (fs [0]) 3 [] Value.none Value.none Value.none (Value.str (Str.ofString "__main__") 164) Option.none (Value.ref 20) Value.none 0)) #[])
noncomputable def o22_2 (P : Params) : Obj := (Obj.mk (Value.type "tuple") Option.none (Data.seq #[(Value.type "Exception")] 0) #[])
noncomputable def o23_2 (P : Params) : Obj := (Obj.mk (Value.type "builtin_function_or_method") Option.none (Data.fields #[(Value.builtin "type.__prepare__"), (Value.type "type")]) #[])
noncomputable def o24_2 (P : Params) : Obj := (Obj.mk (Value.type "dict") Option.none (Data.dict #[(DictEntry.mk (PyData.keyHash P (Str.ofString "__module__")) (Value.str (Str.ofString "__module__") 203) (Value.str (Str.ofString "doit.dependency") 194)), (DictEntry.mk (PyData.keyHash P (Str.ofString "__qualname__")) (Value.str (Str.ofString "__qualname__") 205) (Value.str (Str.ofString "MissingFile") 204)), (DictEntry.mk (PyData.keyHash P (Str.ofString "__firstlineno__")) (Value.str (Str.ofString "__firstlineno__") 207) (Value.int 5 206)), (DictEntry.mk (PyData.keyHash P (Str.ofString "__static_attributes__")) (Value.str (Str.ofString "__static_attributes__") 208) (Value.ref 29))] 4) #[])
noncomputable def o25_2 (P : Params) : Obj := (Obj.mk (Value.type "tuple") Option.none (Data.seq #[] 0) #[])
noncomputable def o26_2 (P : Params) : Obj := (Obj.mk Value.none Option.none (Data.fields #[]) #[])
noncomputable def o27_2 (P : Params) : Obj := (Obj.mk (Value.type "code") Option.none (Data.fields #[(Value.str (Str.ofString "MissingFile") 198), (Value.str (Str.ofString "MissingFile") 199), (Value.str (Str.ofString "/claim/cut.py") 200), (Value.int 5 0), (Value.int 0 0), (Value.int 0 0), (Value.int 0 0), (Value.int 0 0), (Value.ref 25), (Value.bool Bool.false), (Value.int 181 0), (Value.ref 26), Value.none, Value.none, Value.none, Value.none, (Value.int 201 0), (Value.int 5 0), (Value.str (Str.ofString "/claim/cut.py") 202)]) #[])
noncomputable def o28_2 (P : Params) : Obj := (Obj.mk (Value.type "frame") Option.none Data.plain #[(Option.some (Value.ref 27)), (Option.some (Value.ref 3)), (Option.some (Value.ref 24)), Option.none, (Option.some (Value.str (Str.ofString "doit.dependency") 194)), Option.none, (Option.some (Value.ref 0))])
noncomputable def o29_2 (P : Params) : Obj := (Obj.mk (Value.type "tuple") Option.none (Data.seq #[] 0) #[])
noncomputable def o30_2 (P : Params) : Obj := (Obj.mk (Value.type "dict") Option.none (Data.dict #[(DictEntry.mk (PyData.keyHash P (Str.ofString "__module__")) (Value.str (Str.ofString "__module__") 203) (Value.str (Str.ofString "doit.dependency") 194)), (DictEntry.mk (PyData.keyHash P (Str.ofString "__firstlineno__")) (Value.str (Str.ofString "__firstlineno__") 207) (Value.int 5 206)), (DictEntry.mk (PyData.keyHash P (Str.ofString "__static_attributes__")) (Value.str (Str.ofString "__static_attributes__") 208) (Value.ref 29)), (DictEntry.mk (PyData.keyHash P (Str.ofString "__weakref__")) (Value.str (Str.ofString "__weakref__") 210) (Value.ref 32)), (DictEntry.mk (PyData.keyHash P (Str.ofString "__doc__")) (Value.str (Str.ofString "__doc__") 211) Value.none)] 3) #[])
noncomputable def o31_2 (P : Params) : Obj := (Obj.mk (Value.type "type") Option.none (Data.cls (ClassData.mk (Str.ofString "MissingFile") [(Value.type "Exception")] [(Value.ref 31), (Value.type "Exception"), (Value.type "BaseException"), (Value.type "object")] 30 (Str.ofString "MissingFile") Bool.true [] [] Bool.false Option.none Bool.false)) #[(Option.some (Value.ref 22)), Option.none, (Option.some (Value.str (Str.ofString "MissingFile") 196)), (Option.some (Value.str (Str.ofString "MissingFile") 204)), (Option.some (Value.builtin "Exception.__new__")), (Option.some (Value.bool Bool.true))])
noncomputable def o32_2 (P : Params) : Obj := (Obj.mk (Value.type "getset_descriptor") Option.none (Data.fields #[(Value.str (Str.ofString "__weakref__") 209), (Value.ref 31), (Value.builtin "ExceptionGroup.__weakref__"), Value.none]) #[])
noncomputable def o33_2 (P : Params) : Obj := (Obj.mk (Value.type "super") Option.none (Data.fields #[(Value.ref 31), (Value.ref 31), (Value.ref 31)]) #[])
noncomputable def o34_2 (P : Params) : Obj := (Obj.mk (Value.type "builtin_function_or_method") Option.none (Data.fields #[(Value.builtin "object.__init_subclass__"), (Value.ref 31)]) #[])
noncomputable def o35_2 (P : Params) : Obj := (Obj.mk (Value.type "tuple") Option.none (Data.seq #[] 0) #[])
noncomputable def o36_2 (P : Params) : Obj := (Obj.mk Value.none Option.none (Data.fields #[]) #[])
noncomputable def o37_2 (P : Params) : Obj := (Obj.mk (Value.type "tuple") Option.none (Data.seq #[(Value.str (Str.ofString "input_data") 219)] 0) #[])
noncomputable def o38_2 (P : Params) : Obj := (Obj.mk (Value.type "tuple") Option.none (Data.seq #[] 0) #[])
noncomputable def o39_2 (P : Params) : Obj := (Obj.mk Value.none Option.none (Data.func (FuncData.mk (Str.ofString "get_md5") (Str.ofString "get_md5") (fa [3]) (fb [3]) (fs [3]) 0 [] Value.none Value.none Value.none Value.none Option.none Value.none Value.none 0)) #[])
noncomputable def o40_2 (P : Params) : Obj := (Obj.mk (Value.type "code") Option.none (Data.fields #[(Value.str (Str.ofString "get_md5") 216), (Value.str (Str.ofString "get_md5") 217), (Value.str (Str.ofString "/claim/cut.py") 218), (Value.int 7 0), (Value.int 1 0), (Value.int 0 0), (Value.int 0 0), (Value.int 3 0), (Value.ref 35), (Value.bool Bool.true), (Value.int 181 0), (Value.ref 36), Value.none, (Value.ref 37), (Value.ref 38), (Value.ref 39), (Value.int 220 0), (Value.int 7 0), (Value.str (Str.ofString "/claim/cut.py") 221)]) #[])
noncomputable def o41_2 (P : Params) : Obj := (Obj.mk (Value.type "function") Option.none (Data.func (FuncData.mk (Str.ofString "get_md5") (Str.ofString "get_md5") (fa [3]) (fb [3]) (fs [3]) 3 [] Value.none Value.none Value.none (Value.str (Str.ofString "doit.dependency") 194) Option.none (Value.ref 40) Value.none 0)) #[])
noncomputable def o42_2 (P : Params) : Obj := (Obj.mk (Value.type "tuple") Option.none (Data.seq #[] 0) #[])
noncomputable def o43_2 (P : Params) : Obj := (Obj.mk (Value.type "builtin_function_or_method") Option.none (Data.fields #[(Value.builtin "type.__prepare__"), (Value.type "type")]) #[])
noncomputable def o44_2 (P : Params) : Obj := (Obj.mk (Value.type "dict") Option.none (Data.dict #[(DictEntry.mk (PyData.keyHash P (Str.ofString "__module__")) (Value.str (Str.ofString "__module__") 230) (Value.str (Str.ofString "doit.dependency") 194)), (DictEntry.mk (PyData.keyHash P (Str.ofString "__qualname__")) (Value.str (Str.ofString "__qualname__") 232) (Value.str (Str.ofString "JsonDB") 231)), (DictEntry.mk (PyData.keyHash P (Str.ofString "__firstlineno__")) (Value.str (Str.ofString "__firstlineno__") 234) (Value.int 9 233)), (DictEntry.mk (PyData.keyHash P (Str.ofString "__init__")) (Value.str (Str.ofString "__init__") 242) (Value.ref 55)), (DictEntry.mk (PyData.keyHash P (Str.ofString "dump")) (Value.str (Str.ofString "dump") 249) (Value.ref 62)), (DictEntry.mk (PyData.keyHash P (Str.ofString "set")) (Value.str (Str.ofString "set") 259) (Value.ref 69)), (DictEntry.mk (PyData.keyHash P (Str.ofString "get")) (Value.str (Str.ofString "get") 268) (Value.ref 76)), (DictEntry.mk (PyData.keyHash P (Str.ofString "in_")) (Value.str (Str.ofString "in_") 276) (Value.ref 83)), (DictEntry.mk (PyData.keyHash P (Str.ofString "remove")) (Value.str (Str.ofString "remove") 284) (Value.ref 90)), (DictEntry.mk (PyData.keyHash P (Str.ofString "remove_all")) (Value.str (Str.ofString "remove_all") 291) (Value.ref 97)), (DictEntry.mk (PyData.keyHash P (Str.ofString "__static_attributes__")) (Value.str (Str.ofString "__static_attributes__") 293) (Value.ref 98))] 11) #[])
noncomputable def o45_2 (P : Params) : Obj := (Obj.mk (Value.type "tuple") Option.none (Data.seq #[] 0) #[])
noncomputable def o46_2 (P : Params) : Obj := (Obj.mk Value.none Option.none (Data.fields #[(Value.int 11 0), (Value.int 4 0), (Value.ref 54), (Value.int 14 0), (Value.int 4 0), (Value.ref 61), (Value.int 17 0), (Value.int 4 0), (Value.ref 68), (Value.int 22 0), (Value.int 4 0), (Value.ref 75), (Value.int 26 0), (Value.int 4 0), (Value.ref 82), (Value.int 29 0), (Value.int 4 0), (Value.ref 89), (Value.int 33 0), (Value.int 4 0), (Value.ref 96)]) #[])
noncomputable def o47_2 (P : Params) : Obj := (Obj.mk (Value.type "code") Option.none (Data.fields #[(Value.str (Str.ofString "JsonDB") 225), (Value.str (Str.ofString "JsonDB") 226), (Value.str (Str.ofString "/claim/cut.py") 227), (Value.int 9 0), (Value.int 0 0), (Value.int 0 0), (Value.int 0 0), (Value.int 0 0), (Value.ref 45), (Value.bool Bool.false), (Value.int 181 0), (Value.ref 46), Value.none, Value.none, Value.none, Value.none, (Value.int 228 0), (Value.int 9 0), (Value.str (Str.ofString "/claim/cut.py") 229)]) #[])
noncomputable def o48_2 (P : Params) : Obj := (Obj.mk (Value.type "frame") Option.none Data.plain #[(Option.some (Value.ref 47)), (Option.some (Value.ref 3)), (Option.some (Value.ref 44)), Option.none, (Option.some (Value.str (Str.ofString "doit.dependency") 194)), Option.none, (Option.some (Value.ref 0))])
noncomputable def o49_2 (P : Params) : Obj := (Obj.mk (Value.type "tuple") Option.none (Data.seq #[] 0) #[])
noncomputable def o50_2 (P : Params) : Obj := (Obj.mk Value.none Option.none (Data.fields #[]) #[])
noncomputable def o51_2 (P : Params) : Obj := (Obj.mk (Value.type "tuple") Option.none (Data.seq #[(Value.str (Str.ofString "self") 238), (Value.str (Str.ofString "db") 239)] 0) #[])
noncomputable def o52_2 (P : Params) : Obj := (Obj.mk (Value.type "tuple") Option.none (Data.seq #[] 0) #[])
noncomputable def o53_2 (P : Params) : Obj := (Obj.mk Value.none Option.none (Data.func (FuncData.mk (Str.ofString "__init__") (Str.ofString "JsonDB.__init__") (fa [4, 0]) (fb [4, 0]) (fs [4, 0]) 0 [] Value.none Value.none Value.none Value.none Option.none Value.none Value.none 0)) #[])
noncomputable def o54_2 (P : Params) : Obj := (Obj.mk (Value.type "code") Option.none (Data.fields #[(Value.str (Str.ofString "__init__") 235), (Value.str (Str.ofString "JsonDB.__init__") 236), (Value.str (Str.ofString "/claim/cut.py") 237), (Value.int 11 0), (Value.int 2 0), (Value.int 0 0), (Value.int 0 0), (Value.int 3 0), (Value.ref 49), (Value.bool Bool.true), (Value.int 181 0), (Value.ref 50), Value.none, (Value.ref 51), (Value.ref 52), (Value.ref 53), (Value.int 240 0), (Value.int 11 0), (Value.str (Str.ofString "/claim/cut.py") 241)]) #[])
noncomputable def o55_2 (P : Params) : Obj := (Obj.mk (Value.type "function") Option.none (Data.func (FuncData.mk (Str.ofString "__init__") (Str.ofString "JsonDB.__init__") (fa [4, 0]) (fb [4, 0]) (fs [4, 0]) 3 [] Value.none Value.none Value.none (Value.str (Str.ofString "doit.dependency") 194) Option.none (Value.ref 54) Value.none 0)) #[])
noncomputable def o56_2 (P : Params) : Obj := (Obj.mk (Value.type "tuple") Option.none (Data.seq #[] 0) #[])
noncomputable def o57_2 (P : Params) : Obj := (Obj.mk Value.none Option.none (Data.fields #[]) #[])
noncomputable def o58_2 (P : Params) : Obj := (Obj.mk (Value.type "tuple") Option.none (Data.seq #[(Value.str (Str.ofString "self") 246)] 0) #[])
noncomputable def o59_2 (P : Params) : Obj := (Obj.mk (Value.type "tuple") Option.none (Data.seq #[] 0) #[])
noncomputable def o60_2 (P : Params) : Obj := (Obj.mk Value.none Option.none (Data.func (FuncData.mk (Str.ofString "dump") (Str.ofString "JsonDB.dump") (fa [4, 1]) (fb [4, 1]) (fs [4, 1]) 0 [] Value.none Value.none Value.none Value.none Option.none Value.none Value.none 0)) #[])
noncomputable def o61_2 (P : Params) : Obj := (Obj.mk (Value.type "code") Option.none (Data.fields #[(Value.str (Str.ofString "dump") 243), (Value.str (Str.ofString "JsonDB.dump") 244), (Value.str (Str.ofString "/claim/cut.py") 245), (Value.int 14 0), (Value.int 1 0), (Value.int 0 0), (Value.int 0 0), (Value.int 3 0), (Value.ref 56), (Value.bool Bool.true), (Value.int 181 0), (Value.ref 57), Value.none, (Value.ref 58), (Value.ref 59), (Value.ref 60), (Value.int 247 0), (Value.int 14 0), (Value.str (Str.ofString "/claim/cut.py") 248)]) #[])
noncomputable def o62_2 (P : Params) : Obj := (Obj.mk (Value.type "function") Option.none (Data.func (FuncData.mk (Str.ofString "dump") (Str.ofString "JsonDB.dump") (fa [4, 1]) (fb [4, 1]) (fs [4, 1]) 3 [] Value.none Value.none Value.none (Value.str (Str.ofString "doit.dependency") 194) Option.none (Value.ref 61) Value.none 0)) #[])
noncomputable def o63_2 (P : Params) : Obj := (Obj.mk (Value.type "tuple") Option.none (Data.seq #[] 0) #[])
noncomputable def o64_2 (P : Params) : Obj := (Obj.mk Value.none Option.none (Data.fields #[]) #[])
noncomputable def o65_2 (P : Params) : Obj := (Obj.mk (Value.type "tuple") Option.none (Data.seq #[(Value.str (Str.ofString "self") 253), (Value.str (Str.ofString "task_id") 254), (Value.str (Str.ofString "dependency") 255), (Value.str (Str.ofString "value") 256)] 0) #[])
noncomputable def o66_2 (P : Params) : Obj := (Obj.mk (Value.type "tuple") Option.none (Data.seq #[] 0) #[])
noncomputable def o67_2 (P : Params) : Obj := (Obj.mk Value.none Option.none (Data.func (FuncData.mk (Str.ofString "set") (Str.ofString "JsonDB.set") (fa [4, 2]) (fb [4, 2]) (fs [4, 2]) 0 [] Value.none Value.none Value.none Value.none Option.none Value.none Value.none 0)) #[])
noncomputable def o68_2 (P : Params) : Obj := (Obj.mk (Value.type "code") Option.none (Data.fields #[(Value.str (Str.ofString "set") 250), (Value.str (Str.ofString "JsonDB.set") 251), (Value.str (Str.ofString "/claim/cut.py") 252), (Value.int 17 0), (Value.int 4 0), (Value.int 0 0), (Value.int 0 0), (Value.int 3 0), (Value.ref 63), (Value.bool Bool.true), (Value.int 181 0), (Value.ref 64), Value.none, (Value.ref 65), (Value.ref 66), (Value.ref 67), (Value.int 257 0), (Value.int 17 0), (Value.str (Str.ofString "/claim/cut.py") 258)]) #[])
noncomputable def o69_2 (P : Params) : Obj := (Obj.mk (Value.type "function") Option.none (Data.func (FuncData.mk (Str.ofString "set") (Str.ofString "JsonDB.set") (fa [4, 2]) (fb [4, 2]) (fs [4, 2]) 3 [] Value.none Value.none Value.none (Value.str (Str.ofString "doit.dependency") 194) Option.none (Value.ref 68) Value.none 0)) #[])
noncomputable def o70_2 (P : Params) : Obj := (Obj.mk (Value.type "tuple") Option.none (Data.seq #[] 0) #[])
noncomputable def o71_2 (P : Params) : Obj := (Obj.mk Value.none Option.none (Data.fields #[]) #[])
noncomputable def o72_2 (P : Params) : Obj := (Obj.mk (Value.type "tuple") Option.none (Data.seq #[(Value.str (Str.ofString "self") 263), (Value.str (Str.ofString "task_id") 264), (Value.str (Str.ofString "dependency") 265)] 0) #[])
noncomputable def o73_2 (P : Params) : Obj := (Obj.mk (Value.type "tuple") Option.none (Data.seq #[] 0) #[])
noncomputable def o74_2 (P : Params) : Obj := (Obj.mk Value.none Option.none (Data.func (FuncData.mk (Str.ofString "get") (Str.ofString "JsonDB.get") (fa [4, 3]) (fb [4, 3]) (fs [4, 3]) 0 [] Value.none Value.none Value.none Value.none Option.none Value.none Value.none 0)) #[])
noncomputable def o75_2 (P : Params) : Obj := (Obj.mk (Value.type "code") Option.none (Data.fields #[(Value.str (Str.ofString "get") 260), (Value.str (Str.ofString "JsonDB.get") 261), (Value.str (Str.ofString "/claim/cut.py") 262), (Value.int 22 0), (Value.int 3 0), (Value.int 0 0), (Value.int 0 0), (Value.int 3 0), (Value.ref 70), (Value.bool Bool.true), (Value.int 181 0), (Value.ref 71), Value.none, (Value.ref 72), (Value.ref 73), (Value.ref 74), (Value.int 266 0), (Value.int 22 0), (Value.str (Str.ofString "/claim/cut.py") 267)]) #[])
noncomputable def o76_2 (P : Params) : Obj := (Obj.mk (Value.type "function") Option.none (Data.func (FuncData.mk (Str.ofString "get") (Str.ofString "JsonDB.get") (fa [4, 3]) (fb [4, 3]) (fs [4, 3]) 3 [] Value.none Value.none Value.none (Value.str (Str.ofString "doit.dependency") 194) Option.none (Value.ref 75) Value.none 0)) #[])
noncomputable def o77_2 (P : Params) : Obj := (Obj.mk (Value.type "tuple") Option.none (Data.seq #[] 0) #[])
noncomputable def o78_2 (P : Params) : Obj := (Obj.mk Value.none Option.none (Data.fields #[]) #[])
noncomputable def o79_2 (P : Params) : Obj := (Obj.mk (Value.type "tuple") Option.none (Data.seq #[(Value.str (Str.ofString "self") 272), (Value.str (Str.ofString "task_id") 273)] 0) #[])
noncomputable def o80_2 (P : Params) : Obj := (Obj.mk (Value.type "tuple") Option.none (Data.seq #[] 0) #[])
noncomputable def o81_2 (P : Params) : Obj := (Obj.mk Value.none Option.none (Data.func (FuncData.mk (Str.ofString "in_") (Str.ofString "JsonDB.in_") (fa [4, 4]) (fb [4, 4]) (fs [4, 4]) 0 [] Value.none Value.none Value.none Value.none Option.none Value.none Value.none 0)) #[])
noncomputable def o82_2 (P : Params) : Obj := (Obj.mk (Value.type "code") Option.none (Data.fields #[(Value.str (Str.ofString "in_") 269), (Value.str (Str.ofString "JsonDB.in_") 270), (Value.str (Str.ofString "/claim/cut.py") 271), (Value.int 26 0), (Value.int 2 0), (Value.int 0 0), (Value.int 0 0), (Value.int 3 0), (Value.ref 77), (Value.bool Bool.true), (Value.int 181 0), (Value.ref 78), Value.none, (Value.ref 79), (Value.ref 80), (Value.ref 81), (Value.int 274 0), (Value.int 26 0), (Value.str (Str.ofString "/claim/cut.py") 275)]) #[])
noncomputable def o83_2 (P : Params) : Obj := (Obj.mk (Value.type "function") Option.none (Data.func (FuncData.mk (Str.ofString "in_") (Str.ofString "JsonDB.in_") (fa [4, 4]) (fb [4, 4]) (fs [4, 4]) 3 [] Value.none Value.none Value.none (Value.str (Str.ofString "doit.dependency") 194) Option.none (Value.ref 82) Value.none 0)) #[])
noncomputable def o84_2 (P : Params) : Obj := (Obj.mk (Value.type "tuple") Option.none (Data.seq #[] 0) #[])
noncomputable def o85_2 (P : Params) : Obj := (Obj.mk Value.none Option.none (Data.fields #[]) #[])
noncomputable def o86_2 (P : Params) : Obj := (Obj.mk (Value.type "tuple") Option.none (Data.seq #[(Value.str (Str.ofString "self") 280), (Value.str (Str.ofString "task_id") 281)] 0) #[])
noncomputable def o87_2 (P : Params) : Obj := (Obj.mk (Value.type "tuple") Option.none (Data.seq #[] 0) #[])
noncomputable def o88_2 (P : Params) : Obj := (Obj.mk Value.none Option.none (Data.func (FuncData.mk (Str.ofString "remove") (Str.ofString "JsonDB.remove") (fa [4, 5]) (fb [4, 5]) (fs [4, 5]) 0 [] Value.none Value.none Value.none Value.none Option.none Value.none Value.none 0)) #[])
noncomputable def o89_2 (P : Params) : Obj := (Obj.mk (Value.type "code") Option.none (Data.fields #[(Value.str (Str.ofString "remove") 277), (Value.str (Str.ofString "JsonDB.remove") 278), (Value.str (Str.ofString "/claim/cut.py") 279), (Value.int 29 0), (Value.int 2 0), (Value.int 0 0), (Value.int 0 0), (Value.int 3 0), (Value.ref 84), (Value.bool Bool.true), (Value.int 181 0), (Value.ref 85), Value.none, (Value.ref 86), (Value.ref 87), (Value.ref 88), (Value.int 282 0), (Value.int 29 0), (Value.str (Str.ofString "/claim/cut.py") 283)]) #[])
noncomputable def o90_2 (P : Params) : Obj := (Obj.mk (Value.type "function") Option.none (Data.func (FuncData.mk (Str.ofString "remove") (Str.ofString "JsonDB.remove") (fa [4, 5]) (fb [4, 5]) (fs [4, 5]) 3 [] Value.none Value.none Value.none (Value.str (Str.ofString "doit.dependency") 194) Option.none (Value.ref 89) Value.none 0)) #[])
noncomputable def o91_2 (P : Params) : Obj := (Obj.mk (Value.type "tuple") Option.none (Data.seq #[] 0) #[])
noncomputable def o92_2 (P : Params) : Obj := (Obj.mk Value.none Option.none (Data.fields #[]) #[])
noncomputable def o93_2 (P : Params) : Obj := (Obj.mk (Value.type "tuple") Option.none (Data.seq #[(Value.str (Str.ofString "self") 288)] 0) #[])
noncomputable def o94_2 (P : Params) : Obj := (Obj.mk (Value.type "tuple") Option.none (Data.seq #[] 0) #[])
noncomputable def o95_2 (P : Params) : Obj := (Obj.mk Value.none Option.none (Data.func (FuncData.mk (Str.ofString "remove_all") (Str.ofString "JsonDB.remove_all") (fa [4, 6]) (fb [4, 6]) (fs [4, 6]) 0 [] Value.none Value.none Value.none Value.none Option.none Value.none Value.none 0)) #[])
noncomputable def o96_2 (P : Params) : Obj := (Obj.mk (Value.type "code") Option.none (Data.fields #[(Value.str (Str.ofString "remove_all") 285), (Value.str (Str.ofString "JsonDB.remove_all") 286), (Value.str (Str.ofString "/claim/cut.py") 287), (Value.int 33 0), (Value.int 1 0), (Value.int 0 0), (Value.int 0 0), (Value.int 3 0), (Value.ref 91), (Value.bool Bool.true), (Value.int 181 0), (Value.ref 92), Value.none, (Value.ref 93), (Value.ref 94), (Value.ref 95), (Value.int 289 0), (Value.int 33 0), (Value.str (Str.ofString "/claim/cut.py") 290)]) #[])
noncomputable def o97_2 (P : Params) : Obj := (Obj.mk (Value.type "function") Option.none (Data.func (FuncData.mk (Str.ofString "remove_all") (Str.ofString "JsonDB.remove_all") (fa [4, 6]) (fb [4, 6]) (fs [4, 6]) 3 [] Value.none Value.none Value.none (Value.str (Str.ofString "doit.dependency") 194) Option.none (Value.ref 96) Value.none 0)) #[])
noncomputable def o98_2 (P : Params) : Obj := (Obj.mk (Value.type "tuple") Option.none (Data.seq #[(Value.str (Str.ofString "_db") 292)] 0) #[])
noncomputable def o99_2 (P : Params) : Obj := (Obj.mk (Value.type "dict") Option.none (Data.dict #[(DictEntry.mk (PyData.keyHash P (Str.ofString "__module__")) (Value.str (Str.ofString "__module__") 230) (Value.str (Str.ofString "doit.dependency") 194)), (DictEntry.mk (PyData.keyHash P (Str.ofString "__firstlineno__")) (Value.str (Str.ofString "__firstlineno__") 234) (Value.int 9 233)), (DictEntry.mk (PyData.keyHash P (Str.ofString "__init__")) (Value.str (Str.ofString "__init__") 242) (Value.ref 55)), (DictEntry.mk (PyData.keyHash P (Str.ofString "dump")) (Value.str (Str.ofString "dump") 249) (Value.ref 62)), (DictEntry.mk (PyData.keyHash P (Str.ofString "set")) (Value.str (Str.ofString "set") 259) (Value.ref 69)), (DictEntry.mk (PyData.keyHash P (Str.ofString "get")) (Value.str (Str.ofString "get") 268) (Value.ref 76)), (DictEntry.mk (PyData.keyHash P (Str.ofString "in_")) (Value.str (Str.ofString "in_") 276) (Value.ref 83)), (DictEntry.mk (PyData.keyHash P (Str.ofString "remove")) (Value.str (Str.ofString "remove") 284) (Value.ref 90)), (DictEntry.mk (PyData.keyHash P (Str.ofString "remove_all")) (Value.str (Str.ofString "remove_all") 291) (Value.ref 97)), (DictEntry.mk (PyData.keyHash P (Str.ofString "__static_attributes__")) (Value.str (Str.ofString "__static_attributes__") 293) (Value.ref 98)), (DictEntry.mk (PyData.keyHash P (Str.ofString "__dict__")) (Value.str (Str.ofString "__dict__") 295) (Value.ref 101)), (DictEntry.mk (PyData.keyHash P (Str.ofString "__weakref__")) (Value.str (Str.ofString "__weakref__") 297) (Value.ref 102)), (DictEntry.mk (PyData.keyHash P (Str.ofString "__doc__")) (Value.str (Str.ofString "__doc__") 298) Value.none)] 4) #[])
noncomputable def o100_2 (P : Params) : Obj := (Obj.mk (Value.type "type") Option.none (Data.cls (ClassData.mk (Str.ofString "JsonDB") [(Value.type "object")] [(Value.ref 100), (Value.type "object")] 99 (Str.ofString "JsonDB") Bool.true [] [] Bool.false Option.none Bool.false)) #[Option.none, Option.none, (Option.some (Value.str (Str.ofString "JsonDB") 223)), (Option.some (Value.str (Str.ofString "JsonDB") 231)), (Option.some (Value.builtin "object.__new__")), (Option.some (Value.bool Bool.true))])
noncomputable def o101_2 (P : Params) : Obj := (Obj.mk (Value.type "getset_descriptor") Option.none (Data.fields #[(Value.str (Str.ofString "__dict__") 294), (Value.ref 100), (Value.builtin "function.__dict__"), (Value.builtin "function.__dict__#set")]) #[])
noncomputable def o102_2 (P : Params) : Obj := (Obj.mk (Value.type "getset_descriptor") Option.none (Data.fields #[(Value.str (Str.ofString "__weakref__") 296), (Value.ref 100), (Value.builtin "ExceptionGroup.__weakref__"), Value.none]) #[])
noncomputable def o103_2 (P : Params) : Obj := (Obj.mk (Value.type "super") Option.none (Data.fields #[(Value.ref 100), (Value.ref 100), (Value.ref 100)]) #[])
noncomputable def o104_2 (P : Params) : Obj := (Obj.mk (Value.type "builtin_function_or_method") Option.none (Data.fields #[(Value.builtin "object.__init_subclass__"), (Value.ref 100)]) #[])
noncomputable def tr1 (P : Params) : BT := (.node (boot_o_0 P) (.node (boot_o_1 P) (.node (o3_2 P) (.node (boot_o_7 P) (.node (o15_2 P) (.node (o31_2 P) (.node (o63_2 P) .nil .nil) (.node (o95_2 P) .nil .nil)) (.node (o47_2 P) (.node (o79_2 P) .nil .nil) .nil)) (.node (o23_2 P) (.node (o39_2 P) (.node (o71_2 P) .nil .nil) (.node (o103_2 P) .nil .nil)) (.node (o55_2 P) (.node (o87_2 P) .nil .nil) .nil))) (.node (o11_0 P) (.node (o19_2 P) (.node (o35_2 P) (.node (o67_2 P) .nil .nil) (.node (o99_2 P) .nil .nil)) (.node (o51_2 P) (.node (o83_2 P) .nil .nil) .nil)) (.node (o27_2 P) (.node (o43_2 P) (.node (o75_2 P) .nil .nil) .nil) (.node (o59_2 P) (.node (o91_2 P) .nil .nil) .nil)))) (.node (boot_o_5 P) (.node (boot_o_9 P) (.node (o17_2 P) (.node (o33_2 P) (.node (o65_2 P) .nil .nil) (.node (o97_2 P) .nil .nil)) (.node (o49_2 P) (.node (o81_2 P) .nil .nil) .nil)) (.node (o25_2 P) (.node (o41_2 P) (.node (o73_2 P) .nil .nil) .nil) (.node (o57_2 P) (.node (o89_2 P) .nil .nil) .nil))) (.node (o13_0 P) (.node (o21_2 P) (.node (o37_2 P) (.node (o69_2 P) .nil .nil) (.node (o101_2 P) .nil .nil)) (.node (o53_2 P) (.node (o85_2 P) .nil .nil) .nil)) (.node (o29_2 P) (.node (o45_2 P) (.node (o77_2 P) .nil .nil) .nil) (.node (o61_2 P) (.node (o93_2 P) .nil .nil) .nil))))) (.node (o2_2 P) (.node (boot_o_4 P) (.node (boot_o_8 P) (.node (o16_2 P) (.node (o32_2 P) (.node (o64_2 P) .nil .nil) (.node (o96_2 P) .nil .nil)) (.node (o48_2 P) (.node (o80_2 P) .nil .nil) .nil)) (.node (o24_2 P) (.node (o40_2 P) (.node (o72_2 P) .nil .nil) (.node (o104_2 P) .nil .nil)) (.node (o56_2 P) (.node (o88_2 P) .nil .nil) .nil))) (.node (o12_2 P) (.node (o20_2 P) (.node (o36_2 P) (.node (o68_2 P) .nil .nil) (.node (o100_2 P) .nil .nil)) (.node (o52_2 P) (.node (o84_2 P) .nil .nil) .nil)) (.node (o28_2 P) (.node (o44_2 P) (.node (o76_2 P) .nil .nil) .nil) (.node (o60_2 P) (.node (o92_2 P) .nil .nil) .nil)))) (.node (boot_o_6 P) (.node (boot_o_10 P) (.node (o18_2 P) (.node (o34_2 P) (.node (o66_2 P) .nil .nil) (.node (o98_2 P) .nil .nil)) (.node (o50_2 P) (.node (o82_2 P) .nil .nil) .nil)) (.node (o26_2 P) (.node (o42_2 P) (.node (o74_2 P) .nil .nil) .nil) (.node (o58_2 P) (.node (o90_2 P) .nil .nil) .nil))) (.node (o14_0 P) (.node (o22_2 P) (.node (o38_2 P) (.node (o70_2 P) .nil .nil) (.node (o102_2 P) .nil .nil)) (.node (o54_2 P) (.node (o86_2 P) .nil .nil) .nil)) (.node (o30_2 P) (.node (o46_2 P) (.node (o78_2 P) .nil .nil) .nil) (.node (o62_2 P) (.node (o94_2 P) .nil .nil) .nil))))))
noncomputable def lf1 : Life := (Life.mk [] [] [] 0 [] [] Bool.false #[] [] 0 Bool.false Bool.false Bool.false 0 [2000, 10, 10] Bool.false 0 Bool.true [] [] 0 Bool.false)
noncomputable def dr1 : Drawn := (Drawn.mk 0 0 0 0)
noncomputable def st1 (w : World) (os : OsState) : SharedT := ⟨tr1 w.params, 105, lf1, #[], dr1, 301, os⟩
noncomputable def gr1 : List Stmt := ((behindTheImports pg).drop 0).take 5
theorem seg1 : ∀ (w : World) (os : OsState), segRunT treeTable pg w 11 annE 1 679 (st0 w os) (piecesOf gr1 ev cE ⟨0, 0, 0, 0⟩ [topFrame qE]) = some (.next, st1 w os, cE, ⟨9, 0, 34, 16⟩) := by intro w os; kernel_rfl

noncomputable def o3_3 (P : Params) : Obj := (Obj.mk (Value.type "dict") Option.none (Data.dict #[(DictEntry.mk (PyData.keyHash P (Str.ofString "__name__")) (Value.str (Str.ofString "__name__") 165) (Value.str (Str.ofString "doit.dependency") 194)), (DictEntry.mk (PyData.keyHash P (Str.ofString "__doc__")) (Value.str (Str.ofString "__doc__") 166) Value.none), (DictEntry.mk (PyData.keyHash P (Str.ofString "__package__")) (Value.str (Str.ofString "__package__") 167) Value.none), (DictEntry.mk (PyData.keyHash P (Str.ofString "__loader__")) (Value.str (Str.ofString "__loader__") 168) (Value.builtin "__main__.__loader__#opaque")), (DictEntry.mk (PyData.keyHash P (Str.ofString "__spec__")) (Value.str (Str.ofString "__spec__") 169) Value.none), (DictEntry.mk (PyData.keyHash P (Str.ofString "__annotations__")) (Value.str (Str.ofString "__annotations__") 170) (Value.ref 6)), (DictEntry.mk (PyData.keyHash P (Str.ofString "__builtins__")) (Value.str (Str.ofString "__builtins__") 171) (Value.ref 4)), (DictEntry.mk (PyData.keyHash P (Str.ofString "__file__")) (Value.str (Str.ofString "__file__") 173) (Value.str (Str.ofString "/claim/cut.py") 172)), (DictEntry.mk (PyData.keyHash P (Str.ofString "__cached__")) (Value.str (Str.ofString "__cached__") 174) Value.none), (DictEntry.mk (PyData.keyHash P (Str.ofString "_wall")) (Value.str (Str.ofString "_wall") 193) (Value.ref 21)), (DictEntry.mk (PyData.keyHash P (Str.ofString "MissingFile")) (Value.str (Str.ofString "MissingFile") 215) (Value.ref 31)), (DictEntry.mk (PyData.keyHash P (Str.ofString "get_md5")) (Value.str (Str.ofString "get_md5") 222) (Value.ref 41)), (DictEntry.mk (PyData.keyHash P (Str.ofString "JsonDB")) (Value.str (Str.ofString "JsonDB") 300) (Value.ref 100)), (DictEntry.mk (PyData.keyHash P (Str.ofString "FileChangedChecker")) (Value.str (Str.ofString "FileChangedChecker") 366) (Value.ref 149)), (DictEntry.mk (PyData.keyHash P (Str.ofString "MD5Checker")) (Value.str (Str.ofString "MD5Checker") 409) (Value.ref 177)), (DictEntry.mk (PyData.keyHash P (Str.ofString "TimestampChecker")) (Value.str (Str.ofString "TimestampChecker") 446) (Value.ref 203))] 16) #[])
noncomputable def o12_3 (P : Params) : Obj := (Obj.mk Value.none Option.none (Data.fields #[(Value.int 1 0), (Value.int 0 0), (Value.ref 20), (Value.int 5 0), (Value.int 0 0), (Value.ref 27), (Value.int 7 0), (Value.int 0 0), (Value.ref 40), (Value.int 9 0), (Value.int 0 0), (Value.ref 47), (Value.int 35 0), (Value.int 0 0), (Value.ref 110), (Value.int 54 0), (Value.int 0 0), (Value.ref 159), (Value.int 72 0), (Value.int 0 0), (Value.ref 185)]) #[])
noncomputable def o105_3 (P : Params) : Obj := (Obj.mk (Value.type "tuple") Option.none (Data.seq #[] 0) #[])
noncomputable def o106_3 (P : Params) : Obj := (Obj.mk (Value.type "builtin_function_or_method") Option.none (Data.fields #[(Value.builtin "type.__prepare__"), (Value.type "type")]) #[])
noncomputable def o107_3 (P : Params) : Obj := (Obj.mk (Value.type "dict") Option.none (Data.dict #[(DictEntry.mk (PyData.keyHash P (Str.ofString "__module__")) (Value.str (Str.ofString "__module__") 308) (Value.str (Str.ofString "doit.dependency") 194)), (DictEntry.mk (PyData.keyHash P (Str.ofString "__qualname__")) (Value.str (Str.ofString "__qualname__") 310) (Value.str (Str.ofString "FileChangedChecker") 309)), (DictEntry.mk (PyData.keyHash P (Str.ofString "__firstlineno__")) (Value.str (Str.ofString "__firstlineno__") 312) (Value.int 35 311)), (DictEntry.mk (PyData.keyHash P (Str.ofString "name")) (Value.str (Str.ofString "name") 314) (Value.str (Str.ofString "FileChangedChecker") 313)), (DictEntry.mk (PyData.keyHash P (Str.ofString "__init__")) (Value.str (Str.ofString "__init__") 322) (Value.ref 118)), (DictEntry.mk (PyData.keyHash P (Str.ofString "exists")) (Value.str (Str.ofString "exists") 330) (Value.ref 125)), (DictEntry.mk (PyData.keyHash P (Str.ofString "info")) (Value.str (Str.ofString "info") 338) (Value.ref 132)), (DictEntry.mk (PyData.keyHash P (Str.ofString "check_modified")) (Value.str (Str.ofString "check_modified") 348) (Value.ref 139)), (DictEntry.mk (PyData.keyHash P (Str.ofString "get_state")) (Value.str (Str.ofString "get_state") 357) (Value.ref 146)), (DictEntry.mk (PyData.keyHash P (Str.ofString "__static_attributes__")) (Value.str (Str.ofString "__static_attributes__") 359) (Value.ref 147))] 10) #[])
noncomputable def o108_3 (P : Params) : Obj := (Obj.mk (Value.type "tuple") Option.none (Data.seq #[] 0) #[])
noncomputable def o109_3 (P : Params) : Obj := (Obj.mk Value.none Option.none (Data.fields #[(Value.int 38 0), (Value.int 4 0), (Value.ref 117), (Value.int 41 0), (Value.int 4 0), (Value.ref 124), (Value.int 44 0), (Value.int 4 0), (Value.ref 131), (Value.int 49 0), (Value.int 4 0), (Value.ref 138), (Value.int 52 0), (Value.int 4 0), (Value.ref 145)]) #[])
noncomputable def o110_3 (P : Params) : Obj := (Obj.mk (Value.type "code") Option.none (Data.fields #[(Value.str (Str.ofString "FileChangedChecker") 303), (Value.str (Str.ofString "FileChangedChecker") 304), (Value.str (Str.ofString "/claim/cut.py") 305), (Value.int 35 0), (Value.int 0 0), (Value.int 0 0), (Value.int 0 0), (Value.int 0 0), (Value.ref 108), (Value.bool Bool.false), (Value.int 181 0), (Value.ref 109), Value.none, Value.none, Value.none, Value.none, (Value.int 306 0), (Value.int 35 0), (Value.str (Str.ofString "/claim/cut.py") 307)]) #[])
noncomputable def o111_3 (P : Params) : Obj := (Obj.mk (Value.type "frame") Option.none Data.plain #[(Option.some (Value.ref 110)), (Option.some (Value.ref 3)), (Option.some (Value.ref 107)), Option.none, (Option.some (Value.str (Str.ofString "doit.dependency") 194)), Option.none, (Option.some (Value.ref 0))])
noncomputable def o112_3 (P : Params) : Obj := (Obj.mk (Value.type "tuple") Option.none (Data.seq #[] 0) #[])
noncomputable def o113_3 (P : Params) : Obj := (Obj.mk Value.none Option.none (Data.fields #[]) #[])
noncomputable def o114_3 (P : Params) : Obj := (Obj.mk (Value.type "tuple") Option.none (Data.seq #[(Value.str (Str.ofString "self") 318), (Value.str (Str.ofString "files") 319)] 0) #[])
noncomputable def o115_3 (P : Params) : Obj := (Obj.mk (Value.type "tuple") Option.none (Data.seq #[] 0) #[])
noncomputable def o116_3 (P : Params) : Obj := (Obj.mk Value.none Option.none (Data.func (FuncData.mk (Str.ofString "__init__") (Str.ofString "FileChangedChecker.__init__") (fa [5, 1]) (fb [5, 1]) (fs [5, 1]) 0 [] Value.none Value.none Value.none Value.none Option.none Value.none Value.none 0)) #[])
noncomputable def o117_3 (P : Params) : Obj := (Obj.mk (Value.type "code") Option.none (Data.fields #[(Value.str (Str.ofString "__init__") 315), (Value.str (Str.ofString "FileChangedChecker.__init__") 316), (Value.str (Str.ofString "/claim/cut.py") 317), (Value.int 38 0), (Value.int 2 0), (Value.int 0 0), (Value.int 0 0), (Value.int 3 0), (Value.ref 112), (Value.bool Bool.true), (Value.int 181 0), (Value.ref 113), Value.none, (Value.ref 114), (Value.ref 115), (Value.ref 116), (Value.int 320 0), (Value.int 38 0), (Value.str (Str.ofString "/claim/cut.py") 321)]) #[])
noncomputable def o118_3 (P : Params) : Obj := (Obj.mk (Value.type "function") Option.none (Data.func (FuncData.mk (Str.ofString "__init__") (Str.ofString "FileChangedChecker.__init__") (fa [5, 1]) (fb [5, 1]) (fs [5, 1]) 3 [] Value.none Value.none Value.none (Value.str (Str.ofString "doit.dependency") 194) Option.none (Value.ref 117) Value.none 0)) #[])
noncomputable def o119_3 (P : Params) : Obj := (Obj.mk (Value.type "tuple") Option.none (Data.seq #[] 0) #[])
noncomputable def o120_3 (P : Params) : Obj := (Obj.mk Value.none Option.none (Data.fields #[]) #[])
noncomputable def o121_3 (P : Params) : Obj := (Obj.mk (Value.type "tuple") Option.none (Data.seq #[(Value.str (Str.ofString "self") 326), (Value.str (Str.ofString "file_path") 327)] 0) #[])
noncomputable def o122_3 (P : Params) : Obj := (Obj.mk (Value.type "tuple") Option.none (Data.seq #[] 0) #[])
noncomputable def o123_3 (P : Params) : Obj := (Obj.mk Value.none Option.none (Data.func (FuncData.mk (Str.ofString "exists") (Str.ofString "FileChangedChecker.exists") (fa [5, 2]) (fb [5, 2]) (fs [5, 2]) 0 [] Value.none Value.none Value.none Value.none Option.none Value.none Value.none 0)) #[])
noncomputable def o124_3 (P : Params) : Obj := (Obj.mk (Value.type "code") Option.none (Data.fields #[(Value.str (Str.ofString "exists") 323), (Value.str (Str.ofString "FileChangedChecker.exists") 324), (Value.str (Str.ofString "/claim/cut.py") 325), (Value.int 41 0), (Value.int 2 0), (Value.int 0 0), (Value.int 0 0), (Value.int 3 0), (Value.ref 119), (Value.bool Bool.true), (Value.int 181 0), (Value.ref 120), Value.none, (Value.ref 121), (Value.ref 122), (Value.ref 123), (Value.int 328 0), (Value.int 41 0), (Value.str (Str.ofString "/claim/cut.py") 329)]) #[])
noncomputable def o125_3 (P : Params) : Obj := (Obj.mk (Value.type "function") Option.none (Data.func (FuncData.mk (Str.ofString "exists") (Str.ofString "FileChangedChecker.exists") (fa [5, 2]) (fb [5, 2]) (fs [5, 2]) 3 [] Value.none Value.none Value.none (Value.str (Str.ofString "doit.dependency") 194) Option.none (Value.ref 124) Value.none 0)) #[])
noncomputable def o126_3 (P : Params) : Obj := (Obj.mk (Value.type "tuple") Option.none (Data.seq #[] 0) #[])
noncomputable def o127_3 (P : Params) : Obj := (Obj.mk Value.none Option.none (Data.fields #[]) #[])
noncomputable def o128_3 (P : Params) : Obj := (Obj.mk (Value.type "tuple") Option.none (Data.seq #[(Value.str (Str.ofString "self") 334), (Value.str (Str.ofString "file_path") 335)] 0) #[])
noncomputable def o129_3 (P : Params) : Obj := (Obj.mk (Value.type "tuple") Option.none (Data.seq #[] 0) #[])
noncomputable def o130_3 (P : Params) : Obj := (Obj.mk Value.none Option.none (Data.func (FuncData.mk (Str.ofString "info") (Str.ofString "FileChangedChecker.info") (fa [5, 3]) (fb [5, 3]) (fs [5, 3]) 0 [] Value.none Value.none Value.none Value.none Option.none Value.none Value.none 0)) #[])
noncomputable def o131_3 (P : Params) : Obj := (Obj.mk (Value.type "code") Option.none (Data.fields #[(Value.str (Str.ofString "info") 331), (Value.str (Str.ofString "FileChangedChecker.info") 332), (Value.str (Str.ofString "/claim/cut.py") 333), (Value.int 44 0), (Value.int 2 0), (Value.int 0 0), (Value.int 0 0), (Value.int 3 0), (Value.ref 126), (Value.bool Bool.true), (Value.int 181 0), (Value.ref 127), Value.none, (Value.ref 128), (Value.ref 129), (Value.ref 130), (Value.int 336 0), (Value.int 44 0), (Value.str (Str.ofString "/claim/cut.py") 337)]) #[])
noncomputable def o132_3 (P : Params) : Obj := (Obj.mk (Value.type "function") Option.none (Data.func (FuncData.mk (Str.ofString "info") (Str.ofString "FileChangedChecker.info") (fa [5, 3]) (fb [5, 3]) (fs [5, 3]) 3 [] Value.none Value.none Value.none (Value.str (Str.ofString "doit.dependency") 194) Option.none (Value.ref 131) Value.none 0)) #[])
noncomputable def o133_3 (P : Params) : Obj := (Obj.mk (Value.type "tuple") Option.none (Data.seq #[] 0) #[])
noncomputable def o134_3 (P : Params) : Obj := (Obj.mk Value.none Option.none (Data.fields #[]) #[])
noncomputable def o135_3 (P : Params) : Obj := (Obj.mk (Value.type "tuple") Option.none (Data.seq #[(Value.str (Str.ofString "self") 342), (Value.str (Str.ofString "file_path") 343), (Value.str (Str.ofString "file_stat") 344), (Value.str (Str.ofString "state") 345)] 0) #[])
noncomputable def o136_3 (P : Params) : Obj := (Obj.mk (Value.type "tuple") Option.none (Data.seq #[] 0) #[])
noncomputable def o137_3 (P : Params) : Obj := (Obj.mk Value.none Option.none (Data.func (FuncData.mk (Str.ofString "check_modified") (Str.ofString "FileChangedChecker.check_modified") (fa [5, 4]) (fb [5, 4]) (fs [5, 4]) 0 [] Value.none Value.none Value.none Value.none Option.none Value.none Value.none 0)) #[])
noncomputable def o138_3 (P : Params) : Obj := (Obj.mk (Value.type "code") Option.none (Data.fields #[(Value.str (Str.ofString "check_modified") 339), (Value.str (Str.ofString "FileChangedChecker.check_modified") 340), (Value.str (Str.ofString "/claim/cut.py") 341), (Value.int 49 0), (Value.int 4 0), (Value.int 0 0), (Value.int 0 0), (Value.int 3 0), (Value.ref 133), (Value.bool Bool.true), (Value.int 181 0), (Value.ref 134), Value.none, (Value.ref 135), (Value.ref 136), (Value.ref 137), (Value.int 346 0), (Value.int 49 0), (Value.str (Str.ofString "/claim/cut.py") 347)]) #[])
noncomputable def o139_3 (P : Params) : Obj := (Obj.mk (Value.type "function") Option.none (Data.func (FuncData.mk (Str.ofString "check_modified") (Str.ofString "FileChangedChecker.check_modified") (fa [5, 4]) (fb [5, 4]) (fs [5, 4]) 3 [] Value.none Value.none Value.none (Value.str (Str.ofString "doit.dependency") 194) Option.none (Value.ref 138) Value.none 0)) #[])
noncomputable def o140_3 (P : Params) : Obj := (Obj.mk (Value.type "tuple") Option.none (Data.seq #[] 0) #[])
noncomputable def o141_3 (P : Params) : Obj := (Obj.mk Value.none Option.none (Data.fields #[]) #[])
noncomputable def o142_3 (P : Params) : Obj := (Obj.mk (Value.type "tuple") Option.none (Data.seq #[(Value.str (Str.ofString "self") 352), (Value.str (Str.ofString "dep") 353), (Value.str (Str.ofString "current_state") 354)] 0) #[])
noncomputable def o143_3 (P : Params) : Obj := (Obj.mk (Value.type "tuple") Option.none (Data.seq #[] 0) #[])
noncomputable def o144_3 (P : Params) : Obj := (Obj.mk Value.none Option.none (Data.func (FuncData.mk (Str.ofString "get_state") (Str.ofString "FileChangedChecker.get_state") (fa [5, 5]) (fb [5, 5]) (fs [5, 5]) 0 [] Value.none Value.none Value.none Value.none Option.none Value.none Value.none 0)) #[])
noncomputable def o145_3 (P : Params) : Obj := (Obj.mk (Value.type "code") Option.none (Data.fields #[(Value.str (Str.ofString "get_state") 349), (Value.str (Str.ofString "FileChangedChecker.get_state") 350), (Value.str (Str.ofString "/claim/cut.py") 351), (Value.int 52 0), (Value.int 3 0), (Value.int 0 0), (Value.int 0 0), (Value.int 3 0), (Value.ref 140), (Value.bool Bool.true), (Value.int 181 0), (Value.ref 141), Value.none, (Value.ref 142), (Value.ref 143), (Value.ref 144), (Value.int 355 0), (Value.int 52 0), (Value.str (Str.ofString "/claim/cut.py") 356)]) #[])
noncomputable def o146_3 (P : Params) : Obj := (Obj.mk (Value.type "function") Option.none (Data.func (FuncData.mk (Str.ofString "get_state") (Str.ofString "FileChangedChecker.get_state") (fa [5, 5]) (fb [5, 5]) (fs [5, 5]) 3 [] Value.none Value.none Value.none (Value.str (Str.ofString "doit.dependency") 194) Option.none (Value.ref 145) Value.none 0)) #[])
noncomputable def o147_3 (P : Params) : Obj := (Obj.mk (Value.type "tuple") Option.none (Data.seq #[(Value.str (Str.ofString "files") 358)] 0) #[])
noncomputable def o148_3 (P : Params) : Obj := (Obj.mk (Value.type "dict") Option.none (Data.dict #[(DictEntry.mk (PyData.keyHash P (Str.ofString "__module__")) (Value.str (Str.ofString "__module__") 308) (Value.str (Str.ofString "doit.dependency") 194)), (DictEntry.mk (PyData.keyHash P (Str.ofString "__firstlineno__")) (Value.str (Str.ofString "__firstlineno__") 312) (Value.int 35 311)), (DictEntry.mk (PyData.keyHash P (Str.ofString "name")) (Value.str (Str.ofString "name") 314) (Value.str (Str.ofString "FileChangedChecker") 313)), (DictEntry.mk (PyData.keyHash P (Str.ofString "__init__")) (Value.str (Str.ofString "__init__") 322) (Value.ref 118)), (DictEntry.mk (PyData.keyHash P (Str.ofString "exists")) (Value.str (Str.ofString "exists") 330) (Value.ref 125)), (DictEntry.mk (PyData.keyHash P (Str.ofString "info")) (Value.str (Str.ofString "info") 338) (Value.ref 132)), (DictEntry.mk (PyData.keyHash P (Str.ofString "check_modified")) (Value.str (Str.ofString "check_modified") 348) (Value.ref 139)), (DictEntry.mk (PyData.keyHash P (Str.ofString "get_state")) (Value.str (Str.ofString "get_state") 357) (Value.ref 146)), (DictEntry.mk (PyData.keyHash P (Str.ofString "__static_attributes__")) (Value.str (Str.ofString "__static_attributes__") 359) (Value.ref 147)), (DictEntry.mk (PyData.keyHash P (Str.ofString "__dict__")) (Value.str (Str.ofString "__dict__") 361) (Value.ref 150)), (DictEntry.mk (PyData.keyHash P (Str.ofString "__weakref__")) (Value.str (Str.ofString "__weakref__") 363) (Value.ref 151)), (DictEntry.mk (PyData.keyHash P (Str.ofString "__doc__")) (Value.str (Str.ofString "__doc__") 364) Value.none)] 4) #[])
noncomputable def o149_3 (P : Params) : Obj := (Obj.mk (Value.type "type") Option.none (Data.cls (ClassData.mk (Str.ofString "FileChangedChecker") [(Value.type "object")] [(Value.ref 149), (Value.type "object")] 148 (Str.ofString "FileChangedChecker") Bool.true [] [(Value.ref 177), (Value.ref 203)] Bool.false Option.none Bool.false)) #[Option.none, Option.none, (Option.some (Value.str (Str.ofString "FileChangedChecker") 301)), (Option.some (Value.str (Str.ofString "FileChangedChecker") 309)), (Option.some (Value.builtin "object.__new__")), (Option.some (Value.bool Bool.true))])
noncomputable def o150_3 (P : Params) : Obj := (Obj.mk (Value.type "getset_descriptor") Option.none (Data.fields #[(Value.str (Str.ofString "__dict__") 360), (Value.ref 149), (Value.builtin "function.__dict__"), (Value.builtin "function.__dict__#set")]) #[])
noncomputable def o151_3 (P : Params) : Obj := (Obj.mk (Value.type "getset_descriptor") Option.none (Data.fields #[(Value.str (Str.ofString "__weakref__") 362), (Value.ref 149), (Value.builtin "ExceptionGroup.__weakref__"), Value.none]) #[])
noncomputable def o152_3 (P : Params) : Obj := (Obj.mk (Value.type "super") Option.none (Data.fields #[(Value.ref 149), (Value.ref 149), (Value.ref 149)]) #[])
noncomputable def o153_3 (P : Params) : Obj := (Obj.mk (Value.type "builtin_function_or_method") Option.none (Data.fields #[(Value.builtin "object.__init_subclass__"), (Value.ref 149)]) #[])
noncomputable def o154_3 (P : Params) : Obj := (Obj.mk (Value.type "tuple") Option.none (Data.seq #[(Value.ref 149)] 0) #[])
noncomputable def o155_3 (P : Params) : Obj := (Obj.mk (Value.type "builtin_function_or_method") Option.none (Data.fields #[(Value.builtin "type.__prepare__"), (Value.type "type")]) #[])
noncomputable def o156_3 (P : Params) : Obj := (Obj.mk (Value.type "dict") Option.none (Data.dict #[(DictEntry.mk (PyData.keyHash P (Str.ofString "__module__")) (Value.str (Str.ofString "__module__") 374) (Value.str (Str.ofString "doit.dependency") 194)), (DictEntry.mk (PyData.keyHash P (Str.ofString "__qualname__")) (Value.str (Str.ofString "__qualname__") 376) (Value.str (Str.ofString "MD5Checker") 375)), (DictEntry.mk (PyData.keyHash P (Str.ofString "__firstlineno__")) (Value.str (Str.ofString "__firstlineno__") 378) (Value.int 54 377)), (DictEntry.mk (PyData.keyHash P (Str.ofString "name")) (Value.str (Str.ofString "name") 380) (Value.str (Str.ofString "MD5Checker") 379)), (DictEntry.mk (PyData.keyHash P (Str.ofString "check_modified")) (Value.str (Str.ofString "check_modified") 393) (Value.ref 167)), (DictEntry.mk (PyData.keyHash P (Str.ofString "get_state")) (Value.str (Str.ofString "get_state") 405) (Value.ref 174)), (DictEntry.mk (PyData.keyHash P (Str.ofString "__static_attributes__")) (Value.str (Str.ofString "__static_attributes__") 406) (Value.ref 175))] 7) #[])
noncomputable def o157_3 (P : Params) : Obj := (Obj.mk (Value.type "tuple") Option.none (Data.seq #[] 0) #[])
noncomputable def o158_3 (P : Params) : Obj := (Obj.mk Value.none Option.none (Data.fields #[(Value.int 57 0), (Value.int 4 0), (Value.ref 166), (Value.int 65 0), (Value.int 4 0), (Value.ref 173)]) #[])
noncomputable def o159_3 (P : Params) : Obj := (Obj.mk (Value.type "code") Option.none (Data.fields #[(Value.str (Str.ofString "MD5Checker") 369), (Value.str (Str.ofString "MD5Checker") 370), (Value.str (Str.ofString "/claim/cut.py") 371), (Value.int 54 0), (Value.int 0 0), (Value.int 0 0), (Value.int 0 0), (Value.int 0 0), (Value.ref 157), (Value.bool Bool.false), (Value.int 181 0), (Value.ref 158), Value.none, Value.none, Value.none, Value.none, (Value.int 372 0), (Value.int 54 0), (Value.str (Str.ofString "/claim/cut.py") 373)]) #[])
noncomputable def o160_3 (P : Params) : Obj := (Obj.mk (Value.type "frame") Option.none Data.plain #[(Option.some (Value.ref 159)), (Option.some (Value.ref 3)), (Option.some (Value.ref 156)), Option.none, (Option.some (Value.str (Str.ofString "doit.dependency") 194)), Option.none, (Option.some (Value.ref 0))])
noncomputable def o161_3 (P : Params) : Obj := (Obj.mk (Value.type "tuple") Option.none (Data.seq #[] 0) #[])
noncomputable def o162_3 (P : Params) : Obj := (Obj.mk Value.none Option.none (Data.fields #[]) #[])
noncomputable def o163_3 (P : Params) : Obj := (Obj.mk (Value.type "tuple") Option.none (Data.seq #[(Value.str (Str.ofString "self") 384), (Value.str (Str.ofString "file_path") 385), (Value.str (Str.ofString "file_stat") 386), (Value.str (Str.ofString "state") 387), (Value.str (Str.ofString "timestamp") 388), (Value.str (Str.ofString "size") 389), (Value.str (Str.ofString "file_md5") 390)] 0) #[])
noncomputable def o164_3 (P : Params) : Obj := (Obj.mk (Value.type "tuple") Option.none (Data.seq #[] 0) #[])
noncomputable def o165_3 (P : Params) : Obj := (Obj.mk Value.none Option.none (Data.func (FuncData.mk (Str.ofString "check_modified") (Str.ofString "MD5Checker.check_modified") (fa [6, 1]) (fb [6, 1]) (fs [6, 1]) 0 [] Value.none Value.none Value.none Value.none Option.none Value.none Value.none 0)) #[])
noncomputable def o166_3 (P : Params) : Obj := (Obj.mk (Value.type "code") Option.none (Data.fields #[(Value.str (Str.ofString "check_modified") 381), (Value.str (Str.ofString "MD5Checker.check_modified") 382), (Value.str (Str.ofString "/claim/cut.py") 383), (Value.int 57 0), (Value.int 4 0), (Value.int 0 0), (Value.int 0 0), (Value.int 3 0), (Value.ref 161), (Value.bool Bool.true), (Value.int 181 0), (Value.ref 162), Value.none, (Value.ref 163), (Value.ref 164), (Value.ref 165), (Value.int 391 0), (Value.int 57 0), (Value.str (Str.ofString "/claim/cut.py") 392)]) #[])
noncomputable def o167_3 (P : Params) : Obj := (Obj.mk (Value.type "function") Option.none (Data.func (FuncData.mk (Str.ofString "check_modified") (Str.ofString "MD5Checker.check_modified") (fa [6, 1]) (fb [6, 1]) (fs [6, 1]) 3 [] Value.none Value.none Value.none (Value.str (Str.ofString "doit.dependency") 194) Option.none (Value.ref 166) Value.none 0)) #[])
noncomputable def o168_3 (P : Params) : Obj := (Obj.mk (Value.type "tuple") Option.none (Data.seq #[] 0) #[])
noncomputable def o169_3 (P : Params) : Obj := (Obj.mk Value.none Option.none (Data.fields #[]) #[])
noncomputable def o170_3 (P : Params) : Obj := (Obj.mk (Value.type "tuple") Option.none (Data.seq #[(Value.str (Str.ofString "self") 397), (Value.str (Str.ofString "dep") 398), (Value.str (Str.ofString "current_state") 399), (Value.str (Str.ofString "timestamp") 400), (Value.str (Str.ofString "size") 401), (Value.str (Str.ofString "md5") 402)] 0) #[])
noncomputable def o171_3 (P : Params) : Obj := (Obj.mk (Value.type "tuple") Option.none (Data.seq #[] 0) #[])
noncomputable def o172_3 (P : Params) : Obj := (Obj.mk Value.none Option.none (Data.func (FuncData.mk (Str.ofString "get_state") (Str.ofString "MD5Checker.get_state") (fa [6, 2]) (fb [6, 2]) (fs [6, 2]) 0 [] Value.none Value.none Value.none Value.none Option.none Value.none Value.none 0)) #[])
noncomputable def o173_3 (P : Params) : Obj := (Obj.mk (Value.type "code") Option.none (Data.fields #[(Value.str (Str.ofString "get_state") 394), (Value.str (Str.ofString "MD5Checker.get_state") 395), (Value.str (Str.ofString "/claim/cut.py") 396), (Value.int 65 0), (Value.int 3 0), (Value.int 0 0), (Value.int 0 0), (Value.int 3 0), (Value.ref 168), (Value.bool Bool.true), (Value.int 181 0), (Value.ref 169), Value.none, (Value.ref 170), (Value.ref 171), (Value.ref 172), (Value.int 403 0), (Value.int 65 0), (Value.str (Str.ofString "/claim/cut.py") 404)]) #[])
noncomputable def o174_3 (P : Params) : Obj := (Obj.mk (Value.type "function") Option.none (Data.func (FuncData.mk (Str.ofString "get_state") (Str.ofString "MD5Checker.get_state") (fa [6, 2]) (fb [6, 2]) (fs [6, 2]) 3 [] Value.none Value.none Value.none (Value.str (Str.ofString "doit.dependency") 194) Option.none (Value.ref 173) Value.none 0)) #[])
noncomputable def o175_3 (P : Params) : Obj := (Obj.mk (Value.type "tuple") Option.none (Data.seq #[] 0) #[])
noncomputable def o176_3 (P : Params) : Obj := (Obj.mk (Value.type "dict") Option.none (Data.dict #[(DictEntry.mk (PyData.keyHash P (Str.ofString "__module__")) (Value.str (Str.ofString "__module__") 374) (Value.str (Str.ofString "doit.dependency") 194)), (DictEntry.mk (PyData.keyHash P (Str.ofString "__firstlineno__")) (Value.str (Str.ofString "__firstlineno__") 378) (Value.int 54 377)), (DictEntry.mk (PyData.keyHash P (Str.ofString "name")) (Value.str (Str.ofString "name") 380) (Value.str (Str.ofString "MD5Checker") 379)), (DictEntry.mk (PyData.keyHash P (Str.ofString "check_modified")) (Value.str (Str.ofString "check_modified") 393) (Value.ref 167)), (DictEntry.mk (PyData.keyHash P (Str.ofString "get_state")) (Value.str (Str.ofString "get_state") 405) (Value.ref 174)), (DictEntry.mk (PyData.keyHash P (Str.ofString "__static_attributes__")) (Value.str (Str.ofString "__static_attributes__") 406) (Value.ref 175)), (DictEntry.mk (PyData.keyHash P (Str.ofString "__doc__")) (Value.str (Str.ofString "__doc__") 407) Value.none)] 2) #[])
noncomputable def o177_3 (P : Params) : Obj := (Obj.mk (Value.type "type") Option.none (Data.cls (ClassData.mk (Str.ofString "MD5Checker") [(Value.ref 149)] [(Value.ref 177), (Value.ref 149), (Value.type "object")] 176 (Str.ofString "MD5Checker") Bool.true [] [] Bool.false Option.none Bool.false)) #[(Option.some (Value.ref 154)), Option.none, (Option.some (Value.str (Str.ofString "MD5Checker") 367)), (Option.some (Value.str (Str.ofString "MD5Checker") 375)), (Option.some (Value.builtin "object.__new__")), (Option.some (Value.bool Bool.true))])
noncomputable def o178_3 (P : Params) : Obj := (Obj.mk (Value.type "super") Option.none (Data.fields #[(Value.ref 177), (Value.ref 177), (Value.ref 177)]) #[])
noncomputable def o179_3 (P : Params) : Obj := (Obj.mk (Value.type "builtin_function_or_method") Option.none (Data.fields #[(Value.builtin "object.__init_subclass__"), (Value.ref 177)]) #[])
noncomputable def o180_3 (P : Params) : Obj := (Obj.mk (Value.type "tuple") Option.none (Data.seq #[(Value.ref 149)] 0) #[])
noncomputable def o181_3 (P : Params) : Obj := (Obj.mk (Value.type "builtin_function_or_method") Option.none (Data.fields #[(Value.builtin "type.__prepare__"), (Value.type "type")]) #[])
noncomputable def o182_3 (P : Params) : Obj := (Obj.mk (Value.type "dict") Option.none (Data.dict #[(DictEntry.mk (PyData.keyHash P (Str.ofString "__module__")) (Value.str (Str.ofString "__module__") 417) (Value.str (Str.ofString "doit.dependency") 194)), (DictEntry.mk (PyData.keyHash P (Str.ofString "__qualname__")) (Value.str (Str.ofString "__qualname__") 419) (Value.str (Str.ofString "TimestampChecker") 418)), (DictEntry.mk (PyData.keyHash P (Str.ofString "__firstlineno__")) (Value.str (Str.ofString "__firstlineno__") 421) (Value.int 72 420)), (DictEntry.mk (PyData.keyHash P (Str.ofString "name")) (Value.str (Str.ofString "name") 423) (Value.str (Str.ofString "TimestampChecker") 422)), (DictEntry.mk (PyData.keyHash P (Str.ofString "check_modified")) (Value.str (Str.ofString "check_modified") 433) (Value.ref 193)), (DictEntry.mk (PyData.keyHash P (Str.ofString "get_state")) (Value.str (Str.ofString "get_state") 442) (Value.ref 200)), (DictEntry.mk (PyData.keyHash P (Str.ofString "__static_attributes__")) (Value.str (Str.ofString "__static_attributes__") 443) (Value.ref 201))] 7) #[])
noncomputable def o183_3 (P : Params) : Obj := (Obj.mk (Value.type "tuple") Option.none (Data.seq #[] 0) #[])
noncomputable def o184_3 (P : Params) : Obj := (Obj.mk Value.none Option.none (Data.fields #[(Value.int 75 0), (Value.int 4 0), (Value.ref 192), (Value.int 78 0), (Value.int 4 0), (Value.ref 199)]) #[])
noncomputable def o185_3 (P : Params) : Obj := (Obj.mk (Value.type "code") Option.none (Data.fields #[(Value.str (Str.ofString "TimestampChecker") 412), (Value.str (Str.ofString "TimestampChecker") 413), (Value.str (Str.ofString "/claim/cut.py") 414), (Value.int 72 0), (Value.int 0 0), (Value.int 0 0), (Value.int 0 0), (Value.int 0 0), (Value.ref 183), (Value.bool Bool.false), (Value.int 181 0), (Value.ref 184), Value.none, Value.none, Value.none, Value.none, (Value.int 415 0), (Value.int 72 0), (Value.str (Str.ofString "/claim/cut.py") 416)]) #[])
noncomputable def o186_3 (P : Params) : Obj := (Obj.mk (Value.type "frame") Option.none Data.plain #[(Option.some (Value.ref 185)), (Option.some (Value.ref 3)), (Option.some (Value.ref 182)), Option.none, (Option.some (Value.str (Str.ofString "doit.dependency") 194)), Option.none, (Option.some (Value.ref 0))])
noncomputable def o187_3 (P : Params) : Obj := (Obj.mk (Value.type "tuple") Option.none (Data.seq #[] 0) #[])
noncomputable def o188_3 (P : Params) : Obj := (Obj.mk Value.none Option.none (Data.fields #[]) #[])
noncomputable def o189_3 (P : Params) : Obj := (Obj.mk (Value.type "tuple") Option.none (Data.seq #[(Value.str (Str.ofString "self") 427), (Value.str (Str.ofString "file_path") 428), (Value.str (Str.ofString "file_stat") 429), (Value.str (Str.ofString "state") 430)] 0) #[])
noncomputable def o190_3 (P : Params) : Obj := (Obj.mk (Value.type "tuple") Option.none (Data.seq #[] 0) #[])
noncomputable def o191_3 (P : Params) : Obj := (Obj.mk Value.none Option.none (Data.func (FuncData.mk (Str.ofString "check_modified") (Str.ofString "TimestampChecker.check_modified") (fa [7, 1]) (fb [7, 1]) (fs [7, 1]) 0 [] Value.none Value.none Value.none Value.none Option.none Value.none Value.none 0)) #[])
noncomputable def o192_3 (P : Params) : Obj := (Obj.mk (Value.type "code") Option.none (Data.fields #[(Value.str (Str.ofString "check_modified") 424), (Value.str (Str.ofString "TimestampChecker.check_modified") 425), (Value.str (Str.ofString "/claim/cut.py") 426), (Value.int 75 0), (Value.int 4 0), (Value.int 0 0), (Value.int 0 0), (Value.int 3 0), (Value.ref 187), (Value.bool Bool.true), (Value.int 181 0), (Value.ref 188), Value.none, (Value.ref 189), (Value.ref 190), (Value.ref 191), (Value.int 431 0), (Value.int 75 0), (Value.str (Str.ofString "/claim/cut.py") 432)]) #[])
noncomputable def o193_3 (P : Params) : Obj := (Obj.mk (Value.type "function") Option.none (Data.func (FuncData.mk (Str.ofString "check_modified") (Str.ofString "TimestampChecker.check_modified") (fa [7, 1]) (fb [7, 1]) (fs [7, 1]) 3 [] Value.none Value.none Value.none (Value.str (Str.ofString "doit.dependency") 194) Option.none (Value.ref 192) Value.none 0)) #[])
noncomputable def o194_3 (P : Params) : Obj := (Obj.mk (Value.type "tuple") Option.none (Data.seq #[] 0) #[])
noncomputable def o195_3 (P : Params) : Obj := (Obj.mk Value.none Option.none (Data.fields #[]) #[])
noncomputable def o196_3 (P : Params) : Obj := (Obj.mk (Value.type "tuple") Option.none (Data.seq #[(Value.str (Str.ofString "self") 437), (Value.str (Str.ofString "dep") 438), (Value.str (Str.ofString "current_state") 439)] 0) #[])
noncomputable def o197_3 (P : Params) : Obj := (Obj.mk (Value.type "tuple") Option.none (Data.seq #[] 0) #[])
noncomputable def o198_3 (P : Params) : Obj := (Obj.mk Value.none Option.none (Data.func (FuncData.mk (Str.ofString "get_state") (Str.ofString "TimestampChecker.get_state") (fa [7, 2]) (fb [7, 2]) (fs [7, 2]) 0 [] Value.none Value.none Value.none Value.none Option.none Value.none Value.none 0)) #[])
noncomputable def o199_3 (P : Params) : Obj := (Obj.mk (Value.type "code") Option.none (Data.fields #[(Value.str (Str.ofString "get_state") 434), (Value.str (Str.ofString "TimestampChecker.get_state") 435), (Value.str (Str.ofString "/claim/cut.py") 436), (Value.int 78 0), (Value.int 3 0), (Value.int 0 0), (Value.int 0 0), (Value.int 3 0), (Value.ref 194), (Value.bool Bool.true), (Value.int 181 0), (Value.ref 195), Value.none, (Value.ref 196), (Value.ref 197), (Value.ref 198), (Value.int 440 0), (Value.int 78 0), (Value.str (Str.ofString "/claim/cut.py") 441)]) #[])
noncomputable def o200_3 (P : Params) : Obj := (Obj.mk (Value.type "function") Option.none (Data.func (FuncData.mk (Str.ofString "get_state") (Str.ofString "TimestampChecker.get_state") (fa [7, 2]) (fb [7, 2]) (fs [7, 2]) 3 [] Value.none Value.none Value.none (Value.str (Str.ofString "doit.dependency") 194) Option.none (Value.ref 199) Value.none 0)) #[])
noncomputable def o201_3 (P : Params) : Obj := (Obj.mk (Value.type "tuple") Option.none (Data.seq #[] 0) #[])
noncomputable def o202_3 (P : Params) : Obj := (Obj.mk (Value.type "dict") Option.none (Data.dict #[(DictEntry.mk (PyData.keyHash P (Str.ofString "__module__")) (Value.str (Str.ofString "__module__") 417) (Value.str (Str.ofString "doit.dependency") 194)), (DictEntry.mk (PyData.keyHash P (Str.ofString "__firstlineno__")) (Value.str (Str.ofString "__firstlineno__") 421) (Value.int 72 420)), (DictEntry.mk (PyData.keyHash P (Str.ofString "name")) (Value.str (Str.ofString "name") 423) (Value.str (Str.ofString "TimestampChecker") 422)), (DictEntry.mk (PyData.keyHash P (Str.ofString "check_modified")) (Value.str (Str.ofString "check_modified") 433) (Value.ref 193)), (DictEntry.mk (PyData.keyHash P (Str.ofString "get_state")) (Value.str (Str.ofString "get_state") 442) (Value.ref 200)), (DictEntry.mk (PyData.keyHash P (Str.ofString "__static_attributes__")) (Value.str (Str.ofString "__static_attributes__") 443) (Value.ref 201)), (DictEntry.mk (PyData.keyHash P (Str.ofString "__doc__")) (Value.str (Str.ofString "__doc__") 444) Value.none)] 2) #[])
noncomputable def o203_3 (P : Params) : Obj := (Obj.mk (Value.type "type") Option.none (Data.cls (ClassData.mk (Str.ofString "TimestampChecker") [(Value.ref 149)] [(Value.ref 203), (Value.ref 149), (Value.type "object")] 202 (Str.ofString "TimestampChecker") Bool.true [] [] Bool.false Option.none Bool.false)) #[(Option.some (Value.ref 180)), Option.none, (Option.some (Value.str (Str.ofString "TimestampChecker") 410)), (Option.some (Value.str (Str.ofString "TimestampChecker") 418)), (Option.some (Value.builtin "object.__new__")), (Option.some (Value.bool Bool.true))])
noncomputable def o204_3 (P : Params) : Obj := (Obj.mk (Value.type "super") Option.none (Data.fields #[(Value.ref 203), (Value.ref 203), (Value.ref 203)]) #[])
noncomputable def o205_3 (P : Params) : Obj := (Obj.mk (Value.type "builtin_function_or_method") Option.none (Data.fields #[(Value.builtin "object.__init_subclass__"), (Value.ref 203)]) #[])
noncomputable def tr2 (P : Params) : BT := (.node (boot_o_0 P) (.node (boot_o_1 P) (.node (o3_3 P) (.node (boot_o_7 P) (.node (o15_2 P) (.node (o31_2 P) (.node (o63_2 P) (.node (o127_3 P) .nil .nil) (.node (o191_3 P) .nil .nil)) (.node (o95_2 P) (.node (o159_3 P) .nil .nil) .nil)) (.node (o47_2 P) (.node (o79_2 P) (.node (o143_3 P) .nil .nil) .nil) (.node (o111_3 P) (.node (o175_3 P) .nil .nil) .nil))) (.node (o23_2 P) (.node (o39_2 P) (.node (o71_2 P) (.node (o135_3 P) .nil .nil) (.node (o199_3 P) .nil .nil)) (.node (o103_2 P) (.node (o167_3 P) .nil .nil) .nil)) (.node (o55_2 P) (.node (o87_2 P) (.node (o151_3 P) .nil .nil) .nil) (.node (o119_3 P) (.node (o183_3 P) .nil .nil) .nil)))) (.node (o11_0 P) (.node (o19_2 P) (.node (o35_2 P) (.node (o67_2 P) (.node (o131_3 P) .nil .nil) (.node (o195_3 P) .nil .nil)) (.node (o99_2 P) (.node (o163_3 P) .nil .nil) .nil)) (.node (o51_2 P) (.node (o83_2 P) (.node (o147_3 P) .nil .nil) .nil) (.node (o115_3 P) (.node (o179_3 P) .nil .nil) .nil))) (.node (o27_2 P) (.node (o43_2 P) (.node (o75_2 P) (.node (o139_3 P) .nil .nil) (.node (o203_3 P) .nil .nil)) (.node (o107_3 P) (.node (o171_3 P) .nil .nil) .nil)) (.node (o59_2 P) (.node (o91_2 P) (.node (o155_3 P) .nil .nil) .nil) (.node (o123_3 P) (.node (o187_3 P) .nil .nil) .nil))))) (.node (boot_o_5 P) (.node (boot_o_9 P) (.node (o17_2 P) (.node (o33_2 P) (.node (o65_2 P) (.node (o129_3 P) .nil .nil) (.node (o193_3 P) .nil .nil)) (.node (o97_2 P) (.node (o161_3 P) .nil .nil) .nil)) (.node (o49_2 P) (.node (o81_2 P) (.node (o145_3 P) .nil .nil) .nil) (.node (o113_3 P) (.node (o177_3 P) .nil .nil) .nil))) (.node (o25_2 P) (.node (o41_2 P) (.node (o73_2 P) (.node (o137_3 P) .nil .nil) (.node (o201_3 P) .nil .nil)) (.node (o105_3 P) (.node (o169_3 P) .nil .nil) .nil)) (.node (o57_2 P) (.node (o89_2 P) (.node (o153_3 P) .nil .nil) .nil) (.node (o121_3 P) (.node (o185_3 P) .nil .nil) .nil)))) (.node (o13_0 P) (.node (o21_2 P) (.node (o37_2 P) (.node (o69_2 P) (.node (o133_3 P) .nil .nil) (.node (o197_3 P) .nil .nil)) (.node (o101_2 P) (.node (o165_3 P) .nil .nil) .nil)) (.node (o53_2 P) (.node (o85_2 P) (.node (o149_3 P) .nil .nil) .nil) (.node (o117_3 P) (.node (o181_3 P) .nil .nil) .nil))) (.node (o29_2 P) (.node (o45_2 P) (.node (o77_2 P) (.node (o141_3 P) .nil .nil) (.node (o205_3 P) .nil .nil)) (.node (o109_3 P) (.node (o173_3 P) .nil .nil) .nil)) (.node (o61_2 P) (.node (o93_2 P) (.node (o157_3 P) .nil .nil) .nil) (.node (o125_3 P) (.node (o189_3 P) .nil .nil) .nil)))))) (.node (o2_2 P) (.node (boot_o_4 P) (.node (boot_o_8 P) (.node (o16_2 P) (.node (o32_2 P) (.node (o64_2 P) (.node (o128_3 P) .nil .nil) (.node (o192_3 P) .nil .nil)) (.node (o96_2 P) (.node (o160_3 P) .nil .nil) .nil)) (.node (o48_2 P) (.node (o80_2 P) (.node (o144_3 P) .nil .nil) .nil) (.node (o112_3 P) (.node (o176_3 P) .nil .nil) .nil))) (.node (o24_2 P) (.node (o40_2 P) (.node (o72_2 P) (.node (o136_3 P) .nil .nil) (.node (o200_3 P) .nil .nil)) (.node (o104_2 P) (.node (o168_3 P) .nil .nil) .nil)) (.node (o56_2 P) (.node (o88_2 P) (.node (o152_3 P) .nil .nil) .nil) (.node (o120_3 P) (.node (o184_3 P) .nil .nil) .nil)))) (.node (o12_3 P) (.node (o20_2 P) (.node (o36_2 P) (.node (o68_2 P) (.node (o132_3 P) .nil .nil) (.node (o196_3 P) .nil .nil)) (.node (o100_2 P) (.node (o164_3 P) .nil .nil) .nil)) (.node (o52_2 P) (.node (o84_2 P) (.node (o148_3 P) .nil .nil) .nil) (.node (o116_3 P) (.node (o180_3 P) .nil .nil) .nil))) (.node (o28_2 P) (.node (o44_2 P) (.node (o76_2 P) (.node (o140_3 P) .nil .nil) (.node (o204_3 P) .nil .nil)) (.node (o108_3 P) (.node (o172_3 P) .nil .nil) .nil)) (.node (o60_2 P) (.node (o92_2 P) (.node (o156_3 P) .nil .nil) .nil) (.node (o124_3 P) (.node (o188_3 P) .nil .nil) .nil))))) (.node (boot_o_6 P) (.node (boot_o_10 P) (.node (o18_2 P) (.node (o34_2 P) (.node (o66_2 P) (.node (o130_3 P) .nil .nil) (.node (o194_3 P) .nil .nil)) (.node (o98_2 P) (.node (o162_3 P) .nil .nil) .nil)) (.node (o50_2 P) (.node (o82_2 P) (.node (o146_3 P) .nil .nil) .nil) (.node (o114_3 P) (.node (o178_3 P) .nil .nil) .nil))) (.node (o26_2 P) (.node (o42_2 P) (.node (o74_2 P) (.node (o138_3 P) .nil .nil) (.node (o202_3 P) .nil .nil)) (.node (o106_3 P) (.node (o170_3 P) .nil .nil) .nil)) (.node (o58_2 P) (.node (o90_2 P) (.node (o154_3 P) .nil .nil) .nil) (.node (o122_3 P) (.node (o186_3 P) .nil .nil) .nil)))) (.node (o14_0 P) (.node (o22_2 P) (.node (o38_2 P) (.node (o70_2 P) (.node (o134_3 P) .nil .nil) (.node (o198_3 P) .nil .nil)) (.node (o102_2 P) (.node (o166_3 P) .nil .nil) .nil)) (.node (o54_2 P) (.node (o86_2 P) (.node (o150_3 P) .nil .nil) .nil) (.node (o118_3 P) (.node (o182_3 P) .nil .nil) .nil))) (.node (o30_2 P) (.node (o46_2 P) (.node (o78_2 P) (.node (o142_3 P) .nil .nil) .nil) (.node (o110_3 P) (.node (o174_3 P) .nil .nil) .nil)) (.node (o62_2 P) (.node (o94_2 P) (.node (o158_3 P) .nil .nil) .nil) (.node (o126_3 P) (.node (o190_3 P) .nil .nil) .nil)))))))
noncomputable def lf2 : Life := (Life.mk [] [] [] 0 [] [] Bool.false #[] [] 0 Bool.false Bool.false Bool.false 0 [2000, 10, 10] Bool.false 0 Bool.true [] [] 0 Bool.false)
noncomputable def dr2 : Drawn := (Drawn.mk 0 0 0 0)
noncomputable def st2 (w : World) (os : OsState) : SharedT := ⟨tr2 w.params, 206, lf2, #[], dr2, 447, os⟩
noncomputable def gr2 : List Stmt := ((behindTheImports pg).drop 5).take 3
theorem seg2 : ∀ (w : World) (os : OsState), segRunT treeTable pg w 11 annE 1 948 (st1 w os) (piecesOf gr2 ev cE ⟨9, 0, 34, 16⟩ [topFrame qE]) = some (.next, st2 w os, cE, ⟨72, 0, 79, 32⟩) := by intro w os; kernel_rfl

noncomputable def o3_4 (P : Params) : Obj := (Obj.mk (Value.type "dict") Option.none (Data.dict #[(DictEntry.mk (PyData.keyHash P (Str.ofString "__name__")) (Value.str (Str.ofString "__name__") 165) (Value.str (Str.ofString "doit.dependency") 194)), (DictEntry.mk (PyData.keyHash P (Str.ofString "__doc__")) (Value.str (Str.ofString "__doc__") 166) Value.none), (DictEntry.mk (PyData.keyHash P (Str.ofString "__package__")) (Value.str (Str.ofString "__package__") 167) Value.none), (DictEntry.mk (PyData.keyHash P (Str.ofString "__loader__")) (Value.str (Str.ofString "__loader__") 168) (Value.builtin "__main__.__loader__#opaque")), (DictEntry.mk (PyData.keyHash P (Str.ofString "__spec__")) (Value.str (Str.ofString "__spec__") 169) Value.none), (DictEntry.mk (PyData.keyHash P (Str.ofString "__annotations__")) (Value.str (Str.ofString "__annotations__") 170) (Value.ref 6)), (DictEntry.mk (PyData.keyHash P (Str.ofString "__builtins__")) (Value.str (Str.ofString "__builtins__") 171) (Value.ref 4)), (DictEntry.mk (PyData.keyHash P (Str.ofString "__file__")) (Value.str (Str.ofString "__file__") 173) (Value.str (Str.ofString "/claim/cut.py") 172)), (DictEntry.mk (PyData.keyHash P (Str.ofString "__cached__")) (Value.str (Str.ofString "__cached__") 174) Value.none), (DictEntry.mk (PyData.keyHash P (Str.ofString "_wall")) (Value.str (Str.ofString "_wall") 193) (Value.ref 21)), (DictEntry.mk (PyData.keyHash P (Str.ofString "MissingFile")) (Value.str (Str.ofString "MissingFile") 215) (Value.ref 31)), (DictEntry.mk (PyData.keyHash P (Str.ofString "get_md5")) (Value.str (Str.ofString "get_md5") 222) (Value.ref 41)), (DictEntry.mk (PyData.keyHash P (Str.ofString "JsonDB")) (Value.str (Str.ofString "JsonDB") 300) (Value.ref 100)), (DictEntry.mk (PyData.keyHash P (Str.ofString "FileChangedChecker")) (Value.str (Str.ofString "FileChangedChecker") 366) (Value.ref 149)), (DictEntry.mk (PyData.keyHash P (Str.ofString "MD5Checker")) (Value.str (Str.ofString "MD5Checker") 409) (Value.ref 177)), (DictEntry.mk (PyData.keyHash P (Str.ofString "TimestampChecker")) (Value.str (Str.ofString "TimestampChecker") 446) (Value.ref 203)), (DictEntry.mk (PyData.keyHash P (Str.ofString "DependencyStatus")) (Value.str (Str.ofString "DependencyStatus") 505) (Value.ref 244))] 17) #[])
noncomputable def o12_4 (P : Params) : Obj := (Obj.mk Value.none Option.none (Data.fields #[(Value.int 1 0), (Value.int 0 0), (Value.ref 20), (Value.int 5 0), (Value.int 0 0), (Value.ref 27), (Value.int 7 0), (Value.int 0 0), (Value.ref 40), (Value.int 9 0), (Value.int 0 0), (Value.ref 47), (Value.int 35 0), (Value.int 0 0), (Value.ref 110), (Value.int 54 0), (Value.int 0 0), (Value.ref 159), (Value.int 72 0), (Value.int 0 0), (Value.ref 185), (Value.int 80 0), (Value.int 0 0), (Value.ref 211)]) #[])
noncomputable def o206_4 (P : Params) : Obj := (Obj.mk (Value.type "tuple") Option.none (Data.seq #[] 0) #[])
noncomputable def o207_4 (P : Params) : Obj := (Obj.mk (Value.type "builtin_function_or_method") Option.none (Data.fields #[(Value.builtin "type.__prepare__"), (Value.type "type")]) #[])
noncomputable def o208_4 (P : Params) : Obj := (Obj.mk (Value.type "dict") Option.none (Data.dict #[(DictEntry.mk (PyData.keyHash P (Str.ofString "__module__")) (Value.str (Str.ofString "__module__") 454) (Value.str (Str.ofString "doit.dependency") 194)), (DictEntry.mk (PyData.keyHash P (Str.ofString "__qualname__")) (Value.str (Str.ofString "__qualname__") 456) (Value.str (Str.ofString "DependencyStatus") 455)), (DictEntry.mk (PyData.keyHash P (Str.ofString "__firstlineno__")) (Value.str (Str.ofString "__firstlineno__") 458) (Value.int 80 457)), (DictEntry.mk (PyData.keyHash P (Str.ofString "__init__")) (Value.str (Str.ofString "__init__") 466) (Value.ref 219)), (DictEntry.mk (PyData.keyHash P (Str.ofString "add_reason")) (Value.str (Str.ofString "add_reason") 477) (Value.ref 227)), (DictEntry.mk (PyData.keyHash P (Str.ofString "set_reason")) (Value.str (Str.ofString "set_reason") 486) (Value.ref 234)), (DictEntry.mk (PyData.keyHash P (Str.ofString "get_error_message")) (Value.str (Str.ofString "get_error_message") 493) (Value.ref 241)), (DictEntry.mk (PyData.keyHash P (Str.ofString "__static_attributes__")) (Value.str (Str.ofString "__static_attributes__") 498) (Value.ref 242))] 8) #[])
noncomputable def o209_4 (P : Params) : Obj := (Obj.mk (Value.type "tuple") Option.none (Data.seq #[] 0) #[])
noncomputable def o210_4 (P : Params) : Obj := (Obj.mk Value.none Option.none (Data.fields #[(Value.int 82 0), (Value.int 4 0), (Value.ref 218), (Value.int 88 0), (Value.int 4 0), (Value.ref 226), (Value.int 96 0), (Value.int 4 0), (Value.ref 233), (Value.int 102 0), (Value.int 4 0), (Value.ref 240)]) #[])
noncomputable def o211_4 (P : Params) : Obj := (Obj.mk (Value.type "code") Option.none (Data.fields #[(Value.str (Str.ofString "DependencyStatus") 449), (Value.str (Str.ofString "DependencyStatus") 450), (Value.str (Str.ofString "/claim/cut.py") 451), (Value.int 80 0), (Value.int 0 0), (Value.int 0 0), (Value.int 0 0), (Value.int 0 0), (Value.ref 209), (Value.bool Bool.false), (Value.int 181 0), (Value.ref 210), Value.none, Value.none, Value.none, Value.none, (Value.int 452 0), (Value.int 80 0), (Value.str (Str.ofString "/claim/cut.py") 453)]) #[])
noncomputable def o212_4 (P : Params) : Obj := (Obj.mk (Value.type "frame") Option.none Data.plain #[(Option.some (Value.ref 211)), (Option.some (Value.ref 3)), (Option.some (Value.ref 208)), Option.none, (Option.some (Value.str (Str.ofString "doit.dependency") 194)), Option.none, (Option.some (Value.ref 0))])
noncomputable def o213_4 (P : Params) : Obj := (Obj.mk (Value.type "tuple") Option.none (Data.seq #[] 0) #[])
noncomputable def o214_4 (P : Params) : Obj := (Obj.mk Value.none Option.none (Data.fields #[]) #[])
noncomputable def o215_4 (P : Params) : Obj := (Obj.mk (Value.type "tuple") Option.none (Data.seq #[(Value.str (Str.ofString "self") 462), (Value.str (Str.ofString "get_log") 463)] 0) #[])
noncomputable def o216_4 (P : Params) : Obj := (Obj.mk (Value.type "tuple") Option.none (Data.seq #[] 0) #[])
noncomputable def o217_4 (P : Params) : Obj := (Obj.mk Value.none Option.none (Data.func (FuncData.mk (Str.ofString "__init__") (Str.ofString "DependencyStatus.__init__") (fa [8, 0]) (fb [8, 0]) (fs [8, 0]) 0 [] Value.none Value.none Value.none Value.none Option.none Value.none Value.none 0)) #[])
noncomputable def o218_4 (P : Params) : Obj := (Obj.mk (Value.type "code") Option.none (Data.fields #[(Value.str (Str.ofString "__init__") 459), (Value.str (Str.ofString "DependencyStatus.__init__") 460), (Value.str (Str.ofString "/claim/cut.py") 461), (Value.int 82 0), (Value.int 2 0), (Value.int 0 0), (Value.int 0 0), (Value.int 3 0), (Value.ref 213), (Value.bool Bool.true), (Value.int 181 0), (Value.ref 214), Value.none, (Value.ref 215), (Value.ref 216), (Value.ref 217), (Value.int 464 0), (Value.int 82 0), (Value.str (Str.ofString "/claim/cut.py") 465)]) #[])
noncomputable def o219_4 (P : Params) : Obj := (Obj.mk (Value.type "function") Option.none (Data.func (FuncData.mk (Str.ofString "__init__") (Str.ofString "DependencyStatus.__init__") (fa [8, 0]) (fb [8, 0]) (fs [8, 0]) 3 [] Value.none Value.none Value.none (Value.str (Str.ofString "doit.dependency") 194) Option.none (Value.ref 218) Value.none 0)) #[])
noncomputable def o220_4 (P : Params) : Obj := (Obj.mk (Value.type "tuple") Option.none (Data.seq #[(Value.str (Str.ofString "run") 467)] 0) #[])
noncomputable def o221_4 (P : Params) : Obj := (Obj.mk (Value.type "tuple") Option.none (Data.seq #[] 0) #[])
noncomputable def o222_4 (P : Params) : Obj := (Obj.mk Value.none Option.none (Data.fields #[]) #[])
noncomputable def o223_4 (P : Params) : Obj := (Obj.mk (Value.type "tuple") Option.none (Data.seq #[(Value.str (Str.ofString "self") 471), (Value.str (Str.ofString "reason") 472), (Value.str (Str.ofString "arg") 473), (Value.str (Str.ofString "status") 474)] 0) #[])
noncomputable def o224_4 (P : Params) : Obj := (Obj.mk (Value.type "tuple") Option.none (Data.seq #[] 0) #[])
noncomputable def o225_4 (P : Params) : Obj := (Obj.mk Value.none Option.none (Data.func (FuncData.mk (Str.ofString "add_reason") (Str.ofString "DependencyStatus.add_reason") (fa [8, 1]) (fb [8, 1]) (fs [8, 1]) 0 [] Value.none Value.none Value.none Value.none Option.none Value.none Value.none 0)) #[])
noncomputable def o226_4 (P : Params) : Obj := (Obj.mk (Value.type "code") Option.none (Data.fields #[(Value.str (Str.ofString "add_reason") 468), (Value.str (Str.ofString "DependencyStatus.add_reason") 469), (Value.str (Str.ofString "/claim/cut.py") 470), (Value.int 88 0), (Value.int 4 0), (Value.int 0 0), (Value.int 0 0), (Value.int 3 0), (Value.ref 221), (Value.bool Bool.true), (Value.int 181 0), (Value.ref 222), Value.none, (Value.ref 223), (Value.ref 224), (Value.ref 225), (Value.int 475 0), (Value.int 88 0), (Value.str (Str.ofString "/claim/cut.py") 476)]) #[])
noncomputable def o227_4 (P : Params) : Obj := (Obj.mk (Value.type "function") Option.none (Data.func (FuncData.mk (Str.ofString "add_reason") (Str.ofString "DependencyStatus.add_reason") (fa [8, 1]) (fb [8, 1]) (fs [8, 1]) 3 [] (Value.ref 220) Value.none Value.none (Value.str (Str.ofString "doit.dependency") 194) Option.none (Value.ref 226) Value.none 0)) #[])
noncomputable def o228_4 (P : Params) : Obj := (Obj.mk (Value.type "tuple") Option.none (Data.seq #[] 0) #[])
noncomputable def o229_4 (P : Params) : Obj := (Obj.mk Value.none Option.none (Data.fields #[]) #[])
noncomputable def o230_4 (P : Params) : Obj := (Obj.mk (Value.type "tuple") Option.none (Data.seq #[(Value.str (Str.ofString "self") 481), (Value.str (Str.ofString "reason") 482), (Value.str (Str.ofString "arg") 483)] 0) #[])
noncomputable def o231_4 (P : Params) : Obj := (Obj.mk (Value.type "tuple") Option.none (Data.seq #[] 0) #[])
noncomputable def o232_4 (P : Params) : Obj := (Obj.mk Value.none Option.none (Data.func (FuncData.mk (Str.ofString "set_reason") (Str.ofString "DependencyStatus.set_reason") (fa [8, 2]) (fb [8, 2]) (fs [8, 2]) 0 [] Value.none Value.none Value.none Value.none Option.none Value.none Value.none 0)) #[])
noncomputable def o233_4 (P : Params) : Obj := (Obj.mk (Value.type "code") Option.none (Data.fields #[(Value.str (Str.ofString "set_reason") 478), (Value.str (Str.ofString "DependencyStatus.set_reason") 479), (Value.str (Str.ofString "/claim/cut.py") 480), (Value.int 96 0), (Value.int 3 0), (Value.int 0 0), (Value.int 0 0), (Value.int 3 0), (Value.ref 228), (Value.bool Bool.true), (Value.int 181 0), (Value.ref 229), Value.none, (Value.ref 230), (Value.ref 231), (Value.ref 232), (Value.int 484 0), (Value.int 96 0), (Value.str (Str.ofString "/claim/cut.py") 485)]) #[])
noncomputable def o234_4 (P : Params) : Obj := (Obj.mk (Value.type "function") Option.none (Data.func (FuncData.mk (Str.ofString "set_reason") (Str.ofString "DependencyStatus.set_reason") (fa [8, 2]) (fb [8, 2]) (fs [8, 2]) 3 [] Value.none Value.none Value.none (Value.str (Str.ofString "doit.dependency") 194) Option.none (Value.ref 233) Value.none 0)) #[])
noncomputable def o235_4 (P : Params) : Obj := (Obj.mk (Value.type "tuple") Option.none (Data.seq #[] 0) #[])
noncomputable def o236_4 (P : Params) : Obj := (Obj.mk Value.none Option.none (Data.fields #[]) #[])
noncomputable def o237_4 (P : Params) : Obj := (Obj.mk (Value.type "tuple") Option.none (Data.seq #[(Value.str (Str.ofString "self") 490)] 0) #[])
noncomputable def o238_4 (P : Params) : Obj := (Obj.mk (Value.type "tuple") Option.none (Data.seq #[] 0) #[])
noncomputable def o239_4 (P : Params) : Obj := (Obj.mk Value.none Option.none (Data.func (FuncData.mk (Str.ofString "get_error_message") (Str.ofString "DependencyStatus.get_error_message") (fa [8, 3]) (fb [8, 3]) (fs [4, 6]) 0 [] Value.none Value.none Value.none Value.none Option.none Value.none Value.none 0)) #[])
noncomputable def o240_4 (P : Params) : Obj := (Obj.mk (Value.type "code") Option.none (Data.fields #[(Value.str (Str.ofString "get_error_message") 487), (Value.str (Str.ofString "DependencyStatus.get_error_message") 488), (Value.str (Str.ofString "/claim/cut.py") 489), (Value.int 102 0), (Value.int 1 0), (Value.int 0 0), (Value.int 0 0), (Value.int 3 0), (Value.ref 235), (Value.bool Bool.true), (Value.int 181 0), (Value.ref 236), Value.none, (Value.ref 237), (Value.ref 238), (Value.ref 239), (Value.int 491 0), (Value.int 102 0), (Value.str (Str.ofString "/claim/cut.py") 492)]) #[])
noncomputable def o241_4 (P : Params) : Obj := (Obj.mk (Value.type "function") Option.none (Data.func (FuncData.mk (Str.ofString "get_error_message") (Str.ofString "DependencyStatus.get_error_message") (fa [8, 3]) (fb [8, 3]) (fs [4, 6]) 3 [] Value.none Value.none Value.none (Value.str (Str.ofString "doit.dependency") 194) Option.none (Value.ref 240) Value.none 0)) #[])
noncomputable def o242_4 (P : Params) : Obj := (Obj.mk (Value.type "tuple") Option.none (Data.seq #[(Value.str (Str.ofString "error_reason") 494), (Value.str (Str.ofString "get_log") 495), (Value.str (Str.ofString "reasons") 496), (Value.str (Str.ofString "status") 497)] 0) #[])
noncomputable def o243_4 (P : Params) : Obj := (Obj.mk (Value.type "dict") Option.none (Data.dict #[(DictEntry.mk (PyData.keyHash P (Str.ofString "__module__")) (Value.str (Str.ofString "__module__") 454) (Value.str (Str.ofString "doit.dependency") 194)), (DictEntry.mk (PyData.keyHash P (Str.ofString "__firstlineno__")) (Value.str (Str.ofString "__firstlineno__") 458) (Value.int 80 457)), (DictEntry.mk (PyData.keyHash P (Str.ofString "__init__")) (Value.str (Str.ofString "__init__") 466) (Value.ref 219)), (DictEntry.mk (PyData.keyHash P (Str.ofString "add_reason")) (Value.str (Str.ofString "add_reason") 477) (Value.ref 227)), (DictEntry.mk (PyData.keyHash P (Str.ofString "set_reason")) (Value.str (Str.ofString "set_reason") 486) (Value.ref 234)), (DictEntry.mk (PyData.keyHash P (Str.ofString "get_error_message")) (Value.str (Str.ofString "get_error_message") 493) (Value.ref 241)), (DictEntry.mk (PyData.keyHash P (Str.ofString "__static_attributes__")) (Value.str (Str.ofString "__static_attributes__") 498) (Value.ref 242)), (DictEntry.mk (PyData.keyHash P (Str.ofString "__dict__")) (Value.str (Str.ofString "__dict__") 500) (Value.ref 245)), (DictEntry.mk (PyData.keyHash P (Str.ofString "__weakref__")) (Value.str (Str.ofString "__weakref__") 502) (Value.ref 246)), (DictEntry.mk (PyData.keyHash P (Str.ofString "__doc__")) (Value.str (Str.ofString "__doc__") 503) Value.none)] 4) #[])
noncomputable def o244_4 (P : Params) : Obj := (Obj.mk (Value.type "type") Option.none (Data.cls (ClassData.mk (Str.ofString "DependencyStatus") [(Value.type "object")] [(Value.ref 244), (Value.type "object")] 243 (Str.ofString "DependencyStatus") Bool.true [] [] Bool.false Option.none Bool.false)) #[Option.none, Option.none, (Option.some (Value.str (Str.ofString "DependencyStatus") 447)), (Option.some (Value.str (Str.ofString "DependencyStatus") 455)), (Option.some (Value.builtin "object.__new__")), (Option.some (Value.bool Bool.true))])
noncomputable def o245_4 (P : Params) : Obj := (Obj.mk (Value.type "getset_descriptor") Option.none (Data.fields #[(Value.str (Str.ofString "__dict__") 499), (Value.ref 244), (Value.builtin "function.__dict__"), (Value.builtin "function.__dict__#set")]) #[])
noncomputable def o246_4 (P : Params) : Obj := (Obj.mk (Value.type "getset_descriptor") Option.none (Data.fields #[(Value.str (Str.ofString "__weakref__") 501), (Value.ref 244), (Value.builtin "ExceptionGroup.__weakref__"), Value.none]) #[])
noncomputable def o247_4 (P : Params) : Obj := (Obj.mk (Value.type "super") Option.none (Data.fields #[(Value.ref 244), (Value.ref 244), (Value.ref 244)]) #[])
noncomputable def o248_4 (P : Params) : Obj := (Obj.mk (Value.type "builtin_function_or_method") Option.none (Data.fields #[(Value.builtin "object.__init_subclass__"), (Value.ref 244)]) #[])
noncomputable def tr3 (P : Params) : BT := (.node (boot_o_0 P) (.node (boot_o_1 P) (.node (o3_4 P) (.node (boot_o_7 P) (.node (o15_2 P) (.node (o31_2 P) (.node (o63_2 P) (.node (o127_3 P) .nil .nil) (.node (o191_3 P) .nil .nil)) (.node (o95_2 P) (.node (o159_3 P) .nil .nil) (.node (o223_4 P) .nil .nil))) (.node (o47_2 P) (.node (o79_2 P) (.node (o143_3 P) .nil .nil) (.node (o207_4 P) .nil .nil)) (.node (o111_3 P) (.node (o175_3 P) .nil .nil) (.node (o239_4 P) .nil .nil)))) (.node (o23_2 P) (.node (o39_2 P) (.node (o71_2 P) (.node (o135_3 P) .nil .nil) (.node (o199_3 P) .nil .nil)) (.node (o103_2 P) (.node (o167_3 P) .nil .nil) (.node (o231_4 P) .nil .nil))) (.node (o55_2 P) (.node (o87_2 P) (.node (o151_3 P) .nil .nil) (.node (o215_4 P) .nil .nil)) (.node (o119_3 P) (.node (o183_3 P) .nil .nil) (.node (o247_4 P) .nil .nil))))) (.node (o11_0 P) (.node (o19_2 P) (.node (o35_2 P) (.node (o67_2 P) (.node (o131_3 P) .nil .nil) (.node (o195_3 P) .nil .nil)) (.node (o99_2 P) (.node (o163_3 P) .nil .nil) (.node (o227_4 P) .nil .nil))) (.node (o51_2 P) (.node (o83_2 P) (.node (o147_3 P) .nil .nil) (.node (o211_4 P) .nil .nil)) (.node (o115_3 P) (.node (o179_3 P) .nil .nil) (.node (o243_4 P) .nil .nil)))) (.node (o27_2 P) (.node (o43_2 P) (.node (o75_2 P) (.node (o139_3 P) .nil .nil) (.node (o203_3 P) .nil .nil)) (.node (o107_3 P) (.node (o171_3 P) .nil .nil) (.node (o235_4 P) .nil .nil))) (.node (o59_2 P) (.node (o91_2 P) (.node (o155_3 P) .nil .nil) (.node (o219_4 P) .nil .nil)) (.node (o123_3 P) (.node (o187_3 P) .nil .nil) .nil))))) (.node (boot_o_5 P) (.node (boot_o_9 P) (.node (o17_2 P) (.node (o33_2 P) (.node (o65_2 P) (.node (o129_3 P) .nil .nil) (.node (o193_3 P) .nil .nil)) (.node (o97_2 P) (.node (o161_3 P) .nil .nil) (.node (o225_4 P) .nil .nil))) (.node (o49_2 P) (.node (o81_2 P) (.node (o145_3 P) .nil .nil) (.node (o209_4 P) .nil .nil)) (.node (o113_3 P) (.node (o177_3 P) .nil .nil) (.node (o241_4 P) .nil .nil)))) (.node (o25_2 P) (.node (o41_2 P) (.node (o73_2 P) (.node (o137_3 P) .nil .nil) (.node (o201_3 P) .nil .nil)) (.node (o105_3 P) (.node (o169_3 P) .nil .nil) (.node (o233_4 P) .nil .nil))) (.node (o57_2 P) (.node (o89_2 P) (.node (o153_3 P) .nil .nil) (.node (o217_4 P) .nil .nil)) (.node (o121_3 P) (.node (o185_3 P) .nil .nil) .nil)))) (.node (o13_0 P) (.node (o21_2 P) (.node (o37_2 P) (.node (o69_2 P) (.node (o133_3 P) .nil .nil) (.node (o197_3 P) .nil .nil)) (.node (o101_2 P) (.node (o165_3 P) .nil .nil) (.node (o229_4 P) .nil .nil))) (.node (o53_2 P) (.node (o85_2 P) (.node (o149_3 P) .nil .nil) (.node (o213_4 P) .nil .nil)) (.node (o117_3 P) (.node (o181_3 P) .nil .nil) (.node (o245_4 P) .nil .nil)))) (.node (o29_2 P) (.node (o45_2 P) (.node (o77_2 P) (.node (o141_3 P) .nil .nil) (.node (o205_3 P) .nil .nil)) (.node (o109_3 P) (.node (o173_3 P) .nil .nil) (.node (o237_4 P) .nil .nil))) (.node (o61_2 P) (.node (o93_2 P) (.node (o157_3 P) .nil .nil) (.node (o221_4 P) .nil .nil)) (.node (o125_3 P) (.node (o189_3 P) .nil .nil) .nil)))))) (.node (o2_2 P) (.node (boot_o_4 P) (.node (boot_o_8 P) (.node (o16_2 P) (.node (o32_2 P) (.node (o64_2 P) (.node (o128_3 P) .nil .nil) (.node (o192_3 P) .nil .nil)) (.node (o96_2 P) (.node (o160_3 P) .nil .nil) (.node (o224_4 P) .nil .nil))) (.node (o48_2 P) (.node (o80_2 P) (.node (o144_3 P) .nil .nil) (.node (o208_4 P) .nil .nil)) (.node (o112_3 P) (.node (o176_3 P) .nil .nil) (.node (o240_4 P) .nil .nil)))) (.node (o24_2 P) (.node (o40_2 P) (.node (o72_2 P) (.node (o136_3 P) .nil .nil) (.node (o200_3 P) .nil .nil)) (.node (o104_2 P) (.node (o168_3 P) .nil .nil) (.node (o232_4 P) .nil .nil))) (.node (o56_2 P) (.node (o88_2 P) (.node (o152_3 P) .nil .nil) (.node (o216_4 P) .nil .nil)) (.node (o120_3 P) (.node (o184_3 P) .nil .nil) (.node (o248_4 P) .nil .nil))))) (.node (o12_4 P) (.node (o20_2 P) (.node (o36_2 P) (.node (o68_2 P) (.node (o132_3 P) .nil .nil) (.node (o196_3 P) .nil .nil)) (.node (o100_2 P) (.node (o164_3 P) .nil .nil) (.node (o228_4 P) .nil .nil))) (.node (o52_2 P) (.node (o84_2 P) (.node (o148_3 P) .nil .nil) (.node (o212_4 P) .nil .nil)) (.node (o116_3 P) (.node (o180_3 P) .nil .nil) (.node (o244_4 P) .nil .nil)))) (.node (o28_2 P) (.node (o44_2 P) (.node (o76_2 P) (.node (o140_3 P) .nil .nil) (.node (o204_3 P) .nil .nil)) (.node (o108_3 P) (.node (o172_3 P) .nil .nil) (.node (o236_4 P) .nil .nil))) (.node (o60_2 P) (.node (o92_2 P) (.node (o156_3 P) .nil .nil) (.node (o220_4 P) .nil .nil)) (.node (o124_3 P) (.node (o188_3 P) .nil .nil) .nil))))) (.node (boot_o_6 P) (.node (boot_o_10 P) (.node (o18_2 P) (.node (o34_2 P) (.node (o66_2 P) (.node (o130_3 P) .nil .nil) (.node (o194_3 P) .nil .nil)) (.node (o98_2 P) (.node (o162_3 P) .nil .nil) (.node (o226_4 P) .nil .nil))) (.node (o50_2 P) (.node (o82_2 P) (.node (o146_3 P) .nil .nil) (.node (o210_4 P) .nil .nil)) (.node (o114_3 P) (.node (o178_3 P) .nil .nil) (.node (o242_4 P) .nil .nil)))) (.node (o26_2 P) (.node (o42_2 P) (.node (o74_2 P) (.node (o138_3 P) .nil .nil) (.node (o202_3 P) .nil .nil)) (.node (o106_3 P) (.node (o170_3 P) .nil .nil) (.node (o234_4 P) .nil .nil))) (.node (o58_2 P) (.node (o90_2 P) (.node (o154_3 P) .nil .nil) (.node (o218_4 P) .nil .nil)) (.node (o122_3 P) (.node (o186_3 P) .nil .nil) .nil)))) (.node (o14_0 P) (.node (o22_2 P) (.node (o38_2 P) (.node (o70_2 P) (.node (o134_3 P) .nil .nil) (.node (o198_3 P) .nil .nil)) (.node (o102_2 P) (.node (o166_3 P) .nil .nil) (.node (o230_4 P) .nil .nil))) (.node (o54_2 P) (.node (o86_2 P) (.node (o150_3 P) .nil .nil) (.node (o214_4 P) .nil .nil)) (.node (o118_3 P) (.node (o182_3 P) .nil .nil) (.node (o246_4 P) .nil .nil)))) (.node (o30_2 P) (.node (o46_2 P) (.node (o78_2 P) (.node (o142_3 P) .nil .nil) (.node (o206_4 P) .nil .nil)) (.node (o110_3 P) (.node (o174_3 P) .nil .nil) (.node (o238_4 P) .nil .nil))) (.node (o62_2 P) (.node (o94_2 P) (.node (o158_3 P) .nil .nil) (.node (o222_4 P) .nil .nil)) (.node (o126_3 P) (.node (o190_3 P) .nil .nil) .nil)))))))
noncomputable def lf3 : Life := (Life.mk [] [] [] 0 [] [] Bool.false #[] [] 0 Bool.false Bool.false Bool.false 0 [2000, 10, 10] Bool.false 0 Bool.true [] [] 0 Bool.false)
noncomputable def dr3 : Drawn := (Drawn.mk 0 0 0 0)
noncomputable def st3 (w : World) (os : OsState) : SharedT := ⟨tr3 w.params, 249, lf3, #[], dr3, 506, os⟩
noncomputable def gr3 : List Stmt := ((behindTheImports pg).drop 8).take 1
theorem seg3 : ∀ (w : World) (os : OsState), segRunT treeTable pg w 11 annE 1 326 (st2 w os) (piecesOf gr3 ev cE ⟨72, 0, 79, 32⟩ [topFrame qE]) = some (.next, st3 w os, cE, ⟨80, 0, 103, 16⟩) := by intro w os; kernel_rfl

noncomputable def o3_5 (P : Params) : Obj := (Obj.mk (Value.type "dict") Option.none (Data.dict #[(DictEntry.mk (PyData.keyHash P (Str.ofString "__name__")) (Value.str (Str.ofString "__name__") 165) (Value.str (Str.ofString "doit.dependency") 194)), (DictEntry.mk (PyData.keyHash P (Str.ofString "__doc__")) (Value.str (Str.ofString "__doc__") 166) Value.none), (DictEntry.mk (PyData.keyHash P (Str.ofString "__package__")) (Value.str (Str.ofString "__package__") 167) Value.none), (DictEntry.mk (PyData.keyHash P (Str.ofString "__loader__")) (Value.str (Str.ofString "__loader__") 168) (Value.builtin "__main__.__loader__#opaque")), (DictEntry.mk (PyData.keyHash P (Str.ofString "__spec__")) (Value.str (Str.ofString "__spec__") 169) Value.none), (DictEntry.mk (PyData.keyHash P (Str.ofString "__annotations__")) (Value.str (Str.ofString "__annotations__") 170) (Value.ref 6)), (DictEntry.mk (PyData.keyHash P (Str.ofString "__builtins__")) (Value.str (Str.ofString "__builtins__") 171) (Value.ref 4)), (DictEntry.mk (PyData.keyHash P (Str.ofString "__file__")) (Value.str (Str.ofString "__file__") 173) (Value.str (Str.ofString "/claim/cut.py") 172)), (DictEntry.mk (PyData.keyHash P (Str.ofString "__cached__")) (Value.str (Str.ofString "__cached__") 174) Value.none), (DictEntry.mk (PyData.keyHash P (Str.ofString "_wall")) (Value.str (Str.ofString "_wall") 193) (Value.ref 21)), (DictEntry.mk (PyData.keyHash P (Str.ofString "MissingFile")) (Value.str (Str.ofString "MissingFile") 215) (Value.ref 31)), (DictEntry.mk (PyData.keyHash P (Str.ofString "get_md5")) (Value.str (Str.ofString "get_md5") 222) (Value.ref 41)), (DictEntry.mk (PyData.keyHash P (Str.ofString "JsonDB")) (Value.str (Str.ofString "JsonDB") 300) (Value.ref 100)), (DictEntry.mk (PyData.keyHash P (Str.ofString "FileChangedChecker")) (Value.str (Str.ofString "FileChangedChecker") 366) (Value.ref 149)), (DictEntry.mk (PyData.keyHash P (Str.ofString "MD5Checker")) (Value.str (Str.ofString "MD5Checker") 409) (Value.ref 177)), (DictEntry.mk (PyData.keyHash P (Str.ofString "TimestampChecker")) (Value.str (Str.ofString "TimestampChecker") 446) (Value.ref 203)), (DictEntry.mk (PyData.keyHash P (Str.ofString "DependencyStatus")) (Value.str (Str.ofString "DependencyStatus") 505) (Value.ref 244)), (DictEntry.mk (PyData.keyHash P (Str.ofString "Dependency")) (Value.str (Str.ofString "Dependency") 653) (Value.ref 363))] 18) #[])
noncomputable def o12_5 (P : Params) : Obj := (Obj.mk Value.none Option.none (Data.fields #[(Value.int 1 0), (Value.int 0 0), (Value.ref 20), (Value.int 5 0), (Value.int 0 0), (Value.ref 27), (Value.int 7 0), (Value.int 0 0), (Value.ref 40), (Value.int 9 0), (Value.int 0 0), (Value.ref 47), (Value.int 35 0), (Value.int 0 0), (Value.ref 110), (Value.int 54 0), (Value.int 0 0), (Value.ref 159), (Value.int 72 0), (Value.int 0 0), (Value.ref 185), (Value.int 80 0), (Value.int 0 0), (Value.ref 211), (Value.int 104 0), (Value.int 0 0), (Value.ref 254)]) #[])
noncomputable def o249_5 (P : Params) : Obj := (Obj.mk (Value.type "tuple") Option.none (Data.seq #[] 0) #[])
noncomputable def o250_5 (P : Params) : Obj := (Obj.mk (Value.type "builtin_function_or_method") Option.none (Data.fields #[(Value.builtin "type.__prepare__"), (Value.type "type")]) #[])
noncomputable def o251_5 (P : Params) : Obj := (Obj.mk (Value.type "dict") Option.none (Data.dict #[(DictEntry.mk (PyData.keyHash P (Str.ofString "__module__")) (Value.str (Str.ofString "__module__") 513) (Value.str (Str.ofString "doit.dependency") 194)), (DictEntry.mk (PyData.keyHash P (Str.ofString "__qualname__")) (Value.str (Str.ofString "__qualname__") 515) (Value.str (Str.ofString "Dependency") 514)), (DictEntry.mk (PyData.keyHash P (Str.ofString "__firstlineno__")) (Value.str (Str.ofString "__firstlineno__") 517) (Value.int 104 516)), (DictEntry.mk (PyData.keyHash P (Str.ofString "__init__")) (Value.str (Str.ofString "__init__") 526) (Value.ref 262)), (DictEntry.mk (PyData.keyHash P (Str.ofString "_set")) (Value.str (Str.ofString "_set") 536) (Value.ref 269)), (DictEntry.mk (PyData.keyHash P (Str.ofString "_get")) (Value.str (Str.ofString "_get") 545) (Value.ref 276)), (DictEntry.mk (PyData.keyHash P (Str.ofString "remove")) (Value.str (Str.ofString "remove") 553) (Value.ref 283)), (DictEntry.mk (PyData.keyHash P (Str.ofString "remove_all")) (Value.str (Str.ofString "remove_all") 560) (Value.ref 290)), (DictEntry.mk (PyData.keyHash P (Str.ofString "_in")) (Value.str (Str.ofString "_in") 568) (Value.ref 297)), (DictEntry.mk (PyData.keyHash P (Str.ofString "close")) (Value.str (Str.ofString "close") 575) (Value.ref 304)), (DictEntry.mk (PyData.keyHash P (Str.ofString "save_success")) (Value.str (Str.ofString "save_success") 586) (Value.ref 312)), (DictEntry.mk (PyData.keyHash P (Str.ofString "get_values")) (Value.str (Str.ofString "get_values") 595) (Value.ref 319)), (DictEntry.mk (PyData.keyHash P (Str.ofString "get_value")) (Value.str (Str.ofString "get_value") 604) (Value.ref 326)), (DictEntry.mk (PyData.keyHash P (Str.ofString "get_result")) (Value.str (Str.ofString "get_result") 612) (Value.ref 333)), (DictEntry.mk (PyData.keyHash P (Str.ofString "remove_success")) (Value.str (Str.ofString "remove_success") 620) (Value.ref 340)), (DictEntry.mk (PyData.keyHash P (Str.ofString "ignore")) (Value.str (Str.ofString "ignore") 628) (Value.ref 347)), (DictEntry.mk (PyData.keyHash P (Str.ofString "status_is_ignore")) (Value.str (Str.ofString "status_is_ignore") 636) (Value.ref 354)), (DictEntry.mk (PyData.keyHash P (Str.ofString "get_status")) (Value.str (Str.ofString "get_status") 642) (Value.ref 360)), (DictEntry.mk (PyData.keyHash P (Str.ofString "__static_attributes__")) (Value.str (Str.ofString "__static_attributes__") 646) (Value.ref 361))] 19) #[])
noncomputable def o252_5 (P : Params) : Obj := (Obj.mk (Value.type "tuple") Option.none (Data.seq #[] 0) #[])
noncomputable def o253_5 (P : Params) : Obj := (Obj.mk Value.none Option.none (Data.fields #[(Value.int 106 0), (Value.int 4 0), (Value.ref 261), (Value.int 111 0), (Value.int 4 0), (Value.ref 268), (Value.int 114 0), (Value.int 4 0), (Value.ref 275), (Value.int 117 0), (Value.int 4 0), (Value.ref 282), (Value.int 120 0), (Value.int 4 0), (Value.ref 289), (Value.int 123 0), (Value.int 4 0), (Value.ref 296), (Value.int 126 0), (Value.int 4 0), (Value.ref 303), (Value.int 131 0), (Value.int 4 0), (Value.ref 311), (Value.int 147 0), (Value.int 4 0), (Value.ref 318), (Value.int 151 0), (Value.int 4 0), (Value.ref 325), (Value.int 154 0), (Value.int 4 0), (Value.ref 332), (Value.int 157 0), (Value.int 4 0), (Value.ref 339), (Value.int 160 0), (Value.int 4 0), (Value.ref 346), (Value.int 163 0), (Value.int 4 0), (Value.ref 353), (Value.int 166 0), (Value.int 4 0), (Value.ref 359)]) #[])
noncomputable def o254_5 (P : Params) : Obj := (Obj.mk (Value.type "code") Option.none (Data.fields #[(Value.str (Str.ofString "Dependency") 508), (Value.str (Str.ofString "Dependency") 509), (Value.str (Str.ofString "/claim/cut.py") 510), (Value.int 104 0), (Value.int 0 0), (Value.int 0 0), (Value.int 0 0), (Value.int 0 0), (Value.ref 252), (Value.bool Bool.false), (Value.int 181 0), (Value.ref 253), Value.none, Value.none, Value.none, Value.none, (Value.int 511 0), (Value.int 104 0), (Value.str (Str.ofString "/claim/cut.py") 512)]) #[])
noncomputable def o255_5 (P : Params) : Obj := (Obj.mk (Value.type "frame") Option.none Data.plain #[(Option.some (Value.ref 254)), (Option.some (Value.ref 3)), (Option.some (Value.ref 251)), Option.none, (Option.some (Value.str (Str.ofString "doit.dependency") 194)), Option.none, (Option.some (Value.ref 0))])
noncomputable def o256_5 (P : Params) : Obj := (Obj.mk (Value.type "tuple") Option.none (Data.seq #[] 0) #[])
noncomputable def o257_5 (P : Params) : Obj := (Obj.mk Value.none Option.none (Data.fields #[]) #[])
noncomputable def o258_5 (P : Params) : Obj := (Obj.mk (Value.type "tuple") Option.none (Data.seq #[(Value.str (Str.ofString "self") 521), (Value.str (Str.ofString "backend") 522), (Value.str (Str.ofString "checker") 523)] 0) #[])
noncomputable def o259_5 (P : Params) : Obj := (Obj.mk (Value.type "tuple") Option.none (Data.seq #[] 0) #[])
noncomputable def o260_5 (P : Params) : Obj := (Obj.mk Value.none Option.none (Data.func (FuncData.mk (Str.ofString "__init__") (Str.ofString "Dependency.__init__") (fa [9, 0]) (fb [9, 0]) (fs [9, 0]) 0 [] Value.none Value.none Value.none Value.none Option.none Value.none Value.none 0)) #[])
noncomputable def o261_5 (P : Params) : Obj := (Obj.mk (Value.type "code") Option.none (Data.fields #[(Value.str (Str.ofString "__init__") 518), (Value.str (Str.ofString "Dependency.__init__") 519), (Value.str (Str.ofString "/claim/cut.py") 520), (Value.int 106 0), (Value.int 3 0), (Value.int 0 0), (Value.int 0 0), (Value.int 3 0), (Value.ref 256), (Value.bool Bool.true), (Value.int 181 0), (Value.ref 257), Value.none, (Value.ref 258), (Value.ref 259), (Value.ref 260), (Value.int 524 0), (Value.int 106 0), (Value.str (Str.ofString "/claim/cut.py") 525)]) #[])
noncomputable def o262_5 (P : Params) : Obj := (Obj.mk (Value.type "function") Option.none (Data.func (FuncData.mk (Str.ofString "__init__") (Str.ofString "Dependency.__init__") (fa [9, 0]) (fb [9, 0]) (fs [9, 0]) 3 [] Value.none Value.none Value.none (Value.str (Str.ofString "doit.dependency") 194) Option.none (Value.ref 261) Value.none 0)) #[])
noncomputable def o263_5 (P : Params) : Obj := (Obj.mk (Value.type "tuple") Option.none (Data.seq #[] 0) #[])
noncomputable def o264_5 (P : Params) : Obj := (Obj.mk Value.none Option.none (Data.fields #[]) #[])
noncomputable def o265_5 (P : Params) : Obj := (Obj.mk (Value.type "tuple") Option.none (Data.seq #[(Value.str (Str.ofString "self") 530), (Value.str (Str.ofString "task_id") 531), (Value.str (Str.ofString "dependency") 532), (Value.str (Str.ofString "value") 533)] 0) #[])
noncomputable def o266_5 (P : Params) : Obj := (Obj.mk (Value.type "tuple") Option.none (Data.seq #[] 0) #[])
noncomputable def o267_5 (P : Params) : Obj := (Obj.mk Value.none Option.none (Data.func (FuncData.mk (Str.ofString "_set") (Str.ofString "Dependency._set") (fa [9, 1]) (fb [9, 1]) (fs [4, 2]) 0 [] Value.none Value.none Value.none Value.none Option.none Value.none Value.none 0)) #[])
noncomputable def o268_5 (P : Params) : Obj := (Obj.mk (Value.type "code") Option.none (Data.fields #[(Value.str (Str.ofString "_set") 527), (Value.str (Str.ofString "Dependency._set") 528), (Value.str (Str.ofString "/claim/cut.py") 529), (Value.int 111 0), (Value.int 4 0), (Value.int 0 0), (Value.int 0 0), (Value.int 3 0), (Value.ref 263), (Value.bool Bool.true), (Value.int 181 0), (Value.ref 264), Value.none, (Value.ref 265), (Value.ref 266), (Value.ref 267), (Value.int 534 0), (Value.int 111 0), (Value.str (Str.ofString "/claim/cut.py") 535)]) #[])
noncomputable def o269_5 (P : Params) : Obj := (Obj.mk (Value.type "function") Option.none (Data.func (FuncData.mk (Str.ofString "_set") (Str.ofString "Dependency._set") (fa [9, 1]) (fb [9, 1]) (fs [4, 2]) 3 [] Value.none Value.none Value.none (Value.str (Str.ofString "doit.dependency") 194) Option.none (Value.ref 268) Value.none 0)) #[])
noncomputable def o270_5 (P : Params) : Obj := (Obj.mk (Value.type "tuple") Option.none (Data.seq #[] 0) #[])
noncomputable def o271_5 (P : Params) : Obj := (Obj.mk Value.none Option.none (Data.fields #[]) #[])
noncomputable def o272_5 (P : Params) : Obj := (Obj.mk (Value.type "tuple") Option.none (Data.seq #[(Value.str (Str.ofString "self") 540), (Value.str (Str.ofString "task_id") 541), (Value.str (Str.ofString "dependency") 542)] 0) #[])
noncomputable def o273_5 (P : Params) : Obj := (Obj.mk (Value.type "tuple") Option.none (Data.seq #[] 0) #[])
noncomputable def o274_5 (P : Params) : Obj := (Obj.mk Value.none Option.none (Data.func (FuncData.mk (Str.ofString "_get") (Str.ofString "Dependency._get") (fa [9, 2]) (fb [9, 2]) (fs [4, 3]) 0 [] Value.none Value.none Value.none Value.none Option.none Value.none Value.none 0)) #[])
noncomputable def o275_5 (P : Params) : Obj := (Obj.mk (Value.type "code") Option.none (Data.fields #[(Value.str (Str.ofString "_get") 537), (Value.str (Str.ofString "Dependency._get") 538), (Value.str (Str.ofString "/claim/cut.py") 539), (Value.int 114 0), (Value.int 3 0), (Value.int 0 0), (Value.int 0 0), (Value.int 3 0), (Value.ref 270), (Value.bool Bool.true), (Value.int 181 0), (Value.ref 271), Value.none, (Value.ref 272), (Value.ref 273), (Value.ref 274), (Value.int 543 0), (Value.int 114 0), (Value.str (Str.ofString "/claim/cut.py") 544)]) #[])
noncomputable def o276_5 (P : Params) : Obj := (Obj.mk (Value.type "function") Option.none (Data.func (FuncData.mk (Str.ofString "_get") (Str.ofString "Dependency._get") (fa [9, 2]) (fb [9, 2]) (fs [4, 3]) 3 [] Value.none Value.none Value.none (Value.str (Str.ofString "doit.dependency") 194) Option.none (Value.ref 275) Value.none 0)) #[])
noncomputable def o277_5 (P : Params) : Obj := (Obj.mk (Value.type "tuple") Option.none (Data.seq #[] 0) #[])
noncomputable def o278_5 (P : Params) : Obj := (Obj.mk Value.none Option.none (Data.fields #[]) #[])
noncomputable def o279_5 (P : Params) : Obj := (Obj.mk (Value.type "tuple") Option.none (Data.seq #[(Value.str (Str.ofString "self") 549), (Value.str (Str.ofString "task_id") 550)] 0) #[])
noncomputable def o280_5 (P : Params) : Obj := (Obj.mk (Value.type "tuple") Option.none (Data.seq #[] 0) #[])
noncomputable def o281_5 (P : Params) : Obj := (Obj.mk Value.none Option.none (Data.func (FuncData.mk (Str.ofString "remove") (Str.ofString "Dependency.remove") (fa [9, 3]) (fb [9, 3]) (fs [4, 5]) 0 [] Value.none Value.none Value.none Value.none Option.none Value.none Value.none 0)) #[])
noncomputable def o282_5 (P : Params) : Obj := (Obj.mk (Value.type "code") Option.none (Data.fields #[(Value.str (Str.ofString "remove") 546), (Value.str (Str.ofString "Dependency.remove") 547), (Value.str (Str.ofString "/claim/cut.py") 548), (Value.int 117 0), (Value.int 2 0), (Value.int 0 0), (Value.int 0 0), (Value.int 3 0), (Value.ref 277), (Value.bool Bool.true), (Value.int 181 0), (Value.ref 278), Value.none, (Value.ref 279), (Value.ref 280), (Value.ref 281), (Value.int 551 0), (Value.int 117 0), (Value.str (Str.ofString "/claim/cut.py") 552)]) #[])
noncomputable def o283_5 (P : Params) : Obj := (Obj.mk (Value.type "function") Option.none (Data.func (FuncData.mk (Str.ofString "remove") (Str.ofString "Dependency.remove") (fa [9, 3]) (fb [9, 3]) (fs [4, 5]) 3 [] Value.none Value.none Value.none (Value.str (Str.ofString "doit.dependency") 194) Option.none (Value.ref 282) Value.none 0)) #[])
noncomputable def o284_5 (P : Params) : Obj := (Obj.mk (Value.type "tuple") Option.none (Data.seq #[] 0) #[])
noncomputable def o285_5 (P : Params) : Obj := (Obj.mk Value.none Option.none (Data.fields #[]) #[])
noncomputable def o286_5 (P : Params) : Obj := (Obj.mk (Value.type "tuple") Option.none (Data.seq #[(Value.str (Str.ofString "self") 557)] 0) #[])
noncomputable def o287_5 (P : Params) : Obj := (Obj.mk (Value.type "tuple") Option.none (Data.seq #[] 0) #[])
noncomputable def o288_5 (P : Params) : Obj := (Obj.mk Value.none Option.none (Data.func (FuncData.mk (Str.ofString "remove_all") (Str.ofString "Dependency.remove_all") (fa [9, 4]) (fb [9, 4]) (fs [4, 6]) 0 [] Value.none Value.none Value.none Value.none Option.none Value.none Value.none 0)) #[])
noncomputable def o289_5 (P : Params) : Obj := (Obj.mk (Value.type "code") Option.none (Data.fields #[(Value.str (Str.ofString "remove_all") 554), (Value.str (Str.ofString "Dependency.remove_all") 555), (Value.str (Str.ofString "/claim/cut.py") 556), (Value.int 120 0), (Value.int 1 0), (Value.int 0 0), (Value.int 0 0), (Value.int 3 0), (Value.ref 284), (Value.bool Bool.true), (Value.int 181 0), (Value.ref 285), Value.none, (Value.ref 286), (Value.ref 287), (Value.ref 288), (Value.int 558 0), (Value.int 120 0), (Value.str (Str.ofString "/claim/cut.py") 559)]) #[])
noncomputable def o290_5 (P : Params) : Obj := (Obj.mk (Value.type "function") Option.none (Data.func (FuncData.mk (Str.ofString "remove_all") (Str.ofString "Dependency.remove_all") (fa [9, 4]) (fb [9, 4]) (fs [4, 6]) 3 [] Value.none Value.none Value.none (Value.str (Str.ofString "doit.dependency") 194) Option.none (Value.ref 289) Value.none 0)) #[])
noncomputable def o291_5 (P : Params) : Obj := (Obj.mk (Value.type "tuple") Option.none (Data.seq #[] 0) #[])
noncomputable def o292_5 (P : Params) : Obj := (Obj.mk Value.none Option.none (Data.fields #[]) #[])
noncomputable def o293_5 (P : Params) : Obj := (Obj.mk (Value.type "tuple") Option.none (Data.seq #[(Value.str (Str.ofString "self") 564), (Value.str (Str.ofString "task_id") 565)] 0) #[])
noncomputable def o294_5 (P : Params) : Obj := (Obj.mk (Value.type "tuple") Option.none (Data.seq #[] 0) #[])
noncomputable def o295_5 (P : Params) : Obj := (Obj.mk Value.none Option.none (Data.func (FuncData.mk (Str.ofString "_in") (Str.ofString "Dependency._in") (fa [9, 5]) (fb [9, 5]) (fs [4, 4]) 0 [] Value.none Value.none Value.none Value.none Option.none Value.none Value.none 0)) #[])
noncomputable def o296_5 (P : Params) : Obj := (Obj.mk (Value.type "code") Option.none (Data.fields #[(Value.str (Str.ofString "_in") 561), (Value.str (Str.ofString "Dependency._in") 562), (Value.str (Str.ofString "/claim/cut.py") 563), (Value.int 123 0), (Value.int 2 0), (Value.int 0 0), (Value.int 0 0), (Value.int 3 0), (Value.ref 291), (Value.bool Bool.true), (Value.int 181 0), (Value.ref 292), Value.none, (Value.ref 293), (Value.ref 294), (Value.ref 295), (Value.int 566 0), (Value.int 123 0), (Value.str (Str.ofString "/claim/cut.py") 567)]) #[])
noncomputable def o297_5 (P : Params) : Obj := (Obj.mk (Value.type "function") Option.none (Data.func (FuncData.mk (Str.ofString "_in") (Str.ofString "Dependency._in") (fa [9, 5]) (fb [9, 5]) (fs [4, 4]) 3 [] Value.none Value.none Value.none (Value.str (Str.ofString "doit.dependency") 194) Option.none (Value.ref 296) Value.none 0)) #[])
noncomputable def o298_5 (P : Params) : Obj := (Obj.mk (Value.type "tuple") Option.none (Data.seq #[] 0) #[])
noncomputable def o299_5 (P : Params) : Obj := (Obj.mk Value.none Option.none (Data.fields #[]) #[])
noncomputable def o300_5 (P : Params) : Obj := (Obj.mk (Value.type "tuple") Option.none (Data.seq #[(Value.str (Str.ofString "self") 572)] 0) #[])
noncomputable def o301_5 (P : Params) : Obj := (Obj.mk (Value.type "tuple") Option.none (Data.seq #[] 0) #[])
noncomputable def o302_5 (P : Params) : Obj := (Obj.mk Value.none Option.none (Data.func (FuncData.mk (Str.ofString "close") (Str.ofString "Dependency.close") (fa [9, 6]) (fb [9, 6]) (fs [4, 1]) 0 [] Value.none Value.none Value.none Value.none Option.none Value.none Value.none 0)) #[])
noncomputable def o303_5 (P : Params) : Obj := (Obj.mk (Value.type "code") Option.none (Data.fields #[(Value.str (Str.ofString "close") 569), (Value.str (Str.ofString "Dependency.close") 570), (Value.str (Str.ofString "/claim/cut.py") 571), (Value.int 126 0), (Value.int 1 0), (Value.int 0 0), (Value.int 0 0), (Value.int 3 0), (Value.ref 298), (Value.bool Bool.true), (Value.int 181 0), (Value.ref 299), Value.none, (Value.ref 300), (Value.ref 301), (Value.ref 302), (Value.int 573 0), (Value.int 126 0), (Value.str (Str.ofString "/claim/cut.py") 574)]) #[])
noncomputable def o304_5 (P : Params) : Obj := (Obj.mk (Value.type "function") Option.none (Data.func (FuncData.mk (Str.ofString "close") (Str.ofString "Dependency.close") (fa [9, 6]) (fb [9, 6]) (fs [4, 1]) 3 [] Value.none Value.none Value.none (Value.str (Str.ofString "doit.dependency") 194) Option.none (Value.ref 303) Value.none 0)) #[])
noncomputable def o305_5 (P : Params) : Obj := (Obj.mk (Value.type "tuple") Option.none (Data.seq #[Value.none] 0) #[])
noncomputable def o306_5 (P : Params) : Obj := (Obj.mk (Value.type "tuple") Option.none (Data.seq #[] 0) #[])
noncomputable def o307_5 (P : Params) : Obj := (Obj.mk Value.none Option.none (Data.fields #[]) #[])
noncomputable def o308_5 (P : Params) : Obj := (Obj.mk (Value.type "tuple") Option.none (Data.seq #[(Value.str (Str.ofString "self") 579), (Value.str (Str.ofString "task") 580), (Value.str (Str.ofString "result_hash") 581), (Value.str (Str.ofString "dep") 582), (Value.str (Str.ofString "state") 583)] 0) #[])
noncomputable def o309_5 (P : Params) : Obj := (Obj.mk (Value.type "tuple") Option.none (Data.seq #[] 0) #[])
noncomputable def o310_5 (P : Params) : Obj := (Obj.mk Value.none Option.none (Data.func (FuncData.mk (Str.ofString "save_success") (Str.ofString "Dependency.save_success") (fa [9, 7]) (fb [9, 7]) (fs [9, 7]) 0 [] Value.none Value.none Value.none Value.none Option.none Value.none Value.none 0)) #[])
noncomputable def o311_5 (P : Params) : Obj := (Obj.mk (Value.type "code") Option.none (Data.fields #[(Value.str (Str.ofString "save_success") 576), (Value.str (Str.ofString "Dependency.save_success") 577), (Value.str (Str.ofString "/claim/cut.py") 578), (Value.int 131 0), (Value.int 3 0), (Value.int 0 0), (Value.int 0 0), (Value.int 3 0), (Value.ref 306), (Value.bool Bool.true), (Value.int 181 0), (Value.ref 307), Value.none, (Value.ref 308), (Value.ref 309), (Value.ref 310), (Value.int 584 0), (Value.int 131 0), (Value.str (Str.ofString "/claim/cut.py") 585)]) #[])
noncomputable def o312_5 (P : Params) : Obj := (Obj.mk (Value.type "function") Option.none (Data.func (FuncData.mk (Str.ofString "save_success") (Str.ofString "Dependency.save_success") (fa [9, 7]) (fb [9, 7]) (fs [9, 7]) 3 [] (Value.ref 305) Value.none Value.none (Value.str (Str.ofString "doit.dependency") 194) Option.none (Value.ref 311) Value.none 0)) #[])
noncomputable def o313_5 (P : Params) : Obj := (Obj.mk (Value.type "tuple") Option.none (Data.seq #[] 0) #[])
noncomputable def o314_5 (P : Params) : Obj := (Obj.mk Value.none Option.none (Data.fields #[]) #[])
noncomputable def o315_5 (P : Params) : Obj := (Obj.mk (Value.type "tuple") Option.none (Data.seq #[(Value.str (Str.ofString "self") 590), (Value.str (Str.ofString "task_name") 591), (Value.str (Str.ofString "values") 592)] 0) #[])
noncomputable def o316_5 (P : Params) : Obj := (Obj.mk (Value.type "tuple") Option.none (Data.seq #[] 0) #[])
noncomputable def o317_5 (P : Params) : Obj := (Obj.mk Value.none Option.none (Data.func (FuncData.mk (Str.ofString "get_values") (Str.ofString "Dependency.get_values") (fa [9, 8]) (fb [9, 8]) (fs [9, 8]) 0 [] Value.none Value.none Value.none Value.none Option.none Value.none Value.none 0)) #[])
noncomputable def o318_5 (P : Params) : Obj := (Obj.mk (Value.type "code") Option.none (Data.fields #[(Value.str (Str.ofString "get_values") 587), (Value.str (Str.ofString "Dependency.get_values") 588), (Value.str (Str.ofString "/claim/cut.py") 589), (Value.int 147 0), (Value.int 2 0), (Value.int 0 0), (Value.int 0 0), (Value.int 3 0), (Value.ref 313), (Value.bool Bool.true), (Value.int 181 0), (Value.ref 314), Value.none, (Value.ref 315), (Value.ref 316), (Value.ref 317), (Value.int 593 0), (Value.int 147 0), (Value.str (Str.ofString "/claim/cut.py") 594)]) #[])
noncomputable def o319_5 (P : Params) : Obj := (Obj.mk (Value.type "function") Option.none (Data.func (FuncData.mk (Str.ofString "get_values") (Str.ofString "Dependency.get_values") (fa [9, 8]) (fb [9, 8]) (fs [9, 8]) 3 [] Value.none Value.none Value.none (Value.str (Str.ofString "doit.dependency") 194) Option.none (Value.ref 318) Value.none 0)) #[])
noncomputable def o320_5 (P : Params) : Obj := (Obj.mk (Value.type "tuple") Option.none (Data.seq #[] 0) #[])
noncomputable def o321_5 (P : Params) : Obj := (Obj.mk Value.none Option.none (Data.fields #[]) #[])
noncomputable def o322_5 (P : Params) : Obj := (Obj.mk (Value.type "tuple") Option.none (Data.seq #[(Value.str (Str.ofString "self") 599), (Value.str (Str.ofString "task_id") 600), (Value.str (Str.ofString "key_name") 601)] 0) #[])
noncomputable def o323_5 (P : Params) : Obj := (Obj.mk (Value.type "tuple") Option.none (Data.seq #[] 0) #[])
noncomputable def o324_5 (P : Params) : Obj := (Obj.mk Value.none Option.none (Data.func (FuncData.mk (Str.ofString "get_value") (Str.ofString "Dependency.get_value") (fa [9, 9]) (fb [9, 9]) (fs [9, 9]) 0 [] Value.none Value.none Value.none Value.none Option.none Value.none Value.none 0)) #[])
noncomputable def o325_5 (P : Params) : Obj := (Obj.mk (Value.type "code") Option.none (Data.fields #[(Value.str (Str.ofString "get_value") 596), (Value.str (Str.ofString "Dependency.get_value") 597), (Value.str (Str.ofString "/claim/cut.py") 598), (Value.int 151 0), (Value.int 3 0), (Value.int 0 0), (Value.int 0 0), (Value.int 3 0), (Value.ref 320), (Value.bool Bool.true), (Value.int 181 0), (Value.ref 321), Value.none, (Value.ref 322), (Value.ref 323), (Value.ref 324), (Value.int 602 0), (Value.int 151 0), (Value.str (Str.ofString "/claim/cut.py") 603)]) #[])
noncomputable def o326_5 (P : Params) : Obj := (Obj.mk (Value.type "function") Option.none (Data.func (FuncData.mk (Str.ofString "get_value") (Str.ofString "Dependency.get_value") (fa [9, 9]) (fb [9, 9]) (fs [9, 9]) 3 [] Value.none Value.none Value.none (Value.str (Str.ofString "doit.dependency") 194) Option.none (Value.ref 325) Value.none 0)) #[])
noncomputable def o327_5 (P : Params) : Obj := (Obj.mk (Value.type "tuple") Option.none (Data.seq #[] 0) #[])
noncomputable def o328_5 (P : Params) : Obj := (Obj.mk Value.none Option.none (Data.fields #[]) #[])
noncomputable def o329_5 (P : Params) : Obj := (Obj.mk (Value.type "tuple") Option.none (Data.seq #[(Value.str (Str.ofString "self") 608), (Value.str (Str.ofString "task_name") 609)] 0) #[])
noncomputable def o330_5 (P : Params) : Obj := (Obj.mk (Value.type "tuple") Option.none (Data.seq #[] 0) #[])
noncomputable def o331_5 (P : Params) : Obj := (Obj.mk Value.none Option.none (Data.func (FuncData.mk (Str.ofString "get_result") (Str.ofString "Dependency.get_result") (fa [9, 10]) (fb [9, 10]) (fs [9, 10]) 0 [] Value.none Value.none Value.none Value.none Option.none Value.none Value.none 0)) #[])
noncomputable def o332_5 (P : Params) : Obj := (Obj.mk (Value.type "code") Option.none (Data.fields #[(Value.str (Str.ofString "get_result") 605), (Value.str (Str.ofString "Dependency.get_result") 606), (Value.str (Str.ofString "/claim/cut.py") 607), (Value.int 154 0), (Value.int 2 0), (Value.int 0 0), (Value.int 0 0), (Value.int 3 0), (Value.ref 327), (Value.bool Bool.true), (Value.int 181 0), (Value.ref 328), Value.none, (Value.ref 329), (Value.ref 330), (Value.ref 331), (Value.int 610 0), (Value.int 154 0), (Value.str (Str.ofString "/claim/cut.py") 611)]) #[])
noncomputable def o333_5 (P : Params) : Obj := (Obj.mk (Value.type "function") Option.none (Data.func (FuncData.mk (Str.ofString "get_result") (Str.ofString "Dependency.get_result") (fa [9, 10]) (fb [9, 10]) (fs [9, 10]) 3 [] Value.none Value.none Value.none (Value.str (Str.ofString "doit.dependency") 194) Option.none (Value.ref 332) Value.none 0)) #[])
noncomputable def o334_5 (P : Params) : Obj := (Obj.mk (Value.type "tuple") Option.none (Data.seq #[] 0) #[])
noncomputable def o335_5 (P : Params) : Obj := (Obj.mk Value.none Option.none (Data.fields #[]) #[])
noncomputable def o336_5 (P : Params) : Obj := (Obj.mk (Value.type "tuple") Option.none (Data.seq #[(Value.str (Str.ofString "self") 616), (Value.str (Str.ofString "task") 617)] 0) #[])
noncomputable def o337_5 (P : Params) : Obj := (Obj.mk (Value.type "tuple") Option.none (Data.seq #[] 0) #[])
noncomputable def o338_5 (P : Params) : Obj := (Obj.mk Value.none Option.none (Data.func (FuncData.mk (Str.ofString "remove_success") (Str.ofString "Dependency.remove_success") (fa [9, 11]) (fb [9, 11]) (fs [9, 11]) 0 [] Value.none Value.none Value.none Value.none Option.none Value.none Value.none 0)) #[])
noncomputable def o339_5 (P : Params) : Obj := (Obj.mk (Value.type "code") Option.none (Data.fields #[(Value.str (Str.ofString "remove_success") 613), (Value.str (Str.ofString "Dependency.remove_success") 614), (Value.str (Str.ofString "/claim/cut.py") 615), (Value.int 157 0), (Value.int 2 0), (Value.int 0 0), (Value.int 0 0), (Value.int 3 0), (Value.ref 334), (Value.bool Bool.true), (Value.int 181 0), (Value.ref 335), Value.none, (Value.ref 336), (Value.ref 337), (Value.ref 338), (Value.int 618 0), (Value.int 157 0), (Value.str (Str.ofString "/claim/cut.py") 619)]) #[])
noncomputable def o340_5 (P : Params) : Obj := (Obj.mk (Value.type "function") Option.none (Data.func (FuncData.mk (Str.ofString "remove_success") (Str.ofString "Dependency.remove_success") (fa [9, 11]) (fb [9, 11]) (fs [9, 11]) 3 [] Value.none Value.none Value.none (Value.str (Str.ofString "doit.dependency") 194) Option.none (Value.ref 339) Value.none 0)) #[])
noncomputable def o341_5 (P : Params) : Obj := (Obj.mk (Value.type "tuple") Option.none (Data.seq #[] 0) #[])
noncomputable def o342_5 (P : Params) : Obj := (Obj.mk Value.none Option.none (Data.fields #[]) #[])
noncomputable def o343_5 (P : Params) : Obj := (Obj.mk (Value.type "tuple") Option.none (Data.seq #[(Value.str (Str.ofString "self") 624), (Value.str (Str.ofString "task") 625)] 0) #[])
noncomputable def o344_5 (P : Params) : Obj := (Obj.mk (Value.type "tuple") Option.none (Data.seq #[] 0) #[])
noncomputable def o345_5 (P : Params) : Obj := (Obj.mk Value.none Option.none (Data.func (FuncData.mk (Str.ofString "ignore") (Str.ofString "Dependency.ignore") (fa [9, 12]) (fb [9, 12]) (fs [9, 11]) 0 [] Value.none Value.none Value.none Value.none Option.none Value.none Value.none 0)) #[])
noncomputable def o346_5 (P : Params) : Obj := (Obj.mk (Value.type "code") Option.none (Data.fields #[(Value.str (Str.ofString "ignore") 621), (Value.str (Str.ofString "Dependency.ignore") 622), (Value.str (Str.ofString "/claim/cut.py") 623), (Value.int 160 0), (Value.int 2 0), (Value.int 0 0), (Value.int 0 0), (Value.int 3 0), (Value.ref 341), (Value.bool Bool.true), (Value.int 181 0), (Value.ref 342), Value.none, (Value.ref 343), (Value.ref 344), (Value.ref 345), (Value.int 626 0), (Value.int 160 0), (Value.str (Str.ofString "/claim/cut.py") 627)]) #[])
noncomputable def o347_5 (P : Params) : Obj := (Obj.mk (Value.type "function") Option.none (Data.func (FuncData.mk (Str.ofString "ignore") (Str.ofString "Dependency.ignore") (fa [9, 12]) (fb [9, 12]) (fs [9, 11]) 3 [] Value.none Value.none Value.none (Value.str (Str.ofString "doit.dependency") 194) Option.none (Value.ref 346) Value.none 0)) #[])
noncomputable def o348_5 (P : Params) : Obj := (Obj.mk (Value.type "tuple") Option.none (Data.seq #[] 0) #[])
noncomputable def o349_5 (P : Params) : Obj := (Obj.mk Value.none Option.none (Data.fields #[]) #[])
noncomputable def o350_5 (P : Params) : Obj := (Obj.mk (Value.type "tuple") Option.none (Data.seq #[(Value.str (Str.ofString "self") 632), (Value.str (Str.ofString "task") 633)] 0) #[])
noncomputable def o351_5 (P : Params) : Obj := (Obj.mk (Value.type "tuple") Option.none (Data.seq #[] 0) #[])
noncomputable def o352_5 (P : Params) : Obj := (Obj.mk Value.none Option.none (Data.func (FuncData.mk (Str.ofString "status_is_ignore") (Str.ofString "Dependency.status_is_ignore") (fa [9, 13]) (fb [9, 13]) (fs [9, 11]) 0 [] Value.none Value.none Value.none Value.none Option.none Value.none Value.none 0)) #[])
noncomputable def o353_5 (P : Params) : Obj := (Obj.mk (Value.type "code") Option.none (Data.fields #[(Value.str (Str.ofString "status_is_ignore") 629), (Value.str (Str.ofString "Dependency.status_is_ignore") 630), (Value.str (Str.ofString "/claim/cut.py") 631), (Value.int 163 0), (Value.int 2 0), (Value.int 0 0), (Value.int 0 0), (Value.int 3 0), (Value.ref 348), (Value.bool Bool.true), (Value.int 181 0), (Value.ref 349), Value.none, (Value.ref 350), (Value.ref 351), (Value.ref 352), (Value.int 634 0), (Value.int 163 0), (Value.str (Str.ofString "/claim/cut.py") 635)]) #[])
noncomputable def o354_5 (P : Params) : Obj := (Obj.mk (Value.type "function") Option.none (Data.func (FuncData.mk (Str.ofString "status_is_ignore") (Str.ofString "Dependency.status_is_ignore") (fa [9, 13]) (fb [9, 13]) (fs [9, 11]) 3 [] Value.none Value.none Value.none (Value.str (Str.ofString "doit.dependency") 194) Option.none (Value.ref 353) Value.none 0)) #[])
noncomputable def o355_5 (P : Params) : Obj := (Obj.mk (Value.type "tuple") Option.none (Data.seq #[(Value.bool Bool.false)] 0) #[])
noncomputable def o356_5 (P : Params) : Obj := (Obj.mk (Value.type "tuple") Option.none (Data.seq #[] 0) #[])
noncomputable def o357_5 (P : Params) : Obj := (Obj.mk Value.none Option.none (Data.fields #[]) #[])
noncomputable def o358_5 (P : Params) : Obj := (Obj.mk Value.none Option.none (Data.func (FuncData.mk (Str.ofString "get_status") (Str.ofString "Dependency.get_status") (fa [9, 14]) (fb [9, 14]) (fs [9, 14]) 0 [] Value.none Value.none Value.none Value.none Option.none Value.none Value.none 0)) #[])
noncomputable def o359_5 (P : Params) : Obj := (Obj.mk (Value.type "code") Option.none (Data.fields #[(Value.str (Str.ofString "get_status") 637), (Value.str (Str.ofString "Dependency.get_status") 638), (Value.str (Str.ofString "/claim/cut.py") 639), (Value.int 166 0), (Value.int 4 0), (Value.int 0 0), (Value.int 0 0), (Value.int 3 0), (Value.ref 356), (Value.bool Bool.true), (Value.int 181 0), (Value.ref 357), Value.none, Value.none, Value.none, (Value.ref 358), (Value.int 640 0), (Value.int 166 0), (Value.str (Str.ofString "/claim/cut.py") 641)]) #[])
noncomputable def o360_5 (P : Params) : Obj := (Obj.mk (Value.type "function") Option.none (Data.func (FuncData.mk (Str.ofString "get_status") (Str.ofString "Dependency.get_status") (fa [9, 14]) (fb [9, 14]) (fs [9, 14]) 3 [] (Value.ref 355) Value.none Value.none (Value.str (Str.ofString "doit.dependency") 194) Option.none (Value.ref 359) Value.none 0)) #[])
noncomputable def o361_5 (P : Params) : Obj := (Obj.mk (Value.type "tuple") Option.none (Data.seq #[(Value.str (Str.ofString "_closed") 643), (Value.str (Str.ofString "backend") 644), (Value.str (Str.ofString "checker") 645)] 0) #[])
noncomputable def o362_5 (P : Params) : Obj := (Obj.mk (Value.type "dict") Option.none (Data.dict #[(DictEntry.mk (PyData.keyHash P (Str.ofString "__module__")) (Value.str (Str.ofString "__module__") 513) (Value.str (Str.ofString "doit.dependency") 194)), (DictEntry.mk (PyData.keyHash P (Str.ofString "__firstlineno__")) (Value.str (Str.ofString "__firstlineno__") 517) (Value.int 104 516)), (DictEntry.mk (PyData.keyHash P (Str.ofString "__init__")) (Value.str (Str.ofString "__init__") 526) (Value.ref 262)), (DictEntry.mk (PyData.keyHash P (Str.ofString "_set")) (Value.str (Str.ofString "_set") 536) (Value.ref 269)), (DictEntry.mk (PyData.keyHash P (Str.ofString "_get")) (Value.str (Str.ofString "_get") 545) (Value.ref 276)), (DictEntry.mk (PyData.keyHash P (Str.ofString "remove")) (Value.str (Str.ofString "remove") 553) (Value.ref 283)), (DictEntry.mk (PyData.keyHash P (Str.ofString "remove_all")) (Value.str (Str.ofString "remove_all") 560) (Value.ref 290)), (DictEntry.mk (PyData.keyHash P (Str.ofString "_in")) (Value.str (Str.ofString "_in") 568) (Value.ref 297)), (DictEntry.mk (PyData.keyHash P (Str.ofString "close")) (Value.str (Str.ofString "close") 575) (Value.ref 304)), (DictEntry.mk (PyData.keyHash P (Str.ofString "save_success")) (Value.str (Str.ofString "save_success") 586) (Value.ref 312)), (DictEntry.mk (PyData.keyHash P (Str.ofString "get_values")) (Value.str (Str.ofString "get_values") 595) (Value.ref 319)), (DictEntry.mk (PyData.keyHash P (Str.ofString "get_value")) (Value.str (Str.ofString "get_value") 604) (Value.ref 326)), (DictEntry.mk (PyData.keyHash P (Str.ofString "get_result")) (Value.str (Str.ofString "get_result") 612) (Value.ref 333)), (DictEntry.mk (PyData.keyHash P (Str.ofString "remove_success")) (Value.str (Str.ofString "remove_success") 620) (Value.ref 340)), (DictEntry.mk (PyData.keyHash P (Str.ofString "ignore")) (Value.str (Str.ofString "ignore") 628) (Value.ref 347)), (DictEntry.mk (PyData.keyHash P (Str.ofString "status_is_ignore")) (Value.str (Str.ofString "status_is_ignore") 636) (Value.ref 354)), (DictEntry.mk (PyData.keyHash P (Str.ofString "get_status")) (Value.str (Str.ofString "get_status") 642) (Value.ref 360)), (DictEntry.mk (PyData.keyHash P (Str.ofString "__static_attributes__")) (Value.str (Str.ofString "__static_attributes__") 646) (Value.ref 361)), (DictEntry.mk (PyData.keyHash P (Str.ofString "__dict__")) (Value.str (Str.ofString "__dict__") 648) (Value.ref 364)), (DictEntry.mk (PyData.keyHash P (Str.ofString "__weakref__")) (Value.str (Str.ofString "__weakref__") 650) (Value.ref 365)), (DictEntry.mk (PyData.keyHash P (Str.ofString "__doc__")) (Value.str (Str.ofString "__doc__") 651) Value.none)] 4) #[])
noncomputable def o363_5 (P : Params) : Obj := (Obj.mk (Value.type "type") Option.none (Data.cls (ClassData.mk (Str.ofString "Dependency") [(Value.type "object")] [(Value.ref 363), (Value.type "object")] 362 (Str.ofString "Dependency") Bool.true [] [] Bool.false Option.none Bool.false)) #[Option.none, Option.none, (Option.some (Value.str (Str.ofString "Dependency") 506)), (Option.some (Value.str (Str.ofString "Dependency") 514)), (Option.some (Value.builtin "object.__new__")), (Option.some (Value.bool Bool.true))])
noncomputable def o364_5 (P : Params) : Obj := (Obj.mk (Value.type "getset_descriptor") Option.none (Data.fields #[(Value.str (Str.ofString "__dict__") 647), (Value.ref 363), (Value.builtin "function.__dict__"), (Value.builtin "function.__dict__#set")]) #[])
noncomputable def o365_5 (P : Params) : Obj := (Obj.mk (Value.type "getset_descriptor") Option.none (Data.fields #[(Value.str (Str.ofString "__weakref__") 649), (Value.ref 363), (Value.builtin "ExceptionGroup.__weakref__"), Value.none]) #[])
noncomputable def o366_5 (P : Params) : Obj := (Obj.mk (Value.type "super") Option.none (Data.fields #[(Value.ref 363), (Value.ref 363), (Value.ref 363)]) #[])
noncomputable def o367_5 (P : Params) : Obj := (Obj.mk (Value.type "builtin_function_or_method") Option.none (Data.fields #[(Value.builtin "object.__init_subclass__"), (Value.ref 363)]) #[])
noncomputable def tr4 (P : Params) : BT := (.node (boot_o_0 P) (.node (boot_o_1 P) (.node (o3_5 P) (.node (boot_o_7 P) (.node (o15_2 P) (.node (o31_2 P) (.node (o63_2 P) (.node (o127_3 P) (.node (o255_5 P) .nil .nil) .nil) (.node (o191_3 P) (.node (o319_5 P) .nil .nil) .nil)) (.node (o95_2 P) (.node (o159_3 P) (.node (o287_5 P) .nil .nil) .nil) (.node (o223_4 P) (.node (o351_5 P) .nil .nil) .nil))) (.node (o47_2 P) (.node (o79_2 P) (.node (o143_3 P) (.node (o271_5 P) .nil .nil) .nil) (.node (o207_4 P) (.node (o335_5 P) .nil .nil) .nil)) (.node (o111_3 P) (.node (o175_3 P) (.node (o303_5 P) .nil .nil) .nil) (.node (o239_4 P) (.node (o367_5 P) .nil .nil) .nil)))) (.node (o23_2 P) (.node (o39_2 P) (.node (o71_2 P) (.node (o135_3 P) (.node (o263_5 P) .nil .nil) .nil) (.node (o199_3 P) (.node (o327_5 P) .nil .nil) .nil)) (.node (o103_2 P) (.node (o167_3 P) (.node (o295_5 P) .nil .nil) .nil) (.node (o231_4 P) (.node (o359_5 P) .nil .nil) .nil))) (.node (o55_2 P) (.node (o87_2 P) (.node (o151_3 P) (.node (o279_5 P) .nil .nil) .nil) (.node (o215_4 P) (.node (o343_5 P) .nil .nil) .nil)) (.node (o119_3 P) (.node (o183_3 P) (.node (o311_5 P) .nil .nil) .nil) (.node (o247_4 P) .nil .nil))))) (.node (o11_0 P) (.node (o19_2 P) (.node (o35_2 P) (.node (o67_2 P) (.node (o131_3 P) (.node (o259_5 P) .nil .nil) .nil) (.node (o195_3 P) (.node (o323_5 P) .nil .nil) .nil)) (.node (o99_2 P) (.node (o163_3 P) (.node (o291_5 P) .nil .nil) .nil) (.node (o227_4 P) (.node (o355_5 P) .nil .nil) .nil))) (.node (o51_2 P) (.node (o83_2 P) (.node (o147_3 P) (.node (o275_5 P) .nil .nil) .nil) (.node (o211_4 P) (.node (o339_5 P) .nil .nil) .nil)) (.node (o115_3 P) (.node (o179_3 P) (.node (o307_5 P) .nil .nil) .nil) (.node (o243_4 P) .nil .nil)))) (.node (o27_2 P) (.node (o43_2 P) (.node (o75_2 P) (.node (o139_3 P) (.node (o267_5 P) .nil .nil) .nil) (.node (o203_3 P) (.node (o331_5 P) .nil .nil) .nil)) (.node (o107_3 P) (.node (o171_3 P) (.node (o299_5 P) .nil .nil) .nil) (.node (o235_4 P) (.node (o363_5 P) .nil .nil) .nil))) (.node (o59_2 P) (.node (o91_2 P) (.node (o155_3 P) (.node (o283_5 P) .nil .nil) .nil) (.node (o219_4 P) (.node (o347_5 P) .nil .nil) .nil)) (.node (o123_3 P) (.node (o187_3 P) (.node (o315_5 P) .nil .nil) .nil) (.node (o251_5 P) .nil .nil)))))) (.node (boot_o_5 P) (.node (boot_o_9 P) (.node (o17_2 P) (.node (o33_2 P) (.node (o65_2 P) (.node (o129_3 P) (.node (o257_5 P) .nil .nil) .nil) (.node (o193_3 P) (.node (o321_5 P) .nil .nil) .nil)) (.node (o97_2 P) (.node (o161_3 P) (.node (o289_5 P) .nil .nil) .nil) (.node (o225_4 P) (.node (o353_5 P) .nil .nil) .nil))) (.node (o49_2 P) (.node (o81_2 P) (.node (o145_3 P) (.node (o273_5 P) .nil .nil) .nil) (.node (o209_4 P) (.node (o337_5 P) .nil .nil) .nil)) (.node (o113_3 P) (.node (o177_3 P) (.node (o305_5 P) .nil .nil) .nil) (.node (o241_4 P) .nil .nil)))) (.node (o25_2 P) (.node (o41_2 P) (.node (o73_2 P) (.node (o137_3 P) (.node (o265_5 P) .nil .nil) .nil) (.node (o201_3 P) (.node (o329_5 P) .nil .nil) .nil)) (.node (o105_3 P) (.node (o169_3 P) (.node (o297_5 P) .nil .nil) .nil) (.node (o233_4 P) (.node (o361_5 P) .nil .nil) .nil))) (.node (o57_2 P) (.node (o89_2 P) (.node (o153_3 P) (.node (o281_5 P) .nil .nil) .nil) (.node (o217_4 P) (.node (o345_5 P) .nil .nil) .nil)) (.node (o121_3 P) (.node (o185_3 P) (.node (o313_5 P) .nil .nil) .nil) (.node (o249_5 P) .nil .nil))))) (.node (o13_0 P) (.node (o21_2 P) (.node (o37_2 P) (.node (o69_2 P) (.node (o133_3 P) (.node (o261_5 P) .nil .nil) .nil) (.node (o197_3 P) (.node (o325_5 P) .nil .nil) .nil)) (.node (o101_2 P) (.node (o165_3 P) (.node (o293_5 P) .nil .nil) .nil) (.node (o229_4 P) (.node (o357_5 P) .nil .nil) .nil))) (.node (o53_2 P) (.node (o85_2 P) (.node (o149_3 P) (.node (o277_5 P) .nil .nil) .nil) (.node (o213_4 P) (.node (o341_5 P) .nil .nil) .nil)) (.node (o117_3 P) (.node (o181_3 P) (.node (o309_5 P) .nil .nil) .nil) (.node (o245_4 P) .nil .nil)))) (.node (o29_2 P) (.node (o45_2 P) (.node (o77_2 P) (.node (o141_3 P) (.node (o269_5 P) .nil .nil) .nil) (.node (o205_3 P) (.node (o333_5 P) .nil .nil) .nil)) (.node (o109_3 P) (.node (o173_3 P) (.node (o301_5 P) .nil .nil) .nil) (.node (o237_4 P) (.node (o365_5 P) .nil .nil) .nil))) (.node (o61_2 P) (.node (o93_2 P) (.node (o157_3 P) (.node (o285_5 P) .nil .nil) .nil) (.node (o221_4 P) (.node (o349_5 P) .nil .nil) .nil)) (.node (o125_3 P) (.node (o189_3 P) (.node (o317_5 P) .nil .nil) .nil) (.node (o253_5 P) .nil .nil))))))) (.node (o2_2 P) (.node (boot_o_4 P) (.node (boot_o_8 P) (.node (o16_2 P) (.node (o32_2 P) (.node (o64_2 P) (.node (o128_3 P) (.node (o256_5 P) .nil .nil) .nil) (.node (o192_3 P) (.node (o320_5 P) .nil .nil) .nil)) (.node (o96_2 P) (.node (o160_3 P) (.node (o288_5 P) .nil .nil) .nil) (.node (o224_4 P) (.node (o352_5 P) .nil .nil) .nil))) (.node (o48_2 P) (.node (o80_2 P) (.node (o144_3 P) (.node (o272_5 P) .nil .nil) .nil) (.node (o208_4 P) (.node (o336_5 P) .nil .nil) .nil)) (.node (o112_3 P) (.node (o176_3 P) (.node (o304_5 P) .nil .nil) .nil) (.node (o240_4 P) .nil .nil)))) (.node (o24_2 P) (.node (o40_2 P) (.node (o72_2 P) (.node (o136_3 P) (.node (o264_5 P) .nil .nil) .nil) (.node (o200_3 P) (.node (o328_5 P) .nil .nil) .nil)) (.node (o104_2 P) (.node (o168_3 P) (.node (o296_5 P) .nil .nil) .nil) (.node (o232_4 P) (.node (o360_5 P) .nil .nil) .nil))) (.node (o56_2 P) (.node (o88_2 P) (.node (o152_3 P) (.node (o280_5 P) .nil .nil) .nil) (.node (o216_4 P) (.node (o344_5 P) .nil .nil) .nil)) (.node (o120_3 P) (.node (o184_3 P) (.node (o312_5 P) .nil .nil) .nil) (.node (o248_4 P) .nil .nil))))) (.node (o12_5 P) (.node (o20_2 P) (.node (o36_2 P) (.node (o68_2 P) (.node (o132_3 P) (.node (o260_5 P) .nil .nil) .nil) (.node (o196_3 P) (.node (o324_5 P) .nil .nil) .nil)) (.node (o100_2 P) (.node (o164_3 P) (.node (o292_5 P) .nil .nil) .nil) (.node (o228_4 P) (.node (o356_5 P) .nil .nil) .nil))) (.node (o52_2 P) (.node (o84_2 P) (.node (o148_3 P) (.node (o276_5 P) .nil .nil) .nil) (.node (o212_4 P) (.node (o340_5 P) .nil .nil) .nil)) (.node (o116_3 P) (.node (o180_3 P) (.node (o308_5 P) .nil .nil) .nil) (.node (o244_4 P) .nil .nil)))) (.node (o28_2 P) (.node (o44_2 P) (.node (o76_2 P) (.node (o140_3 P) (.node (o268_5 P) .nil .nil) .nil) (.node (o204_3 P) (.node (o332_5 P) .nil .nil) .nil)) (.node (o108_3 P) (.node (o172_3 P) (.node (o300_5 P) .nil .nil) .nil) (.node (o236_4 P) (.node (o364_5 P) .nil .nil) .nil))) (.node (o60_2 P) (.node (o92_2 P) (.node (o156_3 P) (.node (o284_5 P) .nil .nil) .nil) (.node (o220_4 P) (.node (o348_5 P) .nil .nil) .nil)) (.node (o124_3 P) (.node (o188_3 P) (.node (o316_5 P) .nil .nil) .nil) (.node (o252_5 P) .nil .nil)))))) (.node (boot_o_6 P) (.node (boot_o_10 P) (.node (o18_2 P) (.node (o34_2 P) (.node (o66_2 P) (.node (o130_3 P) (.node (o258_5 P) .nil .nil) .nil) (.node (o194_3 P) (.node (o322_5 P) .nil .nil) .nil)) (.node (o98_2 P) (.node (o162_3 P) (.node (o290_5 P) .nil .nil) .nil) (.node (o226_4 P) (.node (o354_5 P) .nil .nil) .nil))) (.node (o50_2 P) (.node (o82_2 P) (.node (o146_3 P) (.node (o274_5 P) .nil .nil) .nil) (.node (o210_4 P) (.node (o338_5 P) .nil .nil) .nil)) (.node (o114_3 P) (.node (o178_3 P) (.node (o306_5 P) .nil .nil) .nil) (.node (o242_4 P) .nil .nil)))) (.node (o26_2 P) (.node (o42_2 P) (.node (o74_2 P) (.node (o138_3 P) (.node (o266_5 P) .nil .nil) .nil) (.node (o202_3 P) (.node (o330_5 P) .nil .nil) .nil)) (.node (o106_3 P) (.node (o170_3 P) (.node (o298_5 P) .nil .nil) .nil) (.node (o234_4 P) (.node (o362_5 P) .nil .nil) .nil))) (.node (o58_2 P) (.node (o90_2 P) (.node (o154_3 P) (.node (o282_5 P) .nil .nil) .nil) (.node (o218_4 P) (.node (o346_5 P) .nil .nil) .nil)) (.node (o122_3 P) (.node (o186_3 P) (.node (o314_5 P) .nil .nil) .nil) (.node (o250_5 P) .nil .nil))))) (.node (o14_0 P) (.node (o22_2 P) (.node (o38_2 P) (.node (o70_2 P) (.node (o134_3 P) (.node (o262_5 P) .nil .nil) .nil) (.node (o198_3 P) (.node (o326_5 P) .nil .nil) .nil)) (.node (o102_2 P) (.node (o166_3 P) (.node (o294_5 P) .nil .nil) .nil) (.node (o230_4 P) (.node (o358_5 P) .nil .nil) .nil))) (.node (o54_2 P) (.node (o86_2 P) (.node (o150_3 P) (.node (o278_5 P) .nil .nil) .nil) (.node (o214_4 P) (.node (o342_5 P) .nil .nil) .nil)) (.node (o118_3 P) (.node (o182_3 P) (.node (o310_5 P) .nil .nil) .nil) (.node (o246_4 P) .nil .nil)))) (.node (o30_2 P) (.node (o46_2 P) (.node (o78_2 P) (.node (o142_3 P) (.node (o270_5 P) .nil .nil) .nil) (.node (o206_4 P) (.node (o334_5 P) .nil .nil) .nil)) (.node (o110_3 P) (.node (o174_3 P) (.node (o302_5 P) .nil .nil) .nil) (.node (o238_4 P) (.node (o366_5 P) .nil .nil) .nil))) (.node (o62_2 P) (.node (o94_2 P) (.node (o158_3 P) (.node (o286_5 P) .nil .nil) .nil) (.node (o222_4 P) (.node (o350_5 P) .nil .nil) .nil)) (.node (o126_3 P) (.node (o190_3 P) (.node (o318_5 P) .nil .nil) .nil) (.node (o254_5 P) .nil .nil))))))))
noncomputable def lf4 : Life := (Life.mk [] [] [] 0 [] [] Bool.false #[] [] 0 Bool.false Bool.false Bool.false 0 [2000, 10, 10] Bool.false 0 Bool.true [] [] 0 Bool.false)
noncomputable def dr4 : Drawn := (Drawn.mk 0 0 0 0)
noncomputable def st4 (w : World) (os : OsState) : SharedT := ⟨tr4 w.params, 368, lf4, #[], dr4, 654, os⟩
noncomputable def gr4 : List Stmt := ((behindTheImports pg).drop 9).take 1
theorem seg4 : ∀ (w : World) (os : OsState), segRunT treeTable pg w 11 annE 1 678 (st3 w os) (piecesOf gr4 ev cE ⟨80, 0, 103, 16⟩ [topFrame qE]) = some (.next, st4 w os, cE, ⟨104, 0, 223, 21⟩) := by intro w os; kernel_rfl

noncomputable def o2_6 (P : Params) : Obj := (Obj.mk Value.none Option.none (Data.dict #[(DictEntry.mk (PyData.keyHash P (Str.ofString "type.__subclasses__.Exception.0")) (Value.str (Str.ofString "type.__subclasses__.Exception.0") 212) (Value.int 31 0)), (DictEntry.mk (PyData.keyHash P (Str.ofString "type.__subclasses__.Exception.n")) (Value.str (Str.ofString "type.__subclasses__.Exception.n") 213) (Value.int 2 0)), (DictEntry.mk (PyData.keyHash P (Str.ofString "type.__subclasses__.Exception.1")) (Value.str (Str.ofString "type.__subclasses__.Exception.1") 719) (Value.int 412 0))] 3) #[])
noncomputable def o3_6 (P : Params) : Obj := (Obj.mk (Value.type "dict") Option.none (Data.dict #[(DictEntry.mk (PyData.keyHash P (Str.ofString "__name__")) (Value.str (Str.ofString "__name__") 165) (Value.str (Str.ofString "doit.exceptions") 701)), (DictEntry.mk (PyData.keyHash P (Str.ofString "__doc__")) (Value.str (Str.ofString "__doc__") 166) Value.none), (DictEntry.mk (PyData.keyHash P (Str.ofString "__package__")) (Value.str (Str.ofString "__package__") 167) Value.none), (DictEntry.mk (PyData.keyHash P (Str.ofString "__loader__")) (Value.str (Str.ofString "__loader__") 168) (Value.builtin "__main__.__loader__#opaque")), (DictEntry.mk (PyData.keyHash P (Str.ofString "__spec__")) (Value.str (Str.ofString "__spec__") 169) Value.none), (DictEntry.mk (PyData.keyHash P (Str.ofString "__annotations__")) (Value.str (Str.ofString "__annotations__") 170) (Value.ref 6)), (DictEntry.mk (PyData.keyHash P (Str.ofString "__builtins__")) (Value.str (Str.ofString "__builtins__") 171) (Value.ref 4)), (DictEntry.mk (PyData.keyHash P (Str.ofString "__file__")) (Value.str (Str.ofString "__file__") 173) (Value.str (Str.ofString "/claim/cut.py") 172)), (DictEntry.mk (PyData.keyHash P (Str.ofString "__cached__")) (Value.str (Str.ofString "__cached__") 174) Value.none), (DictEntry.mk (PyData.keyHash P (Str.ofString "_wall")) (Value.str (Str.ofString "_wall") 193) (Value.ref 21)), (DictEntry.mk (PyData.keyHash P (Str.ofString "MissingFile")) (Value.str (Str.ofString "MissingFile") 215) (Value.ref 31)), (DictEntry.mk (PyData.keyHash P (Str.ofString "get_md5")) (Value.str (Str.ofString "get_md5") 222) (Value.ref 41)), (DictEntry.mk (PyData.keyHash P (Str.ofString "JsonDB")) (Value.str (Str.ofString "JsonDB") 300) (Value.ref 100)), (DictEntry.mk (PyData.keyHash P (Str.ofString "FileChangedChecker")) (Value.str (Str.ofString "FileChangedChecker") 366) (Value.ref 149)), (DictEntry.mk (PyData.keyHash P (Str.ofString "MD5Checker")) (Value.str (Str.ofString "MD5Checker") 409) (Value.ref 177)), (DictEntry.mk (PyData.keyHash P (Str.ofString "TimestampChecker")) (Value.str (Str.ofString "TimestampChecker") 446) (Value.ref 203)), (DictEntry.mk (PyData.keyHash P (Str.ofString "DependencyStatus")) (Value.str (Str.ofString "DependencyStatus") 505) (Value.ref 244)), (DictEntry.mk (PyData.keyHash P (Str.ofString "Dependency")) (Value.str (Str.ofString "Dependency") 653) (Value.ref 363)), (DictEntry.mk (PyData.keyHash P (Str.ofString "UptodateCalculator")) (Value.str (Str.ofString "UptodateCalculator") 700) (Value.ref 398)), (DictEntry.mk (PyData.keyHash P (Str.ofString "InvalidTask")) (Value.str (Str.ofString "InvalidTask") 722) (Value.ref 412)), (DictEntry.mk (PyData.keyHash P (Str.ofString "CatchedException")) (Value.str (Str.ofString "CatchedException") 760) (Value.ref 439))] 21) #[])
noncomputable def o12_6 (P : Params) : Obj := (Obj.mk Value.none Option.none (Data.fields #[(Value.int 1 0), (Value.int 0 0), (Value.ref 20), (Value.int 5 0), (Value.int 0 0), (Value.ref 27), (Value.int 7 0), (Value.int 0 0), (Value.ref 40), (Value.int 9 0), (Value.int 0 0), (Value.ref 47), (Value.int 35 0), (Value.int 0 0), (Value.ref 110), (Value.int 54 0), (Value.int 0 0), (Value.ref 159), (Value.int 72 0), (Value.int 0 0), (Value.ref 185), (Value.int 80 0), (Value.int 0 0), (Value.ref 211), (Value.int 104 0), (Value.int 0 0), (Value.ref 254), (Value.int 224 0), (Value.int 0 0), (Value.ref 373), (Value.int 237 0), (Value.int 0 0), (Value.ref 408), (Value.int 239 0), (Value.int 0 0), (Value.ref 421)]) #[])
noncomputable def o368_6 (P : Params) : Obj := (Obj.mk (Value.type "tuple") Option.none (Data.seq #[] 0) #[])
noncomputable def o369_6 (P : Params) : Obj := (Obj.mk (Value.type "builtin_function_or_method") Option.none (Data.fields #[(Value.builtin "type.__prepare__"), (Value.type "type")]) #[])
noncomputable def o370_6 (P : Params) : Obj := (Obj.mk (Value.type "dict") Option.none (Data.dict #[(DictEntry.mk (PyData.keyHash P (Str.ofString "__module__")) (Value.str (Str.ofString "__module__") 661) (Value.str (Str.ofString "doit.dependency") 194)), (DictEntry.mk (PyData.keyHash P (Str.ofString "__qualname__")) (Value.str (Str.ofString "__qualname__") 663) (Value.str (Str.ofString "UptodateCalculator") 662)), (DictEntry.mk (PyData.keyHash P (Str.ofString "__firstlineno__")) (Value.str (Str.ofString "__firstlineno__") 665) (Value.int 224 664)), (DictEntry.mk (PyData.keyHash P (Str.ofString "__init__")) (Value.str (Str.ofString "__init__") 672) (Value.ref 381)), (DictEntry.mk (PyData.keyHash P (Str.ofString "setup")) (Value.str (Str.ofString "setup") 681) (Value.ref 388)), (DictEntry.mk (PyData.keyHash P (Str.ofString "get_val")) (Value.str (Str.ofString "get_val") 690) (Value.ref 395)), (DictEntry.mk (PyData.keyHash P (Str.ofString "__static_attributes__")) (Value.str (Str.ofString "__static_attributes__") 693) (Value.ref 396))] 7) #[])
noncomputable def o371_6 (P : Params) : Obj := (Obj.mk (Value.type "tuple") Option.none (Data.seq #[] 0) #[])
noncomputable def o372_6 (P : Params) : Obj := (Obj.mk Value.none Option.none (Data.fields #[(Value.int 226 0), (Value.int 4 0), (Value.ref 380), (Value.int 230 0), (Value.int 4 0), (Value.ref 387), (Value.int 234 0), (Value.int 4 0), (Value.ref 394)]) #[])
noncomputable def o373_6 (P : Params) : Obj := (Obj.mk (Value.type "code") Option.none (Data.fields #[(Value.str (Str.ofString "UptodateCalculator") 656), (Value.str (Str.ofString "UptodateCalculator") 657), (Value.str (Str.ofString "/claim/cut.py") 658), (Value.int 224 0), (Value.int 0 0), (Value.int 0 0), (Value.int 0 0), (Value.int 0 0), (Value.ref 371), (Value.bool Bool.false), (Value.int 181 0), (Value.ref 372), Value.none, Value.none, Value.none, Value.none, (Value.int 659 0), (Value.int 224 0), (Value.str (Str.ofString "/claim/cut.py") 660)]) #[])
noncomputable def o374_6 (P : Params) : Obj := (Obj.mk (Value.type "frame") Option.none Data.plain #[(Option.some (Value.ref 373)), (Option.some (Value.ref 3)), (Option.some (Value.ref 370)), Option.none, (Option.some (Value.str (Str.ofString "doit.dependency") 194)), Option.none, (Option.some (Value.ref 0))])
noncomputable def o375_6 (P : Params) : Obj := (Obj.mk (Value.type "tuple") Option.none (Data.seq #[] 0) #[])
noncomputable def o376_6 (P : Params) : Obj := (Obj.mk Value.none Option.none (Data.fields #[]) #[])
noncomputable def o377_6 (P : Params) : Obj := (Obj.mk (Value.type "tuple") Option.none (Data.seq #[(Value.str (Str.ofString "self") 669)] 0) #[])
noncomputable def o378_6 (P : Params) : Obj := (Obj.mk (Value.type "tuple") Option.none (Data.seq #[] 0) #[])
noncomputable def o379_6 (P : Params) : Obj := (Obj.mk Value.none Option.none (Data.func (FuncData.mk (Str.ofString "__init__") (Str.ofString "UptodateCalculator.__init__") (fa [10, 0]) (fb [10, 0]) (fs [4, 1]) 0 [] Value.none Value.none Value.none Value.none Option.none Value.none Value.none 0)) #[])
noncomputable def o380_6 (P : Params) : Obj := (Obj.mk (Value.type "code") Option.none (Data.fields #[(Value.str (Str.ofString "__init__") 666), (Value.str (Str.ofString "UptodateCalculator.__init__") 667), (Value.str (Str.ofString "/claim/cut.py") 668), (Value.int 226 0), (Value.int 1 0), (Value.int 0 0), (Value.int 0 0), (Value.int 3 0), (Value.ref 375), (Value.bool Bool.true), (Value.int 181 0), (Value.ref 376), Value.none, (Value.ref 377), (Value.ref 378), (Value.ref 379), (Value.int 670 0), (Value.int 226 0), (Value.str (Str.ofString "/claim/cut.py") 671)]) #[])
noncomputable def o381_6 (P : Params) : Obj := (Obj.mk (Value.type "function") Option.none (Data.func (FuncData.mk (Str.ofString "__init__") (Str.ofString "UptodateCalculator.__init__") (fa [10, 0]) (fb [10, 0]) (fs [4, 1]) 3 [] Value.none Value.none Value.none (Value.str (Str.ofString "doit.dependency") 194) Option.none (Value.ref 380) Value.none 0)) #[])
noncomputable def o382_6 (P : Params) : Obj := (Obj.mk (Value.type "tuple") Option.none (Data.seq #[] 0) #[])
noncomputable def o383_6 (P : Params) : Obj := (Obj.mk Value.none Option.none (Data.fields #[]) #[])
noncomputable def o384_6 (P : Params) : Obj := (Obj.mk (Value.type "tuple") Option.none (Data.seq #[(Value.str (Str.ofString "self") 676), (Value.str (Str.ofString "dep_manager") 677), (Value.str (Str.ofString "tasks_dict") 678)] 0) #[])
noncomputable def o385_6 (P : Params) : Obj := (Obj.mk (Value.type "tuple") Option.none (Data.seq #[] 0) #[])
noncomputable def o386_6 (P : Params) : Obj := (Obj.mk Value.none Option.none (Data.func (FuncData.mk (Str.ofString "setup") (Str.ofString "UptodateCalculator.setup") (fa [10, 1]) (fb [10, 1]) (fs [10, 1]) 0 [] Value.none Value.none Value.none Value.none Option.none Value.none Value.none 0)) #[])
noncomputable def o387_6 (P : Params) : Obj := (Obj.mk (Value.type "code") Option.none (Data.fields #[(Value.str (Str.ofString "setup") 673), (Value.str (Str.ofString "UptodateCalculator.setup") 674), (Value.str (Str.ofString "/claim/cut.py") 675), (Value.int 230 0), (Value.int 3 0), (Value.int 0 0), (Value.int 0 0), (Value.int 3 0), (Value.ref 382), (Value.bool Bool.true), (Value.int 181 0), (Value.ref 383), Value.none, (Value.ref 384), (Value.ref 385), (Value.ref 386), (Value.int 679 0), (Value.int 230 0), (Value.str (Str.ofString "/claim/cut.py") 680)]) #[])
noncomputable def o388_6 (P : Params) : Obj := (Obj.mk (Value.type "function") Option.none (Data.func (FuncData.mk (Str.ofString "setup") (Str.ofString "UptodateCalculator.setup") (fa [10, 1]) (fb [10, 1]) (fs [10, 1]) 3 [] Value.none Value.none Value.none (Value.str (Str.ofString "doit.dependency") 194) Option.none (Value.ref 387) Value.none 0)) #[])
noncomputable def o389_6 (P : Params) : Obj := (Obj.mk (Value.type "tuple") Option.none (Data.seq #[] 0) #[])
noncomputable def o390_6 (P : Params) : Obj := (Obj.mk Value.none Option.none (Data.fields #[]) #[])
noncomputable def o391_6 (P : Params) : Obj := (Obj.mk (Value.type "tuple") Option.none (Data.seq #[(Value.str (Str.ofString "self") 685), (Value.str (Str.ofString "task_id") 686), (Value.str (Str.ofString "dependency") 687)] 0) #[])
noncomputable def o392_6 (P : Params) : Obj := (Obj.mk (Value.type "tuple") Option.none (Data.seq #[] 0) #[])
noncomputable def o393_6 (P : Params) : Obj := (Obj.mk Value.none Option.none (Data.func (FuncData.mk (Str.ofString "get_val") (Str.ofString "UptodateCalculator.get_val") (fa [10, 2]) (fb [10, 2]) (fs [4, 3]) 0 [] Value.none Value.none Value.none Value.none Option.none Value.none Value.none 0)) #[])
noncomputable def o394_6 (P : Params) : Obj := (Obj.mk (Value.type "code") Option.none (Data.fields #[(Value.str (Str.ofString "get_val") 682), (Value.str (Str.ofString "UptodateCalculator.get_val") 683), (Value.str (Str.ofString "/claim/cut.py") 684), (Value.int 234 0), (Value.int 3 0), (Value.int 0 0), (Value.int 0 0), (Value.int 3 0), (Value.ref 389), (Value.bool Bool.true), (Value.int 181 0), (Value.ref 390), Value.none, (Value.ref 391), (Value.ref 392), (Value.ref 393), (Value.int 688 0), (Value.int 234 0), (Value.str (Str.ofString "/claim/cut.py") 689)]) #[])
noncomputable def o395_6 (P : Params) : Obj := (Obj.mk (Value.type "function") Option.none (Data.func (FuncData.mk (Str.ofString "get_val") (Str.ofString "UptodateCalculator.get_val") (fa [10, 2]) (fb [10, 2]) (fs [4, 3]) 3 [] Value.none Value.none Value.none (Value.str (Str.ofString "doit.dependency") 194) Option.none (Value.ref 394) Value.none 0)) #[])
noncomputable def o396_6 (P : Params) : Obj := (Obj.mk (Value.type "tuple") Option.none (Data.seq #[(Value.str (Str.ofString "dep_manager") 691), (Value.str (Str.ofString "tasks_dict") 692)] 0) #[])
noncomputable def o397_6 (P : Params) : Obj := (Obj.mk (Value.type "dict") Option.none (Data.dict #[(DictEntry.mk (PyData.keyHash P (Str.ofString "__module__")) (Value.str (Str.ofString "__module__") 661) (Value.str (Str.ofString "doit.dependency") 194)), (DictEntry.mk (PyData.keyHash P (Str.ofString "__firstlineno__")) (Value.str (Str.ofString "__firstlineno__") 665) (Value.int 224 664)), (DictEntry.mk (PyData.keyHash P (Str.ofString "__init__")) (Value.str (Str.ofString "__init__") 672) (Value.ref 381)), (DictEntry.mk (PyData.keyHash P (Str.ofString "setup")) (Value.str (Str.ofString "setup") 681) (Value.ref 388)), (DictEntry.mk (PyData.keyHash P (Str.ofString "get_val")) (Value.str (Str.ofString "get_val") 690) (Value.ref 395)), (DictEntry.mk (PyData.keyHash P (Str.ofString "__static_attributes__")) (Value.str (Str.ofString "__static_attributes__") 693) (Value.ref 396)), (DictEntry.mk (PyData.keyHash P (Str.ofString "__dict__")) (Value.str (Str.ofString "__dict__") 695) (Value.ref 399)), (DictEntry.mk (PyData.keyHash P (Str.ofString "__weakref__")) (Value.str (Str.ofString "__weakref__") 697) (Value.ref 400)), (DictEntry.mk (PyData.keyHash P (Str.ofString "__doc__")) (Value.str (Str.ofString "__doc__") 698) Value.none)] 4) #[])
noncomputable def o398_6 (P : Params) : Obj := (Obj.mk (Value.type "type") Option.none (Data.cls (ClassData.mk (Str.ofString "UptodateCalculator") [(Value.type "object")] [(Value.ref 398), (Value.type "object")] 397 (Str.ofString "UptodateCalculator") Bool.true [] [] Bool.false Option.none Bool.false)) #[Option.none, Option.none, (Option.some (Value.str (Str.ofString "UptodateCalculator") 654)), (Option.some (Value.str (Str.ofString "UptodateCalculator") 662)), (Option.some (Value.builtin "object.__new__")), (Option.some (Value.bool Bool.true))])
noncomputable def o399_6 (P : Params) : Obj := (Obj.mk (Value.type "getset_descriptor") Option.none (Data.fields #[(Value.str (Str.ofString "__dict__") 694), (Value.ref 398), (Value.builtin "function.__dict__"), (Value.builtin "function.__dict__#set")]) #[])
noncomputable def o400_6 (P : Params) : Obj := (Obj.mk (Value.type "getset_descriptor") Option.none (Data.fields #[(Value.str (Str.ofString "__weakref__") 696), (Value.ref 398), (Value.builtin "ExceptionGroup.__weakref__"), Value.none]) #[])
noncomputable def o401_6 (P : Params) : Obj := (Obj.mk (Value.type "super") Option.none (Data.fields #[(Value.ref 398), (Value.ref 398), (Value.ref 398)]) #[])
noncomputable def o402_6 (P : Params) : Obj := (Obj.mk (Value.type "builtin_function_or_method") Option.none (Data.fields #[(Value.builtin "object.__init_subclass__"), (Value.ref 398)]) #[])
noncomputable def o403_6 (P : Params) : Obj := (Obj.mk (Value.type "tuple") Option.none (Data.seq #[(Value.type "Exception")] 0) #[])
noncomputable def o404_6 (P : Params) : Obj := (Obj.mk (Value.type "builtin_function_or_method") Option.none (Data.fields #[(Value.builtin "type.__prepare__"), (Value.type "type")]) #[])
noncomputable def o405_6 (P : Params) : Obj := (Obj.mk (Value.type "dict") Option.none (Data.dict #[(DictEntry.mk (PyData.keyHash P (Str.ofString "__module__")) (Value.str (Str.ofString "__module__") 710) (Value.str (Str.ofString "doit.exceptions") 701)), (DictEntry.mk (PyData.keyHash P (Str.ofString "__qualname__")) (Value.str (Str.ofString "__qualname__") 712) (Value.str (Str.ofString "InvalidTask") 711)), (DictEntry.mk (PyData.keyHash P (Str.ofString "__firstlineno__")) (Value.str (Str.ofString "__firstlineno__") 714) (Value.int 237 713)), (DictEntry.mk (PyData.keyHash P (Str.ofString "__static_attributes__")) (Value.str (Str.ofString "__static_attributes__") 715) (Value.ref 410))] 4) #[])
noncomputable def o406_6 (P : Params) : Obj := (Obj.mk (Value.type "tuple") Option.none (Data.seq #[] 0) #[])
noncomputable def o407_6 (P : Params) : Obj := (Obj.mk Value.none Option.none (Data.fields #[]) #[])
noncomputable def o408_6 (P : Params) : Obj := (Obj.mk (Value.type "code") Option.none (Data.fields #[(Value.str (Str.ofString "InvalidTask") 705), (Value.str (Str.ofString "InvalidTask") 706), (Value.str (Str.ofString "/claim/cut.py") 707), (Value.int 237 0), (Value.int 0 0), (Value.int 0 0), (Value.int 0 0), (Value.int 0 0), (Value.ref 406), (Value.bool Bool.false), (Value.int 181 0), (Value.ref 407), Value.none, Value.none, Value.none, Value.none, (Value.int 708 0), (Value.int 237 0), (Value.str (Str.ofString "/claim/cut.py") 709)]) #[])
noncomputable def o409_6 (P : Params) : Obj := (Obj.mk (Value.type "frame") Option.none Data.plain #[(Option.some (Value.ref 408)), (Option.some (Value.ref 3)), (Option.some (Value.ref 405)), Option.none, (Option.some (Value.str (Str.ofString "doit.exceptions") 701)), Option.none, (Option.some (Value.ref 0))])
noncomputable def o410_6 (P : Params) : Obj := (Obj.mk (Value.type "tuple") Option.none (Data.seq #[] 0) #[])
noncomputable def o411_6 (P : Params) : Obj := (Obj.mk (Value.type "dict") Option.none (Data.dict #[(DictEntry.mk (PyData.keyHash P (Str.ofString "__module__")) (Value.str (Str.ofString "__module__") 710) (Value.str (Str.ofString "doit.exceptions") 701)), (DictEntry.mk (PyData.keyHash P (Str.ofString "__firstlineno__")) (Value.str (Str.ofString "__firstlineno__") 714) (Value.int 237 713)), (DictEntry.mk (PyData.keyHash P (Str.ofString "__static_attributes__")) (Value.str (Str.ofString "__static_attributes__") 715) (Value.ref 410)), (DictEntry.mk (PyData.keyHash P (Str.ofString "__weakref__")) (Value.str (Str.ofString "__weakref__") 717) (Value.ref 413)), (DictEntry.mk (PyData.keyHash P (Str.ofString "__doc__")) (Value.str (Str.ofString "__doc__") 718) Value.none)] 3) #[])
noncomputable def o412_6 (P : Params) : Obj := (Obj.mk (Value.type "type") Option.none (Data.cls (ClassData.mk (Str.ofString "InvalidTask") [(Value.type "Exception")] [(Value.ref 412), (Value.type "Exception"), (Value.type "BaseException"), (Value.type "object")] 411 (Str.ofString "InvalidTask") Bool.true [] [] Bool.false Option.none Bool.false)) #[(Option.some (Value.ref 403)), Option.none, (Option.some (Value.str (Str.ofString "InvalidTask") 703)), (Option.some (Value.str (Str.ofString "InvalidTask") 711)), (Option.some (Value.builtin "Exception.__new__")), (Option.some (Value.bool Bool.true))])
noncomputable def o413_6 (P : Params) : Obj := (Obj.mk (Value.type "getset_descriptor") Option.none (Data.fields #[(Value.str (Str.ofString "__weakref__") 716), (Value.ref 412), (Value.builtin "ExceptionGroup.__weakref__"), Value.none]) #[])
noncomputable def o414_6 (P : Params) : Obj := (Obj.mk (Value.type "super") Option.none (Data.fields #[(Value.ref 412), (Value.ref 412), (Value.ref 412)]) #[])
noncomputable def o415_6 (P : Params) : Obj := (Obj.mk (Value.type "builtin_function_or_method") Option.none (Data.fields #[(Value.builtin "object.__init_subclass__"), (Value.ref 412)]) #[])
noncomputable def o416_6 (P : Params) : Obj := (Obj.mk (Value.type "tuple") Option.none (Data.seq #[] 0) #[])
noncomputable def o417_6 (P : Params) : Obj := (Obj.mk (Value.type "builtin_function_or_method") Option.none (Data.fields #[(Value.builtin "type.__prepare__"), (Value.type "type")]) #[])
noncomputable def o418_6 (P : Params) : Obj := (Obj.mk (Value.type "dict") Option.none (Data.dict #[(DictEntry.mk (PyData.keyHash P (Str.ofString "__module__")) (Value.str (Str.ofString "__module__") 730) (Value.str (Str.ofString "doit.exceptions") 701)), (DictEntry.mk (PyData.keyHash P (Str.ofString "__qualname__")) (Value.str (Str.ofString "__qualname__") 732) (Value.str (Str.ofString "CatchedException") 731)), (DictEntry.mk (PyData.keyHash P (Str.ofString "__firstlineno__")) (Value.str (Str.ofString "__firstlineno__") 734) (Value.int 239 733)), (DictEntry.mk (PyData.keyHash P (Str.ofString "kind")) (Value.str (Str.ofString "kind") 736) (Value.str (Str.ofString "CatchedException") 735)), (DictEntry.mk (PyData.keyHash P (Str.ofString "__init__")) (Value.str (Str.ofString "__init__") 744) (Value.ref 429)), (DictEntry.mk (PyData.keyHash P (Str.ofString "get_name")) (Value.str (Str.ofString "get_name") 751) (Value.ref 436)), (DictEntry.mk (PyData.keyHash P (Str.ofString "__static_attributes__")) (Value.str (Str.ofString "__static_attributes__") 753) (Value.ref 437))] 7) #[])
noncomputable def o419_6 (P : Params) : Obj := (Obj.mk (Value.type "tuple") Option.none (Data.seq #[] 0) #[])
noncomputable def o420_6 (P : Params) : Obj := (Obj.mk Value.none Option.none (Data.fields #[(Value.int 242 0), (Value.int 4 0), (Value.ref 428), (Value.int 245 0), (Value.int 4 0), (Value.ref 435)]) #[])
noncomputable def o421_6 (P : Params) : Obj := (Obj.mk (Value.type "code") Option.none (Data.fields #[(Value.str (Str.ofString "CatchedException") 725), (Value.str (Str.ofString "CatchedException") 726), (Value.str (Str.ofString "/claim/cut.py") 727), (Value.int 239 0), (Value.int 0 0), (Value.int 0 0), (Value.int 0 0), (Value.int 0 0), (Value.ref 419), (Value.bool Bool.false), (Value.int 181 0), (Value.ref 420), Value.none, Value.none, Value.none, Value.none, (Value.int 728 0), (Value.int 239 0), (Value.str (Str.ofString "/claim/cut.py") 729)]) #[])
noncomputable def o422_6 (P : Params) : Obj := (Obj.mk (Value.type "frame") Option.none Data.plain #[(Option.some (Value.ref 421)), (Option.some (Value.ref 3)), (Option.some (Value.ref 418)), Option.none, (Option.some (Value.str (Str.ofString "doit.exceptions") 701)), Option.none, (Option.some (Value.ref 0))])
noncomputable def o423_6 (P : Params) : Obj := (Obj.mk (Value.type "tuple") Option.none (Data.seq #[] 0) #[])
noncomputable def o424_6 (P : Params) : Obj := (Obj.mk Value.none Option.none (Data.fields #[]) #[])
noncomputable def o425_6 (P : Params) : Obj := (Obj.mk (Value.type "tuple") Option.none (Data.seq #[(Value.str (Str.ofString "self") 740), (Value.str (Str.ofString "msg") 741)] 0) #[])
noncomputable def o426_6 (P : Params) : Obj := (Obj.mk (Value.type "tuple") Option.none (Data.seq #[] 0) #[])
noncomputable def o427_6 (P : Params) : Obj := (Obj.mk Value.none Option.none (Data.func (FuncData.mk (Str.ofString "__init__") (Str.ofString "CatchedException.__init__") (fa [13, 1]) (fb [13, 1]) (fs [13, 1]) 0 [] Value.none Value.none Value.none Value.none Option.none Value.none Value.none 0)) #[])
noncomputable def o428_6 (P : Params) : Obj := (Obj.mk (Value.type "code") Option.none (Data.fields #[(Value.str (Str.ofString "__init__") 737), (Value.str (Str.ofString "CatchedException.__init__") 738), (Value.str (Str.ofString "/claim/cut.py") 739), (Value.int 242 0), (Value.int 2 0), (Value.int 0 0), (Value.int 0 0), (Value.int 3 0), (Value.ref 423), (Value.bool Bool.true), (Value.int 181 0), (Value.ref 424), Value.none, (Value.ref 425), (Value.ref 426), (Value.ref 427), (Value.int 742 0), (Value.int 242 0), (Value.str (Str.ofString "/claim/cut.py") 743)]) #[])
noncomputable def o429_6 (P : Params) : Obj := (Obj.mk (Value.type "function") Option.none (Data.func (FuncData.mk (Str.ofString "__init__") (Str.ofString "CatchedException.__init__") (fa [13, 1]) (fb [13, 1]) (fs [13, 1]) 3 [] Value.none Value.none Value.none (Value.str (Str.ofString "doit.exceptions") 701) Option.none (Value.ref 428) Value.none 0)) #[])
noncomputable def o430_6 (P : Params) : Obj := (Obj.mk (Value.type "tuple") Option.none (Data.seq #[] 0) #[])
noncomputable def o431_6 (P : Params) : Obj := (Obj.mk Value.none Option.none (Data.fields #[]) #[])
noncomputable def o432_6 (P : Params) : Obj := (Obj.mk (Value.type "tuple") Option.none (Data.seq #[(Value.str (Str.ofString "self") 748)] 0) #[])
noncomputable def o433_6 (P : Params) : Obj := (Obj.mk (Value.type "tuple") Option.none (Data.seq #[] 0) #[])
noncomputable def o434_6 (P : Params) : Obj := (Obj.mk Value.none Option.none (Data.func (FuncData.mk (Str.ofString "get_name") (Str.ofString "CatchedException.get_name") (fa [13, 2]) (fb [13, 2]) (fs [4, 6]) 0 [] Value.none Value.none Value.none Value.none Option.none Value.none Value.none 0)) #[])
noncomputable def o435_6 (P : Params) : Obj := (Obj.mk (Value.type "code") Option.none (Data.fields #[(Value.str (Str.ofString "get_name") 745), (Value.str (Str.ofString "CatchedException.get_name") 746), (Value.str (Str.ofString "/claim/cut.py") 747), (Value.int 245 0), (Value.int 1 0), (Value.int 0 0), (Value.int 0 0), (Value.int 3 0), (Value.ref 430), (Value.bool Bool.true), (Value.int 181 0), (Value.ref 431), Value.none, (Value.ref 432), (Value.ref 433), (Value.ref 434), (Value.int 749 0), (Value.int 245 0), (Value.str (Str.ofString "/claim/cut.py") 750)]) #[])
noncomputable def o436_6 (P : Params) : Obj := (Obj.mk (Value.type "function") Option.none (Data.func (FuncData.mk (Str.ofString "get_name") (Str.ofString "CatchedException.get_name") (fa [13, 2]) (fb [13, 2]) (fs [4, 6]) 3 [] Value.none Value.none Value.none (Value.str (Str.ofString "doit.exceptions") 701) Option.none (Value.ref 435) Value.none 0)) #[])
noncomputable def o437_6 (P : Params) : Obj := (Obj.mk (Value.type "tuple") Option.none (Data.seq #[(Value.str (Str.ofString "message") 752)] 0) #[])
noncomputable def o438_6 (P : Params) : Obj := (Obj.mk (Value.type "dict") Option.none (Data.dict #[(DictEntry.mk (PyData.keyHash P (Str.ofString "__module__")) (Value.str (Str.ofString "__module__") 730) (Value.str (Str.ofString "doit.exceptions") 701)), (DictEntry.mk (PyData.keyHash P (Str.ofString "__firstlineno__")) (Value.str (Str.ofString "__firstlineno__") 734) (Value.int 239 733)), (DictEntry.mk (PyData.keyHash P (Str.ofString "kind")) (Value.str (Str.ofString "kind") 736) (Value.str (Str.ofString "CatchedException") 735)), (DictEntry.mk (PyData.keyHash P (Str.ofString "__init__")) (Value.str (Str.ofString "__init__") 744) (Value.ref 429)), (DictEntry.mk (PyData.keyHash P (Str.ofString "get_name")) (Value.str (Str.ofString "get_name") 751) (Value.ref 436)), (DictEntry.mk (PyData.keyHash P (Str.ofString "__static_attributes__")) (Value.str (Str.ofString "__static_attributes__") 753) (Value.ref 437)), (DictEntry.mk (PyData.keyHash P (Str.ofString "__dict__")) (Value.str (Str.ofString "__dict__") 755) (Value.ref 440)), (DictEntry.mk (PyData.keyHash P (Str.ofString "__weakref__")) (Value.str (Str.ofString "__weakref__") 757) (Value.ref 441)), (DictEntry.mk (PyData.keyHash P (Str.ofString "__doc__")) (Value.str (Str.ofString "__doc__") 758) Value.none)] 4) #[])
noncomputable def o439_6 (P : Params) : Obj := (Obj.mk (Value.type "type") Option.none (Data.cls (ClassData.mk (Str.ofString "CatchedException") [(Value.type "object")] [(Value.ref 439), (Value.type "object")] 438 (Str.ofString "CatchedException") Bool.true [] [] Bool.false Option.none Bool.false)) #[Option.none, Option.none, (Option.some (Value.str (Str.ofString "CatchedException") 723)), (Option.some (Value.str (Str.ofString "CatchedException") 731)), (Option.some (Value.builtin "object.__new__")), (Option.some (Value.bool Bool.true))])
noncomputable def o440_6 (P : Params) : Obj := (Obj.mk (Value.type "getset_descriptor") Option.none (Data.fields #[(Value.str (Str.ofString "__dict__") 754), (Value.ref 439), (Value.builtin "function.__dict__"), (Value.builtin "function.__dict__#set")]) #[])
noncomputable def o441_6 (P : Params) : Obj := (Obj.mk (Value.type "getset_descriptor") Option.none (Data.fields #[(Value.str (Str.ofString "__weakref__") 756), (Value.ref 439), (Value.builtin "ExceptionGroup.__weakref__"), Value.none]) #[])
noncomputable def o442_6 (P : Params) : Obj := (Obj.mk (Value.type "super") Option.none (Data.fields #[(Value.ref 439), (Value.ref 439), (Value.ref 439)]) #[])
noncomputable def o443_6 (P : Params) : Obj := (Obj.mk (Value.type "builtin_function_or_method") Option.none (Data.fields #[(Value.builtin "object.__init_subclass__"), (Value.ref 439)]) #[])
noncomputable def tr5 (P : Params) : BT := (.node (boot_o_0 P) (.node (boot_o_1 P) (.node (o3_6 P) (.node (boot_o_7 P) (.node (o15_2 P) (.node (o31_2 P) (.node (o63_2 P) (.node (o127_3 P) (.node (o255_5 P) .nil .nil) (.node (o383_6 P) .nil .nil)) (.node (o191_3 P) (.node (o319_5 P) .nil .nil) .nil)) (.node (o95_2 P) (.node (o159_3 P) (.node (o287_5 P) .nil .nil) (.node (o415_6 P) .nil .nil)) (.node (o223_4 P) (.node (o351_5 P) .nil .nil) .nil))) (.node (o47_2 P) (.node (o79_2 P) (.node (o143_3 P) (.node (o271_5 P) .nil .nil) (.node (o399_6 P) .nil .nil)) (.node (o207_4 P) (.node (o335_5 P) .nil .nil) .nil)) (.node (o111_3 P) (.node (o175_3 P) (.node (o303_5 P) .nil .nil) (.node (o431_6 P) .nil .nil)) (.node (o239_4 P) (.node (o367_5 P) .nil .nil) .nil)))) (.node (o23_2 P) (.node (o39_2 P) (.node (o71_2 P) (.node (o135_3 P) (.node (o263_5 P) .nil .nil) (.node (o391_6 P) .nil .nil)) (.node (o199_3 P) (.node (o327_5 P) .nil .nil) .nil)) (.node (o103_2 P) (.node (o167_3 P) (.node (o295_5 P) .nil .nil) (.node (o423_6 P) .nil .nil)) (.node (o231_4 P) (.node (o359_5 P) .nil .nil) .nil))) (.node (o55_2 P) (.node (o87_2 P) (.node (o151_3 P) (.node (o279_5 P) .nil .nil) (.node (o407_6 P) .nil .nil)) (.node (o215_4 P) (.node (o343_5 P) .nil .nil) .nil)) (.node (o119_3 P) (.node (o183_3 P) (.node (o311_5 P) .nil .nil) (.node (o439_6 P) .nil .nil)) (.node (o247_4 P) (.node (o375_6 P) .nil .nil) .nil))))) (.node (o11_0 P) (.node (o19_2 P) (.node (o35_2 P) (.node (o67_2 P) (.node (o131_3 P) (.node (o259_5 P) .nil .nil) (.node (o387_6 P) .nil .nil)) (.node (o195_3 P) (.node (o323_5 P) .nil .nil) .nil)) (.node (o99_2 P) (.node (o163_3 P) (.node (o291_5 P) .nil .nil) (.node (o419_6 P) .nil .nil)) (.node (o227_4 P) (.node (o355_5 P) .nil .nil) .nil))) (.node (o51_2 P) (.node (o83_2 P) (.node (o147_3 P) (.node (o275_5 P) .nil .nil) (.node (o403_6 P) .nil .nil)) (.node (o211_4 P) (.node (o339_5 P) .nil .nil) .nil)) (.node (o115_3 P) (.node (o179_3 P) (.node (o307_5 P) .nil .nil) (.node (o435_6 P) .nil .nil)) (.node (o243_4 P) (.node (o371_6 P) .nil .nil) .nil)))) (.node (o27_2 P) (.node (o43_2 P) (.node (o75_2 P) (.node (o139_3 P) (.node (o267_5 P) .nil .nil) (.node (o395_6 P) .nil .nil)) (.node (o203_3 P) (.node (o331_5 P) .nil .nil) .nil)) (.node (o107_3 P) (.node (o171_3 P) (.node (o299_5 P) .nil .nil) (.node (o427_6 P) .nil .nil)) (.node (o235_4 P) (.node (o363_5 P) .nil .nil) .nil))) (.node (o59_2 P) (.node (o91_2 P) (.node (o155_3 P) (.node (o283_5 P) .nil .nil) (.node (o411_6 P) .nil .nil)) (.node (o219_4 P) (.node (o347_5 P) .nil .nil) .nil)) (.node (o123_3 P) (.node (o187_3 P) (.node (o315_5 P) .nil .nil) (.node (o443_6 P) .nil .nil)) (.node (o251_5 P) (.node (o379_6 P) .nil .nil) .nil)))))) (.node (boot_o_5 P) (.node (boot_o_9 P) (.node (o17_2 P) (.node (o33_2 P) (.node (o65_2 P) (.node (o129_3 P) (.node (o257_5 P) .nil .nil) (.node (o385_6 P) .nil .nil)) (.node (o193_3 P) (.node (o321_5 P) .nil .nil) .nil)) (.node (o97_2 P) (.node (o161_3 P) (.node (o289_5 P) .nil .nil) (.node (o417_6 P) .nil .nil)) (.node (o225_4 P) (.node (o353_5 P) .nil .nil) .nil))) (.node (o49_2 P) (.node (o81_2 P) (.node (o145_3 P) (.node (o273_5 P) .nil .nil) (.node (o401_6 P) .nil .nil)) (.node (o209_4 P) (.node (o337_5 P) .nil .nil) .nil)) (.node (o113_3 P) (.node (o177_3 P) (.node (o305_5 P) .nil .nil) (.node (o433_6 P) .nil .nil)) (.node (o241_4 P) (.node (o369_6 P) .nil .nil) .nil)))) (.node (o25_2 P) (.node (o41_2 P) (.node (o73_2 P) (.node (o137_3 P) (.node (o265_5 P) .nil .nil) (.node (o393_6 P) .nil .nil)) (.node (o201_3 P) (.node (o329_5 P) .nil .nil) .nil)) (.node (o105_3 P) (.node (o169_3 P) (.node (o297_5 P) .nil .nil) (.node (o425_6 P) .nil .nil)) (.node (o233_4 P) (.node (o361_5 P) .nil .nil) .nil))) (.node (o57_2 P) (.node (o89_2 P) (.node (o153_3 P) (.node (o281_5 P) .nil .nil) (.node (o409_6 P) .nil .nil)) (.node (o217_4 P) (.node (o345_5 P) .nil .nil) .nil)) (.node (o121_3 P) (.node (o185_3 P) (.node (o313_5 P) .nil .nil) (.node (o441_6 P) .nil .nil)) (.node (o249_5 P) (.node (o377_6 P) .nil .nil) .nil))))) (.node (o13_0 P) (.node (o21_2 P) (.node (o37_2 P) (.node (o69_2 P) (.node (o133_3 P) (.node (o261_5 P) .nil .nil) (.node (o389_6 P) .nil .nil)) (.node (o197_3 P) (.node (o325_5 P) .nil .nil) .nil)) (.node (o101_2 P) (.node (o165_3 P) (.node (o293_5 P) .nil .nil) (.node (o421_6 P) .nil .nil)) (.node (o229_4 P) (.node (o357_5 P) .nil .nil) .nil))) (.node (o53_2 P) (.node (o85_2 P) (.node (o149_3 P) (.node (o277_5 P) .nil .nil) (.node (o405_6 P) .nil .nil)) (.node (o213_4 P) (.node (o341_5 P) .nil .nil) .nil)) (.node (o117_3 P) (.node (o181_3 P) (.node (o309_5 P) .nil .nil) (.node (o437_6 P) .nil .nil)) (.node (o245_4 P) (.node (o373_6 P) .nil .nil) .nil)))) (.node (o29_2 P) (.node (o45_2 P) (.node (o77_2 P) (.node (o141_3 P) (.node (o269_5 P) .nil .nil) (.node (o397_6 P) .nil .nil)) (.node (o205_3 P) (.node (o333_5 P) .nil .nil) .nil)) (.node (o109_3 P) (.node (o173_3 P) (.node (o301_5 P) .nil .nil) (.node (o429_6 P) .nil .nil)) (.node (o237_4 P) (.node (o365_5 P) .nil .nil) .nil))) (.node (o61_2 P) (.node (o93_2 P) (.node (o157_3 P) (.node (o285_5 P) .nil .nil) (.node (o413_6 P) .nil .nil)) (.node (o221_4 P) (.node (o349_5 P) .nil .nil) .nil)) (.node (o125_3 P) (.node (o189_3 P) (.node (o317_5 P) .nil .nil) .nil) (.node (o253_5 P) (.node (o381_6 P) .nil .nil) .nil))))))) (.node (o2_6 P) (.node (boot_o_4 P) (.node (boot_o_8 P) (.node (o16_2 P) (.node (o32_2 P) (.node (o64_2 P) (.node (o128_3 P) (.node (o256_5 P) .nil .nil) (.node (o384_6 P) .nil .nil)) (.node (o192_3 P) (.node (o320_5 P) .nil .nil) .nil)) (.node (o96_2 P) (.node (o160_3 P) (.node (o288_5 P) .nil .nil) (.node (o416_6 P) .nil .nil)) (.node (o224_4 P) (.node (o352_5 P) .nil .nil) .nil))) (.node (o48_2 P) (.node (o80_2 P) (.node (o144_3 P) (.node (o272_5 P) .nil .nil) (.node (o400_6 P) .nil .nil)) (.node (o208_4 P) (.node (o336_5 P) .nil .nil) .nil)) (.node (o112_3 P) (.node (o176_3 P) (.node (o304_5 P) .nil .nil) (.node (o432_6 P) .nil .nil)) (.node (o240_4 P) (.node (o368_6 P) .nil .nil) .nil)))) (.node (o24_2 P) (.node (o40_2 P) (.node (o72_2 P) (.node (o136_3 P) (.node (o264_5 P) .nil .nil) (.node (o392_6 P) .nil .nil)) (.node (o200_3 P) (.node (o328_5 P) .nil .nil) .nil)) (.node (o104_2 P) (.node (o168_3 P) (.node (o296_5 P) .nil .nil) (.node (o424_6 P) .nil .nil)) (.node (o232_4 P) (.node (o360_5 P) .nil .nil) .nil))) (.node (o56_2 P) (.node (o88_2 P) (.node (o152_3 P) (.node (o280_5 P) .nil .nil) (.node (o408_6 P) .nil .nil)) (.node (o216_4 P) (.node (o344_5 P) .nil .nil) .nil)) (.node (o120_3 P) (.node (o184_3 P) (.node (o312_5 P) .nil .nil) (.node (o440_6 P) .nil .nil)) (.node (o248_4 P) (.node (o376_6 P) .nil .nil) .nil))))) (.node (o12_6 P) (.node (o20_2 P) (.node (o36_2 P) (.node (o68_2 P) (.node (o132_3 P) (.node (o260_5 P) .nil .nil) (.node (o388_6 P) .nil .nil)) (.node (o196_3 P) (.node (o324_5 P) .nil .nil) .nil)) (.node (o100_2 P) (.node (o164_3 P) (.node (o292_5 P) .nil .nil) (.node (o420_6 P) .nil .nil)) (.node (o228_4 P) (.node (o356_5 P) .nil .nil) .nil))) (.node (o52_2 P) (.node (o84_2 P) (.node (o148_3 P) (.node (o276_5 P) .nil .nil) (.node (o404_6 P) .nil .nil)) (.node (o212_4 P) (.node (o340_5 P) .nil .nil) .nil)) (.node (o116_3 P) (.node (o180_3 P) (.node (o308_5 P) .nil .nil) (.node (o436_6 P) .nil .nil)) (.node (o244_4 P) (.node (o372_6 P) .nil .nil) .nil)))) (.node (o28_2 P) (.node (o44_2 P) (.node (o76_2 P) (.node (o140_3 P) (.node (o268_5 P) .nil .nil) (.node (o396_6 P) .nil .nil)) (.node (o204_3 P) (.node (o332_5 P) .nil .nil) .nil)) (.node (o108_3 P) (.node (o172_3 P) (.node (o300_5 P) .nil .nil) (.node (o428_6 P) .nil .nil)) (.node (o236_4 P) (.node (o364_5 P) .nil .nil) .nil))) (.node (o60_2 P) (.node (o92_2 P) (.node (o156_3 P) (.node (o284_5 P) .nil .nil) (.node (o412_6 P) .nil .nil)) (.node (o220_4 P) (.node (o348_5 P) .nil .nil) .nil)) (.node (o124_3 P) (.node (o188_3 P) (.node (o316_5 P) .nil .nil) .nil) (.node (o252_5 P) (.node (o380_6 P) .nil .nil) .nil)))))) (.node (boot_o_6 P) (.node (boot_o_10 P) (.node (o18_2 P) (.node (o34_2 P) (.node (o66_2 P) (.node (o130_3 P) (.node (o258_5 P) .nil .nil) (.node (o386_6 P) .nil .nil)) (.node (o194_3 P) (.node (o322_5 P) .nil .nil) .nil)) (.node (o98_2 P) (.node (o162_3 P) (.node (o290_5 P) .nil .nil) (.node (o418_6 P) .nil .nil)) (.node (o226_4 P) (.node (o354_5 P) .nil .nil) .nil))) (.node (o50_2 P) (.node (o82_2 P) (.node (o146_3 P) (.node (o274_5 P) .nil .nil) (.node (o402_6 P) .nil .nil)) (.node (o210_4 P) (.node (o338_5 P) .nil .nil) .nil)) (.node (o114_3 P) (.node (o178_3 P) (.node (o306_5 P) .nil .nil) (.node (o434_6 P) .nil .nil)) (.node (o242_4 P) (.node (o370_6 P) .nil .nil) .nil)))) (.node (o26_2 P) (.node (o42_2 P) (.node (o74_2 P) (.node (o138_3 P) (.node (o266_5 P) .nil .nil) (.node (o394_6 P) .nil .nil)) (.node (o202_3 P) (.node (o330_5 P) .nil .nil) .nil)) (.node (o106_3 P) (.node (o170_3 P) (.node (o298_5 P) .nil .nil) (.node (o426_6 P) .nil .nil)) (.node (o234_4 P) (.node (o362_5 P) .nil .nil) .nil))) (.node (o58_2 P) (.node (o90_2 P) (.node (o154_3 P) (.node (o282_5 P) .nil .nil) (.node (o410_6 P) .nil .nil)) (.node (o218_4 P) (.node (o346_5 P) .nil .nil) .nil)) (.node (o122_3 P) (.node (o186_3 P) (.node (o314_5 P) .nil .nil) (.node (o442_6 P) .nil .nil)) (.node (o250_5 P) (.node (o378_6 P) .nil .nil) .nil))))) (.node (o14_0 P) (.node (o22_2 P) (.node (o38_2 P) (.node (o70_2 P) (.node (o134_3 P) (.node (o262_5 P) .nil .nil) (.node (o390_6 P) .nil .nil)) (.node (o198_3 P) (.node (o326_5 P) .nil .nil) .nil)) (.node (o102_2 P) (.node (o166_3 P) (.node (o294_5 P) .nil .nil) (.node (o422_6 P) .nil .nil)) (.node (o230_4 P) (.node (o358_5 P) .nil .nil) .nil))) (.node (o54_2 P) (.node (o86_2 P) (.node (o150_3 P) (.node (o278_5 P) .nil .nil) (.node (o406_6 P) .nil .nil)) (.node (o214_4 P) (.node (o342_5 P) .nil .nil) .nil)) (.node (o118_3 P) (.node (o182_3 P) (.node (o310_5 P) .nil .nil) (.node (o438_6 P) .nil .nil)) (.node (o246_4 P) (.node (o374_6 P) .nil .nil) .nil)))) (.node (o30_2 P) (.node (o46_2 P) (.node (o78_2 P) (.node (o142_3 P) (.node (o270_5 P) .nil .nil) (.node (o398_6 P) .nil .nil)) (.node (o206_4 P) (.node (o334_5 P) .nil .nil) .nil)) (.node (o110_3 P) (.node (o174_3 P) (.node (o302_5 P) .nil .nil) (.node (o430_6 P) .nil .nil)) (.node (o238_4 P) (.node (o366_5 P) .nil .nil) .nil))) (.node (o62_2 P) (.node (o94_2 P) (.node (o158_3 P) (.node (o286_5 P) .nil .nil) (.node (o414_6 P) .nil .nil)) (.node (o222_4 P) (.node (o350_5 P) .nil .nil) .nil)) (.node (o126_3 P) (.node (o190_3 P) (.node (o318_5 P) .nil .nil) .nil) (.node (o254_5 P) (.node (o382_6 P) .nil .nil) .nil))))))))
noncomputable def lf5 : Life := (Life.mk [] [] [] 0 [] [] Bool.false #[] [] 0 Bool.false Bool.false Bool.false 0 [2000, 10, 10] Bool.false 0 Bool.true [] [] 0 Bool.false)
noncomputable def dr5 : Drawn := (Drawn.mk 0 0 0 0)
noncomputable def st5 (w : World) (os : OsState) : SharedT := ⟨tr5 w.params, 444, lf5, #[], dr5, 761, os⟩
noncomputable def gr5 : List Stmt := ((behindTheImports pg).drop 10).take 4
theorem seg5 : ∀ (w : World) (os : OsState), segRunT treeTable pg w 11 annE 1 757 (st4 w os) (piecesOf gr5 ev cE ⟨104, 0, 223, 21⟩ [topFrame qE]) = some (.next, st5 w os, cE, ⟨239, 0, 246, 17⟩) := by intro w os; kernel_rfl

noncomputable def o3_7 (P : Params) : Obj := (Obj.mk (Value.type "dict") Option.none (Data.dict #[(DictEntry.mk (PyData.keyHash P (Str.ofString "__name__")) (Value.str (Str.ofString "__name__") 165) (Value.str (Str.ofString "doit.task") 815)), (DictEntry.mk (PyData.keyHash P (Str.ofString "__doc__")) (Value.str (Str.ofString "__doc__") 166) Value.none), (DictEntry.mk (PyData.keyHash P (Str.ofString "__package__")) (Value.str (Str.ofString "__package__") 167) Value.none), (DictEntry.mk (PyData.keyHash P (Str.ofString "__loader__")) (Value.str (Str.ofString "__loader__") 168) (Value.builtin "__main__.__loader__#opaque")), (DictEntry.mk (PyData.keyHash P (Str.ofString "__spec__")) (Value.str (Str.ofString "__spec__") 169) Value.none), (DictEntry.mk (PyData.keyHash P (Str.ofString "__annotations__")) (Value.str (Str.ofString "__annotations__") 170) (Value.ref 6)), (DictEntry.mk (PyData.keyHash P (Str.ofString "__builtins__")) (Value.str (Str.ofString "__builtins__") 171) (Value.ref 4)), (DictEntry.mk (PyData.keyHash P (Str.ofString "__file__")) (Value.str (Str.ofString "__file__") 173) (Value.str (Str.ofString "/claim/cut.py") 172)), (DictEntry.mk (PyData.keyHash P (Str.ofString "__cached__")) (Value.str (Str.ofString "__cached__") 174) Value.none), (DictEntry.mk (PyData.keyHash P (Str.ofString "_wall")) (Value.str (Str.ofString "_wall") 193) (Value.ref 21)), (DictEntry.mk (PyData.keyHash P (Str.ofString "MissingFile")) (Value.str (Str.ofString "MissingFile") 215) (Value.ref 31)), (DictEntry.mk (PyData.keyHash P (Str.ofString "get_md5")) (Value.str (Str.ofString "get_md5") 222) (Value.ref 41)), (DictEntry.mk (PyData.keyHash P (Str.ofString "JsonDB")) (Value.str (Str.ofString "JsonDB") 300) (Value.ref 100)), (DictEntry.mk (PyData.keyHash P (Str.ofString "FileChangedChecker")) (Value.str (Str.ofString "FileChangedChecker") 366) (Value.ref 149)), (DictEntry.mk (PyData.keyHash P (Str.ofString "MD5Checker")) (Value.str (Str.ofString "MD5Checker") 409) (Value.ref 177)), (DictEntry.mk (PyData.keyHash P (Str.ofString "TimestampChecker")) (Value.str (Str.ofString "TimestampChecker") 446) (Value.ref 203)), (DictEntry.mk (PyData.keyHash P (Str.ofString "DependencyStatus")) (Value.str (Str.ofString "DependencyStatus") 505) (Value.ref 244)), (DictEntry.mk (PyData.keyHash P (Str.ofString "Dependency")) (Value.str (Str.ofString "Dependency") 653) (Value.ref 363)), (DictEntry.mk (PyData.keyHash P (Str.ofString "UptodateCalculator")) (Value.str (Str.ofString "UptodateCalculator") 700) (Value.ref 398)), (DictEntry.mk (PyData.keyHash P (Str.ofString "InvalidTask")) (Value.str (Str.ofString "InvalidTask") 722) (Value.ref 412)), (DictEntry.mk (PyData.keyHash P (Str.ofString "CatchedException")) (Value.str (Str.ofString "CatchedException") 760) (Value.ref 439)), (DictEntry.mk (PyData.keyHash P (Str.ofString "BaseFail")) (Value.str (Str.ofString "BaseFail") 778) (Value.ref 453)), (DictEntry.mk (PyData.keyHash P (Str.ofString "TaskFailed")) (Value.str (Str.ofString "TaskFailed") 796) (Value.ref 465)), (DictEntry.mk (PyData.keyHash P (Str.ofString "TaskError")) (Value.str (Str.ofString "TaskError") 814) (Value.ref 477))] 24) #[])
noncomputable def o12_7 (P : Params) : Obj := (Obj.mk Value.none Option.none (Data.fields #[(Value.int 1 0), (Value.int 0 0), (Value.ref 20), (Value.int 5 0), (Value.int 0 0), (Value.ref 27), (Value.int 7 0), (Value.int 0 0), (Value.ref 40), (Value.int 9 0), (Value.int 0 0), (Value.ref 47), (Value.int 35 0), (Value.int 0 0), (Value.ref 110), (Value.int 54 0), (Value.int 0 0), (Value.ref 159), (Value.int 72 0), (Value.int 0 0), (Value.ref 185), (Value.int 80 0), (Value.int 0 0), (Value.ref 211), (Value.int 104 0), (Value.int 0 0), (Value.ref 254), (Value.int 224 0), (Value.int 0 0), (Value.ref 373), (Value.int 237 0), (Value.int 0 0), (Value.ref 408), (Value.int 239 0), (Value.int 0 0), (Value.ref 421), (Value.int 247 0), (Value.int 0 0), (Value.ref 449), (Value.int 249 0), (Value.int 0 0), (Value.ref 461), (Value.int 251 0), (Value.int 0 0), (Value.ref 473)]) #[])
noncomputable def o439_7 (P : Params) : Obj := (Obj.mk (Value.type "type") Option.none (Data.cls (ClassData.mk (Str.ofString "CatchedException") [(Value.type "object")] [(Value.ref 439), (Value.type "object")] 438 (Str.ofString "CatchedException") Bool.true [] [(Value.ref 453)] Bool.false Option.none Bool.false)) #[Option.none, Option.none, (Option.some (Value.str (Str.ofString "CatchedException") 723)), (Option.some (Value.str (Str.ofString "CatchedException") 731)), (Option.some (Value.builtin "object.__new__")), (Option.some (Value.bool Bool.true))])
noncomputable def o444_7 (P : Params) : Obj := (Obj.mk (Value.type "tuple") Option.none (Data.seq #[(Value.ref 439)] 0) #[])
noncomputable def o445_7 (P : Params) : Obj := (Obj.mk (Value.type "builtin_function_or_method") Option.none (Data.fields #[(Value.builtin "type.__prepare__"), (Value.type "type")]) #[])
noncomputable def o446_7 (P : Params) : Obj := (Obj.mk (Value.type "dict") Option.none (Data.dict #[(DictEntry.mk (PyData.keyHash P (Str.ofString "__module__")) (Value.str (Str.ofString "__module__") 768) (Value.str (Str.ofString "doit.exceptions") 701)), (DictEntry.mk (PyData.keyHash P (Str.ofString "__qualname__")) (Value.str (Str.ofString "__qualname__") 770) (Value.str (Str.ofString "BaseFail") 769)), (DictEntry.mk (PyData.keyHash P (Str.ofString "__firstlineno__")) (Value.str (Str.ofString "__firstlineno__") 772) (Value.int 247 771)), (DictEntry.mk (PyData.keyHash P (Str.ofString "kind")) (Value.str (Str.ofString "kind") 774) (Value.str (Str.ofString "BaseFail") 773)), (DictEntry.mk (PyData.keyHash P (Str.ofString "__static_attributes__")) (Value.str (Str.ofString "__static_attributes__") 775) (Value.ref 451))] 5) #[])
noncomputable def o447_7 (P : Params) : Obj := (Obj.mk (Value.type "tuple") Option.none (Data.seq #[] 0) #[])
noncomputable def o448_7 (P : Params) : Obj := (Obj.mk Value.none Option.none (Data.fields #[]) #[])
noncomputable def o449_7 (P : Params) : Obj := (Obj.mk (Value.type "code") Option.none (Data.fields #[(Value.str (Str.ofString "BaseFail") 763), (Value.str (Str.ofString "BaseFail") 764), (Value.str (Str.ofString "/claim/cut.py") 765), (Value.int 247 0), (Value.int 0 0), (Value.int 0 0), (Value.int 0 0), (Value.int 0 0), (Value.ref 447), (Value.bool Bool.false), (Value.int 181 0), (Value.ref 448), Value.none, Value.none, Value.none, Value.none, (Value.int 766 0), (Value.int 247 0), (Value.str (Str.ofString "/claim/cut.py") 767)]) #[])
noncomputable def o450_7 (P : Params) : Obj := (Obj.mk (Value.type "frame") Option.none Data.plain #[(Option.some (Value.ref 449)), (Option.some (Value.ref 3)), (Option.some (Value.ref 446)), Option.none, (Option.some (Value.str (Str.ofString "doit.exceptions") 701)), Option.none, (Option.some (Value.ref 0))])
noncomputable def o451_7 (P : Params) : Obj := (Obj.mk (Value.type "tuple") Option.none (Data.seq #[] 0) #[])
noncomputable def o452_7 (P : Params) : Obj := (Obj.mk (Value.type "dict") Option.none (Data.dict #[(DictEntry.mk (PyData.keyHash P (Str.ofString "__module__")) (Value.str (Str.ofString "__module__") 768) (Value.str (Str.ofString "doit.exceptions") 701)), (DictEntry.mk (PyData.keyHash P (Str.ofString "__firstlineno__")) (Value.str (Str.ofString "__firstlineno__") 772) (Value.int 247 771)), (DictEntry.mk (PyData.keyHash P (Str.ofString "kind")) (Value.str (Str.ofString "kind") 774) (Value.str (Str.ofString "BaseFail") 773)), (DictEntry.mk (PyData.keyHash P (Str.ofString "__static_attributes__")) (Value.str (Str.ofString "__static_attributes__") 775) (Value.ref 451)), (DictEntry.mk (PyData.keyHash P (Str.ofString "__doc__")) (Value.str (Str.ofString "__doc__") 776) Value.none)] 2) #[])
noncomputable def o453_7 (P : Params) : Obj := (Obj.mk (Value.type "type") Option.none (Data.cls (ClassData.mk (Str.ofString "BaseFail") [(Value.ref 439)] [(Value.ref 453), (Value.ref 439), (Value.type "object")] 452 (Str.ofString "BaseFail") Bool.true [] [(Value.ref 465), (Value.ref 477)] Bool.false Option.none Bool.false)) #[(Option.some (Value.ref 444)), Option.none, (Option.some (Value.str (Str.ofString "BaseFail") 761)), (Option.some (Value.str (Str.ofString "BaseFail") 769)), (Option.some (Value.builtin "object.__new__")), (Option.some (Value.bool Bool.true))])
noncomputable def o454_7 (P : Params) : Obj := (Obj.mk (Value.type "super") Option.none (Data.fields #[(Value.ref 453), (Value.ref 453), (Value.ref 453)]) #[])
noncomputable def o455_7 (P : Params) : Obj := (Obj.mk (Value.type "builtin_function_or_method") Option.none (Data.fields #[(Value.builtin "object.__init_subclass__"), (Value.ref 453)]) #[])
noncomputable def o456_7 (P : Params) : Obj := (Obj.mk (Value.type "tuple") Option.none (Data.seq #[(Value.ref 453)] 0) #[])
noncomputable def o457_7 (P : Params) : Obj := (Obj.mk (Value.type "builtin_function_or_method") Option.none (Data.fields #[(Value.builtin "type.__prepare__"), (Value.type "type")]) #[])
noncomputable def o458_7 (P : Params) : Obj := (Obj.mk (Value.type "dict") Option.none (Data.dict #[(DictEntry.mk (PyData.keyHash P (Str.ofString "__module__")) (Value.str (Str.ofString "__module__") 786) (Value.str (Str.ofString "doit.exceptions") 701)), (DictEntry.mk (PyData.keyHash P (Str.ofString "__qualname__")) (Value.str (Str.ofString "__qualname__") 788) (Value.str (Str.ofString "TaskFailed") 787)), (DictEntry.mk (PyData.keyHash P (Str.ofString "__firstlineno__")) (Value.str (Str.ofString "__firstlineno__") 790) (Value.int 249 789)), (DictEntry.mk (PyData.keyHash P (Str.ofString "kind")) (Value.str (Str.ofString "kind") 792) (Value.str (Str.ofString "TaskFailed") 791)), (DictEntry.mk (PyData.keyHash P (Str.ofString "__static_attributes__")) (Value.str (Str.ofString "__static_attributes__") 793) (Value.ref 463))] 5) #[])
noncomputable def o459_7 (P : Params) : Obj := (Obj.mk (Value.type "tuple") Option.none (Data.seq #[] 0) #[])
noncomputable def o460_7 (P : Params) : Obj := (Obj.mk Value.none Option.none (Data.fields #[]) #[])
noncomputable def o461_7 (P : Params) : Obj := (Obj.mk (Value.type "code") Option.none (Data.fields #[(Value.str (Str.ofString "TaskFailed") 781), (Value.str (Str.ofString "TaskFailed") 782), (Value.str (Str.ofString "/claim/cut.py") 783), (Value.int 249 0), (Value.int 0 0), (Value.int 0 0), (Value.int 0 0), (Value.int 0 0), (Value.ref 459), (Value.bool Bool.false), (Value.int 181 0), (Value.ref 460), Value.none, Value.none, Value.none, Value.none, (Value.int 784 0), (Value.int 249 0), (Value.str (Str.ofString "/claim/cut.py") 785)]) #[])
noncomputable def o462_7 (P : Params) : Obj := (Obj.mk (Value.type "frame") Option.none Data.plain #[(Option.some (Value.ref 461)), (Option.some (Value.ref 3)), (Option.some (Value.ref 458)), Option.none, (Option.some (Value.str (Str.ofString "doit.exceptions") 701)), Option.none, (Option.some (Value.ref 0))])
noncomputable def o463_7 (P : Params) : Obj := (Obj.mk (Value.type "tuple") Option.none (Data.seq #[] 0) #[])
noncomputable def o464_7 (P : Params) : Obj := (Obj.mk (Value.type "dict") Option.none (Data.dict #[(DictEntry.mk (PyData.keyHash P (Str.ofString "__module__")) (Value.str (Str.ofString "__module__") 786) (Value.str (Str.ofString "doit.exceptions") 701)), (DictEntry.mk (PyData.keyHash P (Str.ofString "__firstlineno__")) (Value.str (Str.ofString "__firstlineno__") 790) (Value.int 249 789)), (DictEntry.mk (PyData.keyHash P (Str.ofString "kind")) (Value.str (Str.ofString "kind") 792) (Value.str (Str.ofString "TaskFailed") 791)), (DictEntry.mk (PyData.keyHash P (Str.ofString "__static_attributes__")) (Value.str (Str.ofString "__static_attributes__") 793) (Value.ref 463)), (DictEntry.mk (PyData.keyHash P (Str.ofString "__doc__")) (Value.str (Str.ofString "__doc__") 794) Value.none)] 2) #[])
noncomputable def o465_7 (P : Params) : Obj := (Obj.mk (Value.type "type") Option.none (Data.cls (ClassData.mk (Str.ofString "TaskFailed") [(Value.ref 453)] [(Value.ref 465), (Value.ref 453), (Value.ref 439), (Value.type "object")] 464 (Str.ofString "TaskFailed") Bool.true [] [] Bool.false Option.none Bool.false)) #[(Option.some (Value.ref 456)), Option.none, (Option.some (Value.str (Str.ofString "TaskFailed") 779)), (Option.some (Value.str (Str.ofString "TaskFailed") 787)), (Option.some (Value.builtin "object.__new__")), (Option.some (Value.bool Bool.true))])
noncomputable def o466_7 (P : Params) : Obj := (Obj.mk (Value.type "super") Option.none (Data.fields #[(Value.ref 465), (Value.ref 465), (Value.ref 465)]) #[])
noncomputable def o467_7 (P : Params) : Obj := (Obj.mk (Value.type "builtin_function_or_method") Option.none (Data.fields #[(Value.builtin "object.__init_subclass__"), (Value.ref 465)]) #[])
noncomputable def o468_7 (P : Params) : Obj := (Obj.mk (Value.type "tuple") Option.none (Data.seq #[(Value.ref 453)] 0) #[])
noncomputable def o469_7 (P : Params) : Obj := (Obj.mk (Value.type "builtin_function_or_method") Option.none (Data.fields #[(Value.builtin "type.__prepare__"), (Value.type "type")]) #[])
noncomputable def o470_7 (P : Params) : Obj := (Obj.mk (Value.type "dict") Option.none (Data.dict #[(DictEntry.mk (PyData.keyHash P (Str.ofString "__module__")) (Value.str (Str.ofString "__module__") 804) (Value.str (Str.ofString "doit.exceptions") 701)), (DictEntry.mk (PyData.keyHash P (Str.ofString "__qualname__")) (Value.str (Str.ofString "__qualname__") 806) (Value.str (Str.ofString "TaskError") 805)), (DictEntry.mk (PyData.keyHash P (Str.ofString "__firstlineno__")) (Value.str (Str.ofString "__firstlineno__") 808) (Value.int 251 807)), (DictEntry.mk (PyData.keyHash P (Str.ofString "kind")) (Value.str (Str.ofString "kind") 810) (Value.str (Str.ofString "TaskError") 809)), (DictEntry.mk (PyData.keyHash P (Str.ofString "__static_attributes__")) (Value.str (Str.ofString "__static_attributes__") 811) (Value.ref 475))] 5) #[])
noncomputable def o471_7 (P : Params) : Obj := (Obj.mk (Value.type "tuple") Option.none (Data.seq #[] 0) #[])
noncomputable def o472_7 (P : Params) : Obj := (Obj.mk Value.none Option.none (Data.fields #[]) #[])
noncomputable def o473_7 (P : Params) : Obj := (Obj.mk (Value.type "code") Option.none (Data.fields #[(Value.str (Str.ofString "TaskError") 799), (Value.str (Str.ofString "TaskError") 800), (Value.str (Str.ofString "/claim/cut.py") 801), (Value.int 251 0), (Value.int 0 0), (Value.int 0 0), (Value.int 0 0), (Value.int 0 0), (Value.ref 471), (Value.bool Bool.false), (Value.int 181 0), (Value.ref 472), Value.none, Value.none, Value.none, Value.none, (Value.int 802 0), (Value.int 251 0), (Value.str (Str.ofString "/claim/cut.py") 803)]) #[])
noncomputable def o474_7 (P : Params) : Obj := (Obj.mk (Value.type "frame") Option.none Data.plain #[(Option.some (Value.ref 473)), (Option.some (Value.ref 3)), (Option.some (Value.ref 470)), Option.none, (Option.some (Value.str (Str.ofString "doit.exceptions") 701)), Option.none, (Option.some (Value.ref 0))])
noncomputable def o475_7 (P : Params) : Obj := (Obj.mk (Value.type "tuple") Option.none (Data.seq #[] 0) #[])
noncomputable def o476_7 (P : Params) : Obj := (Obj.mk (Value.type "dict") Option.none (Data.dict #[(DictEntry.mk (PyData.keyHash P (Str.ofString "__module__")) (Value.str (Str.ofString "__module__") 804) (Value.str (Str.ofString "doit.exceptions") 701)), (DictEntry.mk (PyData.keyHash P (Str.ofString "__firstlineno__")) (Value.str (Str.ofString "__firstlineno__") 808) (Value.int 251 807)), (DictEntry.mk (PyData.keyHash P (Str.ofString "kind")) (Value.str (Str.ofString "kind") 810) (Value.str (Str.ofString "TaskError") 809)), (DictEntry.mk (PyData.keyHash P (Str.ofString "__static_attributes__")) (Value.str (Str.ofString "__static_attributes__") 811) (Value.ref 475)), (DictEntry.mk (PyData.keyHash P (Str.ofString "__doc__")) (Value.str (Str.ofString "__doc__") 812) Value.none)] 2) #[])
noncomputable def o477_7 (P : Params) : Obj := (Obj.mk (Value.type "type") Option.none (Data.cls (ClassData.mk (Str.ofString "TaskError") [(Value.ref 453)] [(Value.ref 477), (Value.ref 453), (Value.ref 439), (Value.type "object")] 476 (Str.ofString "TaskError") Bool.true [] [] Bool.false Option.none Bool.false)) #[(Option.some (Value.ref 468)), Option.none, (Option.some (Value.str (Str.ofString "TaskError") 797)), (Option.some (Value.str (Str.ofString "TaskError") 805)), (Option.some (Value.builtin "object.__new__")), (Option.some (Value.bool Bool.true))])
noncomputable def o478_7 (P : Params) : Obj := (Obj.mk (Value.type "super") Option.none (Data.fields #[(Value.ref 477), (Value.ref 477), (Value.ref 477)]) #[])
noncomputable def o479_7 (P : Params) : Obj := (Obj.mk (Value.type "builtin_function_or_method") Option.none (Data.fields #[(Value.builtin "object.__init_subclass__"), (Value.ref 477)]) #[])
noncomputable def tr6 (P : Params) : BT := (.node (boot_o_0 P) (.node (boot_o_1 P) (.node (o3_7 P) (.node (boot_o_7 P) (.node (o15_2 P) (.node (o31_2 P) (.node (o63_2 P) (.node (o127_3 P) (.node (o255_5 P) .nil .nil) (.node (o383_6 P) .nil .nil)) (.node (o191_3 P) (.node (o319_5 P) .nil .nil) (.node (o447_7 P) .nil .nil))) (.node (o95_2 P) (.node (o159_3 P) (.node (o287_5 P) .nil .nil) (.node (o415_6 P) .nil .nil)) (.node (o223_4 P) (.node (o351_5 P) .nil .nil) (.node (o479_7 P) .nil .nil)))) (.node (o47_2 P) (.node (o79_2 P) (.node (o143_3 P) (.node (o271_5 P) .nil .nil) (.node (o399_6 P) .nil .nil)) (.node (o207_4 P) (.node (o335_5 P) .nil .nil) (.node (o463_7 P) .nil .nil))) (.node (o111_3 P) (.node (o175_3 P) (.node (o303_5 P) .nil .nil) (.node (o431_6 P) .nil .nil)) (.node (o239_4 P) (.node (o367_5 P) .nil .nil) .nil)))) (.node (o23_2 P) (.node (o39_2 P) (.node (o71_2 P) (.node (o135_3 P) (.node (o263_5 P) .nil .nil) (.node (o391_6 P) .nil .nil)) (.node (o199_3 P) (.node (o327_5 P) .nil .nil) (.node (o455_7 P) .nil .nil))) (.node (o103_2 P) (.node (o167_3 P) (.node (o295_5 P) .nil .nil) (.node (o423_6 P) .nil .nil)) (.node (o231_4 P) (.node (o359_5 P) .nil .nil) .nil))) (.node (o55_2 P) (.node (o87_2 P) (.node (o151_3 P) (.node (o279_5 P) .nil .nil) (.node (o407_6 P) .nil .nil)) (.node (o215_4 P) (.node (o343_5 P) .nil .nil) (.node (o471_7 P) .nil .nil))) (.node (o119_3 P) (.node (o183_3 P) (.node (o311_5 P) .nil .nil) (.node (o439_7 P) .nil .nil)) (.node (o247_4 P) (.node (o375_6 P) .nil .nil) .nil))))) (.node (o11_0 P) (.node (o19_2 P) (.node (o35_2 P) (.node (o67_2 P) (.node (o131_3 P) (.node (o259_5 P) .nil .nil) (.node (o387_6 P) .nil .nil)) (.node (o195_3 P) (.node (o323_5 P) .nil .nil) (.node (o451_7 P) .nil .nil))) (.node (o99_2 P) (.node (o163_3 P) (.node (o291_5 P) .nil .nil) (.node (o419_6 P) .nil .nil)) (.node (o227_4 P) (.node (o355_5 P) .nil .nil) .nil))) (.node (o51_2 P) (.node (o83_2 P) (.node (o147_3 P) (.node (o275_5 P) .nil .nil) (.node (o403_6 P) .nil .nil)) (.node (o211_4 P) (.node (o339_5 P) .nil .nil) (.node (o467_7 P) .nil .nil))) (.node (o115_3 P) (.node (o179_3 P) (.node (o307_5 P) .nil .nil) (.node (o435_6 P) .nil .nil)) (.node (o243_4 P) (.node (o371_6 P) .nil .nil) .nil)))) (.node (o27_2 P) (.node (o43_2 P) (.node (o75_2 P) (.node (o139_3 P) (.node (o267_5 P) .nil .nil) (.node (o395_6 P) .nil .nil)) (.node (o203_3 P) (.node (o331_5 P) .nil .nil) (.node (o459_7 P) .nil .nil))) (.node (o107_3 P) (.node (o171_3 P) (.node (o299_5 P) .nil .nil) (.node (o427_6 P) .nil .nil)) (.node (o235_4 P) (.node (o363_5 P) .nil .nil) .nil))) (.node (o59_2 P) (.node (o91_2 P) (.node (o155_3 P) (.node (o283_5 P) .nil .nil) (.node (o411_6 P) .nil .nil)) (.node (o219_4 P) (.node (o347_5 P) .nil .nil) (.node (o475_7 P) .nil .nil))) (.node (o123_3 P) (.node (o187_3 P) (.node (o315_5 P) .nil .nil) (.node (o443_6 P) .nil .nil)) (.node (o251_5 P) (.node (o379_6 P) .nil .nil) .nil)))))) (.node (boot_o_5 P) (.node (boot_o_9 P) (.node (o17_2 P) (.node (o33_2 P) (.node (o65_2 P) (.node (o129_3 P) (.node (o257_5 P) .nil .nil) (.node (o385_6 P) .nil .nil)) (.node (o193_3 P) (.node (o321_5 P) .nil .nil) (.node (o449_7 P) .nil .nil))) (.node (o97_2 P) (.node (o161_3 P) (.node (o289_5 P) .nil .nil) (.node (o417_6 P) .nil .nil)) (.node (o225_4 P) (.node (o353_5 P) .nil .nil) .nil))) (.node (o49_2 P) (.node (o81_2 P) (.node (o145_3 P) (.node (o273_5 P) .nil .nil) (.node (o401_6 P) .nil .nil)) (.node (o209_4 P) (.node (o337_5 P) .nil .nil) (.node (o465_7 P) .nil .nil))) (.node (o113_3 P) (.node (o177_3 P) (.node (o305_5 P) .nil .nil) (.node (o433_6 P) .nil .nil)) (.node (o241_4 P) (.node (o369_6 P) .nil .nil) .nil)))) (.node (o25_2 P) (.node (o41_2 P) (.node (o73_2 P) (.node (o137_3 P) (.node (o265_5 P) .nil .nil) (.node (o393_6 P) .nil .nil)) (.node (o201_3 P) (.node (o329_5 P) .nil .nil) (.node (o457_7 P) .nil .nil))) (.node (o105_3 P) (.node (o169_3 P) (.node (o297_5 P) .nil .nil) (.node (o425_6 P) .nil .nil)) (.node (o233_4 P) (.node (o361_5 P) .nil .nil) .nil))) (.node (o57_2 P) (.node (o89_2 P) (.node (o153_3 P) (.node (o281_5 P) .nil .nil) (.node (o409_6 P) .nil .nil)) (.node (o217_4 P) (.node (o345_5 P) .nil .nil) (.node (o473_7 P) .nil .nil))) (.node (o121_3 P) (.node (o185_3 P) (.node (o313_5 P) .nil .nil) (.node (o441_6 P) .nil .nil)) (.node (o249_5 P) (.node (o377_6 P) .nil .nil) .nil))))) (.node (o13_0 P) (.node (o21_2 P) (.node (o37_2 P) (.node (o69_2 P) (.node (o133_3 P) (.node (o261_5 P) .nil .nil) (.node (o389_6 P) .nil .nil)) (.node (o197_3 P) (.node (o325_5 P) .nil .nil) (.node (o453_7 P) .nil .nil))) (.node (o101_2 P) (.node (o165_3 P) (.node (o293_5 P) .nil .nil) (.node (o421_6 P) .nil .nil)) (.node (o229_4 P) (.node (o357_5 P) .nil .nil) .nil))) (.node (o53_2 P) (.node (o85_2 P) (.node (o149_3 P) (.node (o277_5 P) .nil .nil) (.node (o405_6 P) .nil .nil)) (.node (o213_4 P) (.node (o341_5 P) .nil .nil) (.node (o469_7 P) .nil .nil))) (.node (o117_3 P) (.node (o181_3 P) (.node (o309_5 P) .nil .nil) (.node (o437_6 P) .nil .nil)) (.node (o245_4 P) (.node (o373_6 P) .nil .nil) .nil)))) (.node (o29_2 P) (.node (o45_2 P) (.node (o77_2 P) (.node (o141_3 P) (.node (o269_5 P) .nil .nil) (.node (o397_6 P) .nil .nil)) (.node (o205_3 P) (.node (o333_5 P) .nil .nil) (.node (o461_7 P) .nil .nil))) (.node (o109_3 P) (.node (o173_3 P) (.node (o301_5 P) .nil .nil) (.node (o429_6 P) .nil .nil)) (.node (o237_4 P) (.node (o365_5 P) .nil .nil) .nil))) (.node (o61_2 P) (.node (o93_2 P) (.node (o157_3 P) (.node (o285_5 P) .nil .nil) (.node (o413_6 P) .nil .nil)) (.node (o221_4 P) (.node (o349_5 P) .nil .nil) (.node (o477_7 P) .nil .nil))) (.node (o125_3 P) (.node (o189_3 P) (.node (o317_5 P) .nil .nil) (.node (o445_7 P) .nil .nil)) (.node (o253_5 P) (.node (o381_6 P) .nil .nil) .nil))))))) (.node (o2_6 P) (.node (boot_o_4 P) (.node (boot_o_8 P) (.node (o16_2 P) (.node (o32_2 P) (.node (o64_2 P) (.node (o128_3 P) (.node (o256_5 P) .nil .nil) (.node (o384_6 P) .nil .nil)) (.node (o192_3 P) (.node (o320_5 P) .nil .nil) (.node (o448_7 P) .nil .nil))) (.node (o96_2 P) (.node (o160_3 P) (.node (o288_5 P) .nil .nil) (.node (o416_6 P) .nil .nil)) (.node (o224_4 P) (.node (o352_5 P) .nil .nil) .nil))) (.node (o48_2 P) (.node (o80_2 P) (.node (o144_3 P) (.node (o272_5 P) .nil .nil) (.node (o400_6 P) .nil .nil)) (.node (o208_4 P) (.node (o336_5 P) .nil .nil) (.node (o464_7 P) .nil .nil))) (.node (o112_3 P) (.node (o176_3 P) (.node (o304_5 P) .nil .nil) (.node (o432_6 P) .nil .nil)) (.node (o240_4 P) (.node (o368_6 P) .nil .nil) .nil)))) (.node (o24_2 P) (.node (o40_2 P) (.node (o72_2 P) (.node (o136_3 P) (.node (o264_5 P) .nil .nil) (.node (o392_6 P) .nil .nil)) (.node (o200_3 P) (.node (o328_5 P) .nil .nil) (.node (o456_7 P) .nil .nil))) (.node (o104_2 P) (.node (o168_3 P) (.node (o296_5 P) .nil .nil) (.node (o424_6 P) .nil .nil)) (.node (o232_4 P) (.node (o360_5 P) .nil .nil) .nil))) (.node (o56_2 P) (.node (o88_2 P) (.node (o152_3 P) (.node (o280_5 P) .nil .nil) (.node (o408_6 P) .nil .nil)) (.node (o216_4 P) (.node (o344_5 P) .nil .nil) (.node (o472_7 P) .nil .nil))) (.node (o120_3 P) (.node (o184_3 P) (.node (o312_5 P) .nil .nil) (.node (o440_6 P) .nil .nil)) (.node (o248_4 P) (.node (o376_6 P) .nil .nil) .nil))))) (.node (o12_7 P) (.node (o20_2 P) (.node (o36_2 P) (.node (o68_2 P) (.node (o132_3 P) (.node (o260_5 P) .nil .nil) (.node (o388_6 P) .nil .nil)) (.node (o196_3 P) (.node (o324_5 P) .nil .nil) (.node (o452_7 P) .nil .nil))) (.node (o100_2 P) (.node (o164_3 P) (.node (o292_5 P) .nil .nil) (.node (o420_6 P) .nil .nil)) (.node (o228_4 P) (.node (o356_5 P) .nil .nil) .nil))) (.node (o52_2 P) (.node (o84_2 P) (.node (o148_3 P) (.node (o276_5 P) .nil .nil) (.node (o404_6 P) .nil .nil)) (.node (o212_4 P) (.node (o340_5 P) .nil .nil) (.node (o468_7 P) .nil .nil))) (.node (o116_3 P) (.node (o180_3 P) (.node (o308_5 P) .nil .nil) (.node (o436_6 P) .nil .nil)) (.node (o244_4 P) (.node (o372_6 P) .nil .nil) .nil)))) (.node (o28_2 P) (.node (o44_2 P) (.node (o76_2 P) (.node (o140_3 P) (.node (o268_5 P) .nil .nil) (.node (o396_6 P) .nil .nil)) (.node (o204_3 P) (.node (o332_5 P) .nil .nil) (.node (o460_7 P) .nil .nil))) (.node (o108_3 P) (.node (o172_3 P) (.node (o300_5 P) .nil .nil) (.node (o428_6 P) .nil .nil)) (.node (o236_4 P) (.node (o364_5 P) .nil .nil) .nil))) (.node (o60_2 P) (.node (o92_2 P) (.node (o156_3 P) (.node (o284_5 P) .nil .nil) (.node (o412_6 P) .nil .nil)) (.node (o220_4 P) (.node (o348_5 P) .nil .nil) (.node (o476_7 P) .nil .nil))) (.node (o124_3 P) (.node (o188_3 P) (.node (o316_5 P) .nil .nil) (.node (o444_7 P) .nil .nil)) (.node (o252_5 P) (.node (o380_6 P) .nil .nil) .nil)))))) (.node (boot_o_6 P) (.node (boot_o_10 P) (.node (o18_2 P) (.node (o34_2 P) (.node (o66_2 P) (.node (o130_3 P) (.node (o258_5 P) .nil .nil) (.node (o386_6 P) .nil .nil)) (.node (o194_3 P) (.node (o322_5 P) .nil .nil) (.node (o450_7 P) .nil .nil))) (.node (o98_2 P) (.node (o162_3 P) (.node (o290_5 P) .nil .nil) (.node (o418_6 P) .nil .nil)) (.node (o226_4 P) (.node (o354_5 P) .nil .nil) .nil))) (.node (o50_2 P) (.node (o82_2 P) (.node (o146_3 P) (.node (o274_5 P) .nil .nil) (.node (o402_6 P) .nil .nil)) (.node (o210_4 P) (.node (o338_5 P) .nil .nil) (.node (o466_7 P) .nil .nil))) (.node (o114_3 P) (.node (o178_3 P) (.node (o306_5 P) .nil .nil) (.node (o434_6 P) .nil .nil)) (.node (o242_4 P) (.node (o370_6 P) .nil .nil) .nil)))) (.node (o26_2 P) (.node (o42_2 P) (.node (o74_2 P) (.node (o138_3 P) (.node (o266_5 P) .nil .nil) (.node (o394_6 P) .nil .nil)) (.node (o202_3 P) (.node (o330_5 P) .nil .nil) (.node (o458_7 P) .nil .nil))) (.node (o106_3 P) (.node (o170_3 P) (.node (o298_5 P) .nil .nil) (.node (o426_6 P) .nil .nil)) (.node (o234_4 P) (.node (o362_5 P) .nil .nil) .nil))) (.node (o58_2 P) (.node (o90_2 P) (.node (o154_3 P) (.node (o282_5 P) .nil .nil) (.node (o410_6 P) .nil .nil)) (.node (o218_4 P) (.node (o346_5 P) .nil .nil) (.node (o474_7 P) .nil .nil))) (.node (o122_3 P) (.node (o186_3 P) (.node (o314_5 P) .nil .nil) (.node (o442_6 P) .nil .nil)) (.node (o250_5 P) (.node (o378_6 P) .nil .nil) .nil))))) (.node (o14_0 P) (.node (o22_2 P) (.node (o38_2 P) (.node (o70_2 P) (.node (o134_3 P) (.node (o262_5 P) .nil .nil) (.node (o390_6 P) .nil .nil)) (.node (o198_3 P) (.node (o326_5 P) .nil .nil) (.node (o454_7 P) .nil .nil))) (.node (o102_2 P) (.node (o166_3 P) (.node (o294_5 P) .nil .nil) (.node (o422_6 P) .nil .nil)) (.node (o230_4 P) (.node (o358_5 P) .nil .nil) .nil))) (.node (o54_2 P) (.node (o86_2 P) (.node (o150_3 P) (.node (o278_5 P) .nil .nil) (.node (o406_6 P) .nil .nil)) (.node (o214_4 P) (.node (o342_5 P) .nil .nil) (.node (o470_7 P) .nil .nil))) (.node (o118_3 P) (.node (o182_3 P) (.node (o310_5 P) .nil .nil) (.node (o438_6 P) .nil .nil)) (.node (o246_4 P) (.node (o374_6 P) .nil .nil) .nil)))) (.node (o30_2 P) (.node (o46_2 P) (.node (o78_2 P) (.node (o142_3 P) (.node (o270_5 P) .nil .nil) (.node (o398_6 P) .nil .nil)) (.node (o206_4 P) (.node (o334_5 P) .nil .nil) (.node (o462_7 P) .nil .nil))) (.node (o110_3 P) (.node (o174_3 P) (.node (o302_5 P) .nil .nil) (.node (o430_6 P) .nil .nil)) (.node (o238_4 P) (.node (o366_5 P) .nil .nil) .nil))) (.node (o62_2 P) (.node (o94_2 P) (.node (o158_3 P) (.node (o286_5 P) .nil .nil) (.node (o414_6 P) .nil .nil)) (.node (o222_4 P) (.node (o350_5 P) .nil .nil) (.node (o478_7 P) .nil .nil))) (.node (o126_3 P) (.node (o190_3 P) (.node (o318_5 P) .nil .nil) (.node (o446_7 P) .nil .nil)) (.node (o254_5 P) (.node (o382_6 P) .nil .nil) .nil))))))))
noncomputable def lf6 : Life := (Life.mk [] [] [] 0 [] [] Bool.false #[] [] 0 Bool.false Bool.false Bool.false 0 [2000, 10, 10] Bool.false 0 Bool.true [] [] 0 Bool.false)
noncomputable def dr6 : Drawn := (Drawn.mk 0 0 0 0)
noncomputable def st6 (w : World) (os : OsState) : SharedT := ⟨tr6 w.params, 480, lf6, #[], dr6, 817, os⟩
noncomputable def gr6 : List Stmt := ((behindTheImports pg).drop 14).take 4
theorem seg6 : ∀ (w : World) (os : OsState), segRunT treeTable pg w 11 annE 1 704 (st5 w os) (piecesOf gr6 ev cE ⟨239, 0, 246, 17⟩ [topFrame qE]) = some (.next, st6 w os, cE, ⟨253, 0, 253, 8⟩) := by intro w os; kernel_rfl

noncomputable def o3_8 (P : Params) : Obj := (Obj.mk (Value.type "dict") Option.none (Data.dict #[(DictEntry.mk (PyData.keyHash P (Str.ofString "__name__")) (Value.str (Str.ofString "__name__") 165) (Value.str (Str.ofString "doit.task") 815)), (DictEntry.mk (PyData.keyHash P (Str.ofString "__doc__")) (Value.str (Str.ofString "__doc__") 166) Value.none), (DictEntry.mk (PyData.keyHash P (Str.ofString "__package__")) (Value.str (Str.ofString "__package__") 167) Value.none), (DictEntry.mk (PyData.keyHash P (Str.ofString "__loader__")) (Value.str (Str.ofString "__loader__") 168) (Value.builtin "__main__.__loader__#opaque")), (DictEntry.mk (PyData.keyHash P (Str.ofString "__spec__")) (Value.str (Str.ofString "__spec__") 169) Value.none), (DictEntry.mk (PyData.keyHash P (Str.ofString "__annotations__")) (Value.str (Str.ofString "__annotations__") 170) (Value.ref 6)), (DictEntry.mk (PyData.keyHash P (Str.ofString "__builtins__")) (Value.str (Str.ofString "__builtins__") 171) (Value.ref 4)), (DictEntry.mk (PyData.keyHash P (Str.ofString "__file__")) (Value.str (Str.ofString "__file__") 173) (Value.str (Str.ofString "/claim/cut.py") 172)), (DictEntry.mk (PyData.keyHash P (Str.ofString "__cached__")) (Value.str (Str.ofString "__cached__") 174) Value.none), (DictEntry.mk (PyData.keyHash P (Str.ofString "_wall")) (Value.str (Str.ofString "_wall") 193) (Value.ref 21)), (DictEntry.mk (PyData.keyHash P (Str.ofString "MissingFile")) (Value.str (Str.ofString "MissingFile") 215) (Value.ref 31)), (DictEntry.mk (PyData.keyHash P (Str.ofString "get_md5")) (Value.str (Str.ofString "get_md5") 222) (Value.ref 41)), (DictEntry.mk (PyData.keyHash P (Str.ofString "JsonDB")) (Value.str (Str.ofString "JsonDB") 300) (Value.ref 100)), (DictEntry.mk (PyData.keyHash P (Str.ofString "FileChangedChecker")) (Value.str (Str.ofString "FileChangedChecker") 366) (Value.ref 149)), (DictEntry.mk (PyData.keyHash P (Str.ofString "MD5Checker")) (Value.str (Str.ofString "MD5Checker") 409) (Value.ref 177)), (DictEntry.mk (PyData.keyHash P (Str.ofString "TimestampChecker")) (Value.str (Str.ofString "TimestampChecker") 446) (Value.ref 203)), (DictEntry.mk (PyData.keyHash P (Str.ofString "DependencyStatus")) (Value.str (Str.ofString "DependencyStatus") 505) (Value.ref 244)), (DictEntry.mk (PyData.keyHash P (Str.ofString "Dependency")) (Value.str (Str.ofString "Dependency") 653) (Value.ref 363)), (DictEntry.mk (PyData.keyHash P (Str.ofString "UptodateCalculator")) (Value.str (Str.ofString "UptodateCalculator") 700) (Value.ref 398)), (DictEntry.mk (PyData.keyHash P (Str.ofString "InvalidTask")) (Value.str (Str.ofString "InvalidTask") 722) (Value.ref 412)), (DictEntry.mk (PyData.keyHash P (Str.ofString "CatchedException")) (Value.str (Str.ofString "CatchedException") 760) (Value.ref 439)), (DictEntry.mk (PyData.keyHash P (Str.ofString "BaseFail")) (Value.str (Str.ofString "BaseFail") 778) (Value.ref 453)), (DictEntry.mk (PyData.keyHash P (Str.ofString "TaskFailed")) (Value.str (Str.ofString "TaskFailed") 796) (Value.ref 465)), (DictEntry.mk (PyData.keyHash P (Str.ofString "TaskError")) (Value.str (Str.ofString "TaskError") 814) (Value.ref 477)), (DictEntry.mk (PyData.keyHash P (Str.ofString "Task")) (Value.str (Str.ofString "Task") 977) (Value.ref 586))] 25) #[])
noncomputable def o12_8 (P : Params) : Obj := (Obj.mk Value.none Option.none (Data.fields #[(Value.int 1 0), (Value.int 0 0), (Value.ref 20), (Value.int 5 0), (Value.int 0 0), (Value.ref 27), (Value.int 7 0), (Value.int 0 0), (Value.ref 40), (Value.int 9 0), (Value.int 0 0), (Value.ref 47), (Value.int 35 0), (Value.int 0 0), (Value.ref 110), (Value.int 54 0), (Value.int 0 0), (Value.ref 159), (Value.int 72 0), (Value.int 0 0), (Value.ref 185), (Value.int 80 0), (Value.int 0 0), (Value.ref 211), (Value.int 104 0), (Value.int 0 0), (Value.ref 254), (Value.int 224 0), (Value.int 0 0), (Value.ref 373), (Value.int 237 0), (Value.int 0 0), (Value.ref 408), (Value.int 239 0), (Value.int 0 0), (Value.ref 421), (Value.int 247 0), (Value.int 0 0), (Value.ref 449), (Value.int 249 0), (Value.int 0 0), (Value.ref 461), (Value.int 251 0), (Value.int 0 0), (Value.ref 473), (Value.int 254 0), (Value.int 0 0), (Value.ref 485)]) #[])
noncomputable def o480_8 (P : Params) : Obj := (Obj.mk (Value.type "tuple") Option.none (Data.seq #[] 0) #[])
noncomputable def o481_8 (P : Params) : Obj := (Obj.mk (Value.type "builtin_function_or_method") Option.none (Data.fields #[(Value.builtin "type.__prepare__"), (Value.type "type")]) #[])
noncomputable def o482_8 (P : Params) : Obj := (Obj.mk (Value.type "dict") Option.none (Data.dict #[(DictEntry.mk (PyData.keyHash P (Str.ofString "__module__")) (Value.str (Str.ofString "__module__") 824) (Value.str (Str.ofString "doit.task") 815)), (DictEntry.mk (PyData.keyHash P (Str.ofString "__qualname__")) (Value.str (Str.ofString "__qualname__") 826) (Value.str (Str.ofString "Task") 825)), (DictEntry.mk (PyData.keyHash P (Str.ofString "__firstlineno__")) (Value.str (Str.ofString "__firstlineno__") 828) (Value.int 254 827)), (DictEntry.mk (PyData.keyHash P (Str.ofString "__init__")) (Value.str (Str.ofString "__init__") 846) (Value.ref 500)), (DictEntry.mk (PyData.keyHash P (Str.ofString "_init_deps")) (Value.str (Str.ofString "_init_deps") 856) (Value.ref 507)), (DictEntry.mk (PyData.keyHash P (Str.ofString "_init_targets")) (Value.str (Str.ofString "_init_targets") 866) (Value.ref 514)), (DictEntry.mk (PyData.keyHash P (Str.ofString "_init_uptodate")) (Value.str (Str.ofString "_init_uptodate") 876) (Value.ref 521)), (DictEntry.mk (PyData.keyHash P (Str.ofString "_expand_file_dep")) (Value.str (Str.ofString "_expand_file_dep") 885) (Value.ref 528)), (DictEntry.mk (PyData.keyHash P (Str.ofString "_expand_task_dep")) (Value.str (Str.ofString "_expand_task_dep") 894) (Value.ref 535)), (DictEntry.mk (PyData.keyHash P (Str.ofString "_expand_calc_dep")) (Value.str (Str.ofString "_expand_calc_dep") 903) (Value.ref 542)), (DictEntry.mk (PyData.keyHash P (Str.ofString "_extend_uptodate")) (Value.str (Str.ofString "_extend_uptodate") 911) (Value.ref 549)), (DictEntry.mk (PyData.keyHash P (Str.ofString "update_deps")) (Value.str (Str.ofString "update_deps") 919) (Value.ref 556)), (DictEntry.mk (PyData.keyHash P (Str.ofString "init_options")) (Value.str (Str.ofString "init_options") 927) (Value.ref 564)), (DictEntry.mk (PyData.keyHash P (Str.ofString "_init_getargs")) (Value.str (Str.ofString "_init_getargs") 933) (Value.ref 569)), (DictEntry.mk (PyData.keyHash P (Str.ofString "save_extra_values")) (Value.str (Str.ofString "save_extra_values") 940) (Value.ref 576)), (DictEntry.mk (PyData.keyHash P (Str.ofString "execute")) (Value.str (Str.ofString "execute") 951) (Value.ref 583)), (DictEntry.mk (PyData.keyHash P (Str.ofString "__static_attributes__")) (Value.str (Str.ofString "__static_attributes__") 970) (Value.ref 584))] 17) #[])
noncomputable def o483_8 (P : Params) : Obj := (Obj.mk (Value.type "tuple") Option.none (Data.seq #[] 0) #[])
noncomputable def o484_8 (P : Params) : Obj := (Obj.mk Value.none Option.none (Data.fields #[(Value.int 256 0), (Value.int 4 0), (Value.ref 499), (Value.int 281 0), (Value.int 4 0), (Value.ref 506), (Value.int 293 0), (Value.int 4 0), (Value.ref 513), (Value.int 302 0), (Value.int 4 0), (Value.ref 520), (Value.int 315 0), (Value.int 4 0), (Value.ref 527), (Value.int 323 0), (Value.int 4 0), (Value.ref 534), (Value.int 330 0), (Value.int 4 0), (Value.ref 541), (Value.int 335 0), (Value.int 4 0), (Value.ref 548), (Value.int 338 0), (Value.int 4 0), (Value.ref 555), (Value.int 341 0), (Value.int 4 0), (Value.ref 563), (Value.int 346 0), (Value.int 4 0), (Value.ref 568), (Value.int 356 0), (Value.int 4 0), (Value.ref 575), (Value.int 359 0), (Value.int 4 0), (Value.ref 582)]) #[])
noncomputable def o485_8 (P : Params) : Obj := (Obj.mk (Value.type "code") Option.none (Data.fields #[(Value.str (Str.ofString "Task") 819), (Value.str (Str.ofString "Task") 820), (Value.str (Str.ofString "/claim/cut.py") 821), (Value.int 254 0), (Value.int 0 0), (Value.int 0 0), (Value.int 0 0), (Value.int 0 0), (Value.ref 483), (Value.bool Bool.false), (Value.int 181 0), (Value.ref 484), Value.none, Value.none, Value.none, Value.none, (Value.int 822 0), (Value.int 254 0), (Value.str (Str.ofString "/claim/cut.py") 823)]) #[])
noncomputable def o486_8 (P : Params) : Obj := (Obj.mk (Value.type "frame") Option.none Data.plain #[(Option.some (Value.ref 485)), (Option.some (Value.ref 3)), (Option.some (Value.ref 482)), Option.none, (Option.some (Value.str (Str.ofString "doit.task") 815)), Option.none, (Option.some (Value.ref 0))])
noncomputable def o487_8 (P : Params) : Obj := (Obj.mk (Value.type "tuple") Option.none (Data.seq #[] 0) #[])
noncomputable def o488_8 (P : Params) : Obj := (Obj.mk (Value.type "tuple") Option.none (Data.seq #[] 0) #[])
noncomputable def o489_8 (P : Params) : Obj := (Obj.mk (Value.type "tuple") Option.none (Data.seq #[] 0) #[])
noncomputable def o490_8 (P : Params) : Obj := (Obj.mk (Value.type "tuple") Option.none (Data.seq #[] 0) #[])
noncomputable def o491_8 (P : Params) : Obj := (Obj.mk (Value.type "tuple") Option.none (Data.seq #[] 0) #[])
noncomputable def o492_8 (P : Params) : Obj := (Obj.mk (Value.type "tuple") Option.none (Data.seq #[] 0) #[])
noncomputable def o493_8 (P : Params) : Obj := (Obj.mk (Value.type "tuple") Option.none (Data.seq #[(Value.ref 487), (Value.ref 488), (Value.ref 489), (Value.ref 490), (Value.ref 491), (Value.ref 492), Value.none, (Value.bool Bool.false), Value.none] 0) #[])
noncomputable def o494_8 (P : Params) : Obj := (Obj.mk (Value.type "tuple") Option.none (Data.seq #[] 0) #[])
noncomputable def o495_8 (P : Params) : Obj := (Obj.mk Value.none Option.none (Data.fields #[]) #[])
noncomputable def o496_8 (P : Params) : Obj := (Obj.mk (Value.type "tuple") Option.none (Data.seq #[(Value.str (Str.ofString "self") 832), (Value.str (Str.ofString "name") 833), (Value.str (Str.ofString "actions") 834), (Value.str (Str.ofString "file_dep") 835), (Value.str (Str.ofString "targets") 836), (Value.str (Str.ofString "task_dep") 837), (Value.str (Str.ofString "uptodate") 838), (Value.str (Str.ofString "calc_dep") 839), (Value.str (Str.ofString "setup") 840), (Value.str (Str.ofString "subtask_of") 841), (Value.str (Str.ofString "has_subtask") 842), (Value.str (Str.ofString "getargs") 843)] 0) #[])
noncomputable def o497_8 (P : Params) : Obj := (Obj.mk (Value.type "tuple") Option.none (Data.seq #[] 0) #[])
noncomputable def o498_8 (P : Params) : Obj := (Obj.mk Value.none Option.none (Data.func (FuncData.mk (Str.ofString "__init__") (Str.ofString "Task.__init__") (fa [18, 0]) (fb [18, 0]) (fs [18, 0]) 0 [] Value.none Value.none Value.none Value.none Option.none Value.none Value.none 0)) #[])
noncomputable def o499_8 (P : Params) : Obj := (Obj.mk (Value.type "code") Option.none (Data.fields #[(Value.str (Str.ofString "__init__") 829), (Value.str (Str.ofString "Task.__init__") 830), (Value.str (Str.ofString "/claim/cut.py") 831), (Value.int 256 0), (Value.int 12 0), (Value.int 0 0), (Value.int 0 0), (Value.int 3 0), (Value.ref 494), (Value.bool Bool.true), (Value.int 181 0), (Value.ref 495), Value.none, (Value.ref 496), (Value.ref 497), (Value.ref 498), (Value.int 844 0), (Value.int 256 0), (Value.str (Str.ofString "/claim/cut.py") 845)]) #[])
noncomputable def o500_8 (P : Params) : Obj := (Obj.mk (Value.type "function") Option.none (Data.func (FuncData.mk (Str.ofString "__init__") (Str.ofString "Task.__init__") (fa [18, 0]) (fb [18, 0]) (fs [18, 0]) 3 [] (Value.ref 493) Value.none Value.none (Value.str (Str.ofString "doit.task") 815) Option.none (Value.ref 499) Value.none 0)) #[])
noncomputable def o501_8 (P : Params) : Obj := (Obj.mk (Value.type "tuple") Option.none (Data.seq #[] 0) #[])
noncomputable def o502_8 (P : Params) : Obj := (Obj.mk Value.none Option.none (Data.fields #[]) #[])
noncomputable def o503_8 (P : Params) : Obj := (Obj.mk (Value.type "tuple") Option.none (Data.seq #[(Value.str (Str.ofString "self") 850), (Value.str (Str.ofString "file_dep") 851), (Value.str (Str.ofString "task_dep") 852), (Value.str (Str.ofString "calc_dep") 853)] 0) #[])
noncomputable def o504_8 (P : Params) : Obj := (Obj.mk (Value.type "tuple") Option.none (Data.seq #[] 0) #[])
noncomputable def o505_8 (P : Params) : Obj := (Obj.mk Value.none Option.none (Data.func (FuncData.mk (Str.ofString "_init_deps") (Str.ofString "Task._init_deps") (fa [18, 1]) (fb [18, 1]) (fs [18, 1]) 0 [] Value.none Value.none Value.none Value.none Option.none Value.none Value.none 0)) #[])
noncomputable def o506_8 (P : Params) : Obj := (Obj.mk (Value.type "code") Option.none (Data.fields #[(Value.str (Str.ofString "_init_deps") 847), (Value.str (Str.ofString "Task._init_deps") 848), (Value.str (Str.ofString "/claim/cut.py") 849), (Value.int 281 0), (Value.int 4 0), (Value.int 0 0), (Value.int 0 0), (Value.int 3 0), (Value.ref 501), (Value.bool Bool.true), (Value.int 181 0), (Value.ref 502), Value.none, (Value.ref 503), (Value.ref 504), (Value.ref 505), (Value.int 854 0), (Value.int 281 0), (Value.str (Str.ofString "/claim/cut.py") 855)]) #[])
noncomputable def o507_8 (P : Params) : Obj := (Obj.mk (Value.type "function") Option.none (Data.func (FuncData.mk (Str.ofString "_init_deps") (Str.ofString "Task._init_deps") (fa [18, 1]) (fb [18, 1]) (fs [18, 1]) 3 [] Value.none Value.none Value.none (Value.str (Str.ofString "doit.task") 815) Option.none (Value.ref 506) Value.none 0)) #[])
noncomputable def o508_8 (P : Params) : Obj := (Obj.mk (Value.type "tuple") Option.none (Data.seq #[] 0) #[])
noncomputable def o509_8 (P : Params) : Obj := (Obj.mk Value.none Option.none (Data.fields #[]) #[])
noncomputable def o510_8 (P : Params) : Obj := (Obj.mk (Value.type "tuple") Option.none (Data.seq #[(Value.str (Str.ofString "self") 860), (Value.str (Str.ofString "items") 861), (Value.str (Str.ofString "targets") 862), (Value.str (Str.ofString "target") 863)] 0) #[])
noncomputable def o511_8 (P : Params) : Obj := (Obj.mk (Value.type "tuple") Option.none (Data.seq #[] 0) #[])
noncomputable def o512_8 (P : Params) : Obj := (Obj.mk Value.none Option.none (Data.func (FuncData.mk (Str.ofString "_init_targets") (Str.ofString "Task._init_targets") (fa [18, 2]) (fb [18, 2]) (fs [18, 2]) 0 [] Value.none Value.none Value.none Value.none Option.none Value.none Value.none 0)) #[])
noncomputable def o513_8 (P : Params) : Obj := (Obj.mk (Value.type "code") Option.none (Data.fields #[(Value.str (Str.ofString "_init_targets") 857), (Value.str (Str.ofString "Task._init_targets") 858), (Value.str (Str.ofString "/claim/cut.py") 859), (Value.int 293 0), (Value.int 2 0), (Value.int 0 0), (Value.int 0 0), (Value.int 3 0), (Value.ref 508), (Value.bool Bool.true), (Value.int 181 0), (Value.ref 509), Value.none, (Value.ref 510), (Value.ref 511), (Value.ref 512), (Value.int 864 0), (Value.int 293 0), (Value.str (Str.ofString "/claim/cut.py") 865)]) #[])
noncomputable def o514_8 (P : Params) : Obj := (Obj.mk (Value.type "function") Option.none (Data.func (FuncData.mk (Str.ofString "_init_targets") (Str.ofString "Task._init_targets") (fa [18, 2]) (fb [18, 2]) (fs [18, 2]) 3 [] Value.none Value.none Value.none (Value.str (Str.ofString "doit.task") 815) Option.none (Value.ref 513) Value.none 0)) #[])
noncomputable def o515_8 (P : Params) : Obj := (Obj.mk (Value.type "tuple") Option.none (Data.seq #[] 0) #[])
noncomputable def o516_8 (P : Params) : Obj := (Obj.mk Value.none Option.none (Data.fields #[]) #[])
noncomputable def o517_8 (P : Params) : Obj := (Obj.mk (Value.type "tuple") Option.none (Data.seq #[(Value.str (Str.ofString "self") 870), (Value.str (Str.ofString "items") 871), (Value.str (Str.ofString "uptodate") 872), (Value.str (Str.ofString "item") 873)] 0) #[])
noncomputable def o518_8 (P : Params) : Obj := (Obj.mk (Value.type "tuple") Option.none (Data.seq #[] 0) #[])
noncomputable def o519_8 (P : Params) : Obj := (Obj.mk Value.none Option.none (Data.func (FuncData.mk (Str.ofString "_init_uptodate") (Str.ofString "Task._init_uptodate") (fa [18, 3]) (fb [18, 3]) (fs [18, 3]) 0 [] Value.none Value.none Value.none Value.none Option.none Value.none Value.none 0)) #[])
noncomputable def o520_8 (P : Params) : Obj := (Obj.mk (Value.type "code") Option.none (Data.fields #[(Value.str (Str.ofString "_init_uptodate") 867), (Value.str (Str.ofString "Task._init_uptodate") 868), (Value.str (Str.ofString "/claim/cut.py") 869), (Value.int 302 0), (Value.int 2 0), (Value.int 0 0), (Value.int 0 0), (Value.int 3 0), (Value.ref 515), (Value.bool Bool.true), (Value.int 181 0), (Value.ref 516), Value.none, (Value.ref 517), (Value.ref 518), (Value.ref 519), (Value.int 874 0), (Value.int 302 0), (Value.str (Str.ofString "/claim/cut.py") 875)]) #[])
noncomputable def o521_8 (P : Params) : Obj := (Obj.mk (Value.type "function") Option.none (Data.func (FuncData.mk (Str.ofString "_init_uptodate") (Str.ofString "Task._init_uptodate") (fa [18, 3]) (fb [18, 3]) (fs [18, 3]) 3 [] Value.none Value.none Value.none (Value.str (Str.ofString "doit.task") 815) Option.none (Value.ref 520) Value.none 0)) #[])
noncomputable def o522_8 (P : Params) : Obj := (Obj.mk (Value.type "tuple") Option.none (Data.seq #[] 0) #[])
noncomputable def o523_8 (P : Params) : Obj := (Obj.mk Value.none Option.none (Data.fields #[]) #[])
noncomputable def o524_8 (P : Params) : Obj := (Obj.mk (Value.type "tuple") Option.none (Data.seq #[(Value.str (Str.ofString "self") 880), (Value.str (Str.ofString "file_dep") 881), (Value.str (Str.ofString "dep") 882)] 0) #[])
noncomputable def o525_8 (P : Params) : Obj := (Obj.mk (Value.type "tuple") Option.none (Data.seq #[] 0) #[])
noncomputable def o526_8 (P : Params) : Obj := (Obj.mk Value.none Option.none (Data.func (FuncData.mk (Str.ofString "_expand_file_dep") (Str.ofString "Task._expand_file_dep") (fa [18, 4]) (fb [18, 4]) (fs [18, 4]) 0 [] Value.none Value.none Value.none Value.none Option.none Value.none Value.none 0)) #[])
noncomputable def o527_8 (P : Params) : Obj := (Obj.mk (Value.type "code") Option.none (Data.fields #[(Value.str (Str.ofString "_expand_file_dep") 877), (Value.str (Str.ofString "Task._expand_file_dep") 878), (Value.str (Str.ofString "/claim/cut.py") 879), (Value.int 315 0), (Value.int 2 0), (Value.int 0 0), (Value.int 0 0), (Value.int 3 0), (Value.ref 522), (Value.bool Bool.true), (Value.int 181 0), (Value.ref 523), Value.none, (Value.ref 524), (Value.ref 525), (Value.ref 526), (Value.int 883 0), (Value.int 315 0), (Value.str (Str.ofString "/claim/cut.py") 884)]) #[])
noncomputable def o528_8 (P : Params) : Obj := (Obj.mk (Value.type "function") Option.none (Data.func (FuncData.mk (Str.ofString "_expand_file_dep") (Str.ofString "Task._expand_file_dep") (fa [18, 4]) (fb [18, 4]) (fs [18, 4]) 3 [] Value.none Value.none Value.none (Value.str (Str.ofString "doit.task") 815) Option.none (Value.ref 527) Value.none 0)) #[])
noncomputable def o529_8 (P : Params) : Obj := (Obj.mk (Value.type "tuple") Option.none (Data.seq #[] 0) #[])
noncomputable def o530_8 (P : Params) : Obj := (Obj.mk Value.none Option.none (Data.fields #[]) #[])
noncomputable def o531_8 (P : Params) : Obj := (Obj.mk (Value.type "tuple") Option.none (Data.seq #[(Value.str (Str.ofString "self") 889), (Value.str (Str.ofString "task_dep") 890), (Value.str (Str.ofString "dep") 891)] 0) #[])
noncomputable def o532_8 (P : Params) : Obj := (Obj.mk (Value.type "tuple") Option.none (Data.seq #[] 0) #[])
noncomputable def o533_8 (P : Params) : Obj := (Obj.mk Value.none Option.none (Data.func (FuncData.mk (Str.ofString "_expand_task_dep") (Str.ofString "Task._expand_task_dep") (fa [18, 5]) (fb [18, 5]) (fs [18, 5]) 0 [] Value.none Value.none Value.none Value.none Option.none Value.none Value.none 0)) #[])
noncomputable def o534_8 (P : Params) : Obj := (Obj.mk (Value.type "code") Option.none (Data.fields #[(Value.str (Str.ofString "_expand_task_dep") 886), (Value.str (Str.ofString "Task._expand_task_dep") 887), (Value.str (Str.ofString "/claim/cut.py") 888), (Value.int 323 0), (Value.int 2 0), (Value.int 0 0), (Value.int 0 0), (Value.int 3 0), (Value.ref 529), (Value.bool Bool.true), (Value.int 181 0), (Value.ref 530), Value.none, (Value.ref 531), (Value.ref 532), (Value.ref 533), (Value.int 892 0), (Value.int 323 0), (Value.str (Str.ofString "/claim/cut.py") 893)]) #[])
noncomputable def o535_8 (P : Params) : Obj := (Obj.mk (Value.type "function") Option.none (Data.func (FuncData.mk (Str.ofString "_expand_task_dep") (Str.ofString "Task._expand_task_dep") (fa [18, 5]) (fb [18, 5]) (fs [18, 5]) 3 [] Value.none Value.none Value.none (Value.str (Str.ofString "doit.task") 815) Option.none (Value.ref 534) Value.none 0)) #[])
noncomputable def o536_8 (P : Params) : Obj := (Obj.mk (Value.type "tuple") Option.none (Data.seq #[] 0) #[])
noncomputable def o537_8 (P : Params) : Obj := (Obj.mk Value.none Option.none (Data.fields #[]) #[])
noncomputable def o538_8 (P : Params) : Obj := (Obj.mk (Value.type "tuple") Option.none (Data.seq #[(Value.str (Str.ofString "self") 898), (Value.str (Str.ofString "calc_dep") 899), (Value.str (Str.ofString "dep") 900)] 0) #[])
noncomputable def o539_8 (P : Params) : Obj := (Obj.mk (Value.type "tuple") Option.none (Data.seq #[] 0) #[])
noncomputable def o540_8 (P : Params) : Obj := (Obj.mk Value.none Option.none (Data.func (FuncData.mk (Str.ofString "_expand_calc_dep") (Str.ofString "Task._expand_calc_dep") (fa [18, 6]) (fb [18, 6]) (fs [18, 6]) 0 [] Value.none Value.none Value.none Value.none Option.none Value.none Value.none 0)) #[])
noncomputable def o541_8 (P : Params) : Obj := (Obj.mk (Value.type "code") Option.none (Data.fields #[(Value.str (Str.ofString "_expand_calc_dep") 895), (Value.str (Str.ofString "Task._expand_calc_dep") 896), (Value.str (Str.ofString "/claim/cut.py") 897), (Value.int 330 0), (Value.int 2 0), (Value.int 0 0), (Value.int 0 0), (Value.int 3 0), (Value.ref 536), (Value.bool Bool.true), (Value.int 181 0), (Value.ref 537), Value.none, (Value.ref 538), (Value.ref 539), (Value.ref 540), (Value.int 901 0), (Value.int 330 0), (Value.str (Str.ofString "/claim/cut.py") 902)]) #[])
noncomputable def o542_8 (P : Params) : Obj := (Obj.mk (Value.type "function") Option.none (Data.func (FuncData.mk (Str.ofString "_expand_calc_dep") (Str.ofString "Task._expand_calc_dep") (fa [18, 6]) (fb [18, 6]) (fs [18, 6]) 3 [] Value.none Value.none Value.none (Value.str (Str.ofString "doit.task") 815) Option.none (Value.ref 541) Value.none 0)) #[])
noncomputable def o543_8 (P : Params) : Obj := (Obj.mk (Value.type "tuple") Option.none (Data.seq #[] 0) #[])
noncomputable def o544_8 (P : Params) : Obj := (Obj.mk Value.none Option.none (Data.fields #[]) #[])
noncomputable def o545_8 (P : Params) : Obj := (Obj.mk (Value.type "tuple") Option.none (Data.seq #[(Value.str (Str.ofString "self") 907), (Value.str (Str.ofString "uptodate") 908)] 0) #[])
noncomputable def o546_8 (P : Params) : Obj := (Obj.mk (Value.type "tuple") Option.none (Data.seq #[] 0) #[])
noncomputable def o547_8 (P : Params) : Obj := (Obj.mk Value.none Option.none (Data.func (FuncData.mk (Str.ofString "_extend_uptodate") (Str.ofString "Task._extend_uptodate") (fa [18, 7]) (fb [18, 7]) (fs [18, 7]) 0 [] Value.none Value.none Value.none Value.none Option.none Value.none Value.none 0)) #[])
noncomputable def o548_8 (P : Params) : Obj := (Obj.mk (Value.type "code") Option.none (Data.fields #[(Value.str (Str.ofString "_extend_uptodate") 904), (Value.str (Str.ofString "Task._extend_uptodate") 905), (Value.str (Str.ofString "/claim/cut.py") 906), (Value.int 335 0), (Value.int 2 0), (Value.int 0 0), (Value.int 0 0), (Value.int 3 0), (Value.ref 543), (Value.bool Bool.true), (Value.int 181 0), (Value.ref 544), Value.none, (Value.ref 545), (Value.ref 546), (Value.ref 547), (Value.int 909 0), (Value.int 335 0), (Value.str (Str.ofString "/claim/cut.py") 910)]) #[])
noncomputable def o549_8 (P : Params) : Obj := (Obj.mk (Value.type "function") Option.none (Data.func (FuncData.mk (Str.ofString "_extend_uptodate") (Str.ofString "Task._extend_uptodate") (fa [18, 7]) (fb [18, 7]) (fs [18, 7]) 3 [] Value.none Value.none Value.none (Value.str (Str.ofString "doit.task") 815) Option.none (Value.ref 548) Value.none 0)) #[])
noncomputable def o550_8 (P : Params) : Obj := (Obj.mk (Value.type "tuple") Option.none (Data.seq #[] 0) #[])
noncomputable def o551_8 (P : Params) : Obj := (Obj.mk Value.none Option.none (Data.fields #[]) #[])
noncomputable def o552_8 (P : Params) : Obj := (Obj.mk (Value.type "tuple") Option.none (Data.seq #[(Value.str (Str.ofString "self") 915), (Value.str (Str.ofString "deps") 916)] 0) #[])
noncomputable def o553_8 (P : Params) : Obj := (Obj.mk (Value.type "tuple") Option.none (Data.seq #[] 0) #[])
noncomputable def o554_8 (P : Params) : Obj := (Obj.mk Value.none Option.none (Data.func (FuncData.mk (Str.ofString "update_deps") (Str.ofString "Task.update_deps") (fa [18, 8]) (fb [18, 8]) (fs [18, 8]) 0 [] Value.none Value.none Value.none Value.none Option.none Value.none Value.none 0)) #[])
noncomputable def o555_8 (P : Params) : Obj := (Obj.mk (Value.type "code") Option.none (Data.fields #[(Value.str (Str.ofString "update_deps") 912), (Value.str (Str.ofString "Task.update_deps") 913), (Value.str (Str.ofString "/claim/cut.py") 914), (Value.int 338 0), (Value.int 2 0), (Value.int 0 0), (Value.int 0 0), (Value.int 3 0), (Value.ref 550), (Value.bool Bool.true), (Value.int 181 0), (Value.ref 551), Value.none, (Value.ref 552), (Value.ref 553), (Value.ref 554), (Value.int 917 0), (Value.int 338 0), (Value.str (Str.ofString "/claim/cut.py") 918)]) #[])
noncomputable def o556_8 (P : Params) : Obj := (Obj.mk (Value.type "function") Option.none (Data.func (FuncData.mk (Str.ofString "update_deps") (Str.ofString "Task.update_deps") (fa [18, 8]) (fb [18, 8]) (fs [18, 8]) 3 [] Value.none Value.none Value.none (Value.str (Str.ofString "doit.task") 815) Option.none (Value.ref 555) Value.none 0)) #[])
noncomputable def o557_8 (P : Params) : Obj := (Obj.mk (Value.type "tuple") Option.none (Data.seq #[Value.none] 0) #[])
noncomputable def o558_8 (P : Params) : Obj := (Obj.mk (Value.type "tuple") Option.none (Data.seq #[] 0) #[])
noncomputable def o559_8 (P : Params) : Obj := (Obj.mk Value.none Option.none (Data.fields #[]) #[])
noncomputable def o560_8 (P : Params) : Obj := (Obj.mk (Value.type "tuple") Option.none (Data.seq #[(Value.str (Str.ofString "self") 923), (Value.str (Str.ofString "args") 924)] 0) #[])
noncomputable def o561_8 (P : Params) : Obj := (Obj.mk (Value.type "tuple") Option.none (Data.seq #[] 0) #[])
noncomputable def o562_8 (P : Params) : Obj := (Obj.mk Value.none Option.none (Data.func (FuncData.mk (Str.ofString "init_options") (Str.ofString "Task.init_options") (fa [18, 9]) (fb [18, 9]) (fs [18, 9]) 0 [] Value.none Value.none Value.none Value.none Option.none Value.none Value.none 0)) #[])
noncomputable def o563_8 (P : Params) : Obj := (Obj.mk (Value.type "code") Option.none (Data.fields #[(Value.str (Str.ofString "init_options") 920), (Value.str (Str.ofString "Task.init_options") 921), (Value.str (Str.ofString "/claim/cut.py") 922), (Value.int 341 0), (Value.int 2 0), (Value.int 0 0), (Value.int 0 0), (Value.int 3 0), (Value.ref 558), (Value.bool Bool.true), (Value.int 181 0), (Value.ref 559), Value.none, (Value.ref 560), (Value.ref 561), (Value.ref 562), (Value.int 925 0), (Value.int 341 0), (Value.str (Str.ofString "/claim/cut.py") 926)]) #[])
noncomputable def o564_8 (P : Params) : Obj := (Obj.mk (Value.type "function") Option.none (Data.func (FuncData.mk (Str.ofString "init_options") (Str.ofString "Task.init_options") (fa [18, 9]) (fb [18, 9]) (fs [18, 9]) 3 [] (Value.ref 557) Value.none Value.none (Value.str (Str.ofString "doit.task") 815) Option.none (Value.ref 563) Value.none 0)) #[])
noncomputable def o565_8 (P : Params) : Obj := (Obj.mk (Value.type "tuple") Option.none (Data.seq #[] 0) #[])
noncomputable def o566_8 (P : Params) : Obj := (Obj.mk Value.none Option.none (Data.fields #[]) #[])
noncomputable def o567_8 (P : Params) : Obj := (Obj.mk Value.none Option.none (Data.func (FuncData.mk (Str.ofString "_init_getargs") (Str.ofString "Task._init_getargs") (fa [18, 10]) (fb [18, 10]) (fs [18, 10]) 0 [] Value.none Value.none Value.none Value.none Option.none Value.none Value.none 0)) #[])
noncomputable def o568_8 (P : Params) : Obj := (Obj.mk (Value.type "code") Option.none (Data.fields #[(Value.str (Str.ofString "_init_getargs") 928), (Value.str (Str.ofString "Task._init_getargs") 929), (Value.str (Str.ofString "/claim/cut.py") 930), (Value.int 346 0), (Value.int 1 0), (Value.int 0 0), (Value.int 0 0), (Value.int 3 0), (Value.ref 565), (Value.bool Bool.true), (Value.int 181 0), (Value.ref 566), Value.none, Value.none, Value.none, (Value.ref 567), (Value.int 931 0), (Value.int 346 0), (Value.str (Str.ofString "/claim/cut.py") 932)]) #[])
noncomputable def o569_8 (P : Params) : Obj := (Obj.mk (Value.type "function") Option.none (Data.func (FuncData.mk (Str.ofString "_init_getargs") (Str.ofString "Task._init_getargs") (fa [18, 10]) (fb [18, 10]) (fs [18, 10]) 3 [] Value.none Value.none Value.none (Value.str (Str.ofString "doit.task") 815) Option.none (Value.ref 568) Value.none 0)) #[])
noncomputable def o570_8 (P : Params) : Obj := (Obj.mk (Value.type "tuple") Option.none (Data.seq #[] 0) #[])
noncomputable def o571_8 (P : Params) : Obj := (Obj.mk Value.none Option.none (Data.fields #[]) #[])
noncomputable def o572_8 (P : Params) : Obj := (Obj.mk (Value.type "tuple") Option.none (Data.seq #[(Value.str (Str.ofString "self") 937)] 0) #[])
noncomputable def o573_8 (P : Params) : Obj := (Obj.mk (Value.type "tuple") Option.none (Data.seq #[] 0) #[])
noncomputable def o574_8 (P : Params) : Obj := (Obj.mk Value.none Option.none (Data.func (FuncData.mk (Str.ofString "save_extra_values") (Str.ofString "Task.save_extra_values") (fa [18, 11]) (fb [18, 11]) (fs [4, 6]) 0 [] Value.none Value.none Value.none Value.none Option.none Value.none Value.none 0)) #[])
noncomputable def o575_8 (P : Params) : Obj := (Obj.mk (Value.type "code") Option.none (Data.fields #[(Value.str (Str.ofString "save_extra_values") 934), (Value.str (Str.ofString "Task.save_extra_values") 935), (Value.str (Str.ofString "/claim/cut.py") 936), (Value.int 356 0), (Value.int 1 0), (Value.int 0 0), (Value.int 0 0), (Value.int 3 0), (Value.ref 570), (Value.bool Bool.true), (Value.int 181 0), (Value.ref 571), Value.none, (Value.ref 572), (Value.ref 573), (Value.ref 574), (Value.int 938 0), (Value.int 356 0), (Value.str (Str.ofString "/claim/cut.py") 939)]) #[])
noncomputable def o576_8 (P : Params) : Obj := (Obj.mk (Value.type "function") Option.none (Data.func (FuncData.mk (Str.ofString "save_extra_values") (Str.ofString "Task.save_extra_values") (fa [18, 11]) (fb [18, 11]) (fs [4, 6]) 3 [] Value.none Value.none Value.none (Value.str (Str.ofString "doit.task") 815) Option.none (Value.ref 575) Value.none 0)) #[])
noncomputable def o577_8 (P : Params) : Obj := (Obj.mk (Value.type "tuple") Option.none (Data.seq #[] 0) #[])
noncomputable def o578_8 (P : Params) : Obj := (Obj.mk Value.none Option.none (Data.fields #[]) #[])
noncomputable def o579_8 (P : Params) : Obj := (Obj.mk (Value.type "tuple") Option.none (Data.seq #[(Value.str (Str.ofString "self") 944), (Value.str (Str.ofString "stream") 945), (Value.str (Str.ofString "word") 946), (Value.str (Str.ofString "result") 947), (Value.str (Str.ofString "values") 948)] 0) #[])
noncomputable def o580_8 (P : Params) : Obj := (Obj.mk (Value.type "tuple") Option.none (Data.seq #[] 0) #[])
noncomputable def o581_8 (P : Params) : Obj := (Obj.mk Value.none Option.none (Data.func (FuncData.mk (Str.ofString "execute") (Str.ofString "Task.execute") (fa [18, 12]) (fb [18, 12]) (fs [18, 12]) 0 [] Value.none Value.none Value.none Value.none Option.none Value.none Value.none 0)) #[])
noncomputable def o582_8 (P : Params) : Obj := (Obj.mk (Value.type "code") Option.none (Data.fields #[(Value.str (Str.ofString "execute") 941), (Value.str (Str.ofString "Task.execute") 942), (Value.str (Str.ofString "/claim/cut.py") 943), (Value.int 359 0), (Value.int 2 0), (Value.int 0 0), (Value.int 0 0), (Value.int 3 0), (Value.ref 577), (Value.bool Bool.true), (Value.int 181 0), (Value.ref 578), Value.none, (Value.ref 579), (Value.ref 580), (Value.ref 581), (Value.int 949 0), (Value.int 359 0), (Value.str (Str.ofString "/claim/cut.py") 950)]) #[])
noncomputable def o583_8 (P : Params) : Obj := (Obj.mk (Value.type "function") Option.none (Data.func (FuncData.mk (Str.ofString "execute") (Str.ofString "Task.execute") (fa [18, 12]) (fb [18, 12]) (fs [18, 12]) 3 [] Value.none Value.none Value.none (Value.str (Str.ofString "doit.task") 815) Option.none (Value.ref 582) Value.none 0)) #[])
noncomputable def o584_8 (P : Params) : Obj := (Obj.mk (Value.type "tuple") Option.none (Data.seq #[(Value.str (Str.ofString "actions") 952), (Value.str (Str.ofString "calc_dep") 953), (Value.str (Str.ofString "dep_changed") 954), (Value.str (Str.ofString "executed") 955), (Value.str (Str.ofString "file_dep") 956), (Value.str (Str.ofString "getargs") 957), (Value.str (Str.ofString "has_subtask") 958), (Value.str (Str.ofString "name") 959), (Value.str (Str.ofString "options") 960), (Value.str (Str.ofString "result") 961), (Value.str (Str.ofString "setup_tasks") 962), (Value.str (Str.ofString "subtask_of") 963), (Value.str (Str.ofString "targets") 964), (Value.str (Str.ofString "task_dep") 965), (Value.str (Str.ofString "uptodate") 966), (Value.str (Str.ofString "value_savers") 967), (Value.str (Str.ofString "values") 968), (Value.str (Str.ofString "wild_dep") 969)] 0) #[])
noncomputable def o585_8 (P : Params) : Obj := (Obj.mk (Value.type "dict") Option.none (Data.dict #[(DictEntry.mk (PyData.keyHash P (Str.ofString "__module__")) (Value.str (Str.ofString "__module__") 824) (Value.str (Str.ofString "doit.task") 815)), (DictEntry.mk (PyData.keyHash P (Str.ofString "__firstlineno__")) (Value.str (Str.ofString "__firstlineno__") 828) (Value.int 254 827)), (DictEntry.mk (PyData.keyHash P (Str.ofString "__init__")) (Value.str (Str.ofString "__init__") 846) (Value.ref 500)), (DictEntry.mk (PyData.keyHash P (Str.ofString "_init_deps")) (Value.str (Str.ofString "_init_deps") 856) (Value.ref 507)), (DictEntry.mk (PyData.keyHash P (Str.ofString "_init_targets")) (Value.str (Str.ofString "_init_targets") 866) (Value.ref 514)), (DictEntry.mk (PyData.keyHash P (Str.ofString "_init_uptodate")) (Value.str (Str.ofString "_init_uptodate") 876) (Value.ref 521)), (DictEntry.mk (PyData.keyHash P (Str.ofString "_expand_file_dep")) (Value.str (Str.ofString "_expand_file_dep") 885) (Value.ref 528)), (DictEntry.mk (PyData.keyHash P (Str.ofString "_expand_task_dep")) (Value.str (Str.ofString "_expand_task_dep") 894) (Value.ref 535)), (DictEntry.mk (PyData.keyHash P (Str.ofString "_expand_calc_dep")) (Value.str (Str.ofString "_expand_calc_dep") 903) (Value.ref 542)), (DictEntry.mk (PyData.keyHash P (Str.ofString "_extend_uptodate")) (Value.str (Str.ofString "_extend_uptodate") 911) (Value.ref 549)), (DictEntry.mk (PyData.keyHash P (Str.ofString "update_deps")) (Value.str (Str.ofString "update_deps") 919) (Value.ref 556)), (DictEntry.mk (PyData.keyHash P (Str.ofString "init_options")) (Value.str (Str.ofString "init_options") 927) (Value.ref 564)), (DictEntry.mk (PyData.keyHash P (Str.ofString "_init_getargs")) (Value.str (Str.ofString "_init_getargs") 933) (Value.ref 569)), (DictEntry.mk (PyData.keyHash P (Str.ofString "save_extra_values")) (Value.str (Str.ofString "save_extra_values") 940) (Value.ref 576)), (DictEntry.mk (PyData.keyHash P (Str.ofString "execute")) (Value.str (Str.ofString "execute") 951) (Value.ref 583)), (DictEntry.mk (PyData.keyHash P (Str.ofString "__static_attributes__")) (Value.str (Str.ofString "__static_attributes__") 970) (Value.ref 584)), (DictEntry.mk (PyData.keyHash P (Str.ofString "__dict__")) (Value.str (Str.ofString "__dict__") 972) (Value.ref 587)), (DictEntry.mk (PyData.keyHash P (Str.ofString "__weakref__")) (Value.str (Str.ofString "__weakref__") 974) (Value.ref 588)), (DictEntry.mk (PyData.keyHash P (Str.ofString "__doc__")) (Value.str (Str.ofString "__doc__") 975) Value.none)] 4) #[])
noncomputable def o586_8 (P : Params) : Obj := (Obj.mk (Value.type "type") Option.none (Data.cls (ClassData.mk (Str.ofString "Task") [(Value.type "object")] [(Value.ref 586), (Value.type "object")] 585 (Str.ofString "Task") Bool.true [] [] Bool.false Option.none Bool.false)) #[Option.none, Option.none, (Option.some (Value.str (Str.ofString "Task") 817)), (Option.some (Value.str (Str.ofString "Task") 825)), (Option.some (Value.builtin "object.__new__")), (Option.some (Value.bool Bool.true))])
noncomputable def o587_8 (P : Params) : Obj := (Obj.mk (Value.type "getset_descriptor") Option.none (Data.fields #[(Value.str (Str.ofString "__dict__") 971), (Value.ref 586), (Value.builtin "function.__dict__"), (Value.builtin "function.__dict__#set")]) #[])
noncomputable def o588_8 (P : Params) : Obj := (Obj.mk (Value.type "getset_descriptor") Option.none (Data.fields #[(Value.str (Str.ofString "__weakref__") 973), (Value.ref 586), (Value.builtin "ExceptionGroup.__weakref__"), Value.none]) #[])
noncomputable def o589_8 (P : Params) : Obj := (Obj.mk (Value.type "super") Option.none (Data.fields #[(Value.ref 586), (Value.ref 586), (Value.ref 586)]) #[])
noncomputable def o590_8 (P : Params) : Obj := (Obj.mk (Value.type "builtin_function_or_method") Option.none (Data.fields #[(Value.builtin "object.__init_subclass__"), (Value.ref 586)]) #[])
noncomputable def tr7 (P : Params) : BT := (.node (boot_o_0 P) (.node (boot_o_1 P) (.node (o3_8 P) (.node (boot_o_7 P) (.node (o15_2 P) (.node (o31_2 P) (.node (o63_2 P) (.node (o127_3 P) (.node (o255_5 P) (.node (o511_8 P) .nil .nil) .nil) (.node (o383_6 P) .nil .nil)) (.node (o191_3 P) (.node (o319_5 P) (.node (o575_8 P) .nil .nil) .nil) (.node (o447_7 P) .nil .nil))) (.node (o95_2 P) (.node (o159_3 P) (.node (o287_5 P) (.node (o543_8 P) .nil .nil) .nil) (.node (o415_6 P) .nil .nil)) (.node (o223_4 P) (.node (o351_5 P) .nil .nil) (.node (o479_7 P) .nil .nil)))) (.node (o47_2 P) (.node (o79_2 P) (.node (o143_3 P) (.node (o271_5 P) (.node (o527_8 P) .nil .nil) .nil) (.node (o399_6 P) .nil .nil)) (.node (o207_4 P) (.node (o335_5 P) .nil .nil) (.node (o463_7 P) .nil .nil))) (.node (o111_3 P) (.node (o175_3 P) (.node (o303_5 P) (.node (o559_8 P) .nil .nil) .nil) (.node (o431_6 P) .nil .nil)) (.node (o239_4 P) (.node (o367_5 P) .nil .nil) (.node (o495_8 P) .nil .nil))))) (.node (o23_2 P) (.node (o39_2 P) (.node (o71_2 P) (.node (o135_3 P) (.node (o263_5 P) (.node (o519_8 P) .nil .nil) .nil) (.node (o391_6 P) .nil .nil)) (.node (o199_3 P) (.node (o327_5 P) (.node (o583_8 P) .nil .nil) .nil) (.node (o455_7 P) .nil .nil))) (.node (o103_2 P) (.node (o167_3 P) (.node (o295_5 P) (.node (o551_8 P) .nil .nil) .nil) (.node (o423_6 P) .nil .nil)) (.node (o231_4 P) (.node (o359_5 P) .nil .nil) (.node (o487_8 P) .nil .nil)))) (.node (o55_2 P) (.node (o87_2 P) (.node (o151_3 P) (.node (o279_5 P) (.node (o535_8 P) .nil .nil) .nil) (.node (o407_6 P) .nil .nil)) (.node (o215_4 P) (.node (o343_5 P) .nil .nil) (.node (o471_7 P) .nil .nil))) (.node (o119_3 P) (.node (o183_3 P) (.node (o311_5 P) (.node (o567_8 P) .nil .nil) .nil) (.node (o439_7 P) .nil .nil)) (.node (o247_4 P) (.node (o375_6 P) .nil .nil) (.node (o503_8 P) .nil .nil)))))) (.node (o11_0 P) (.node (o19_2 P) (.node (o35_2 P) (.node (o67_2 P) (.node (o131_3 P) (.node (o259_5 P) (.node (o515_8 P) .nil .nil) .nil) (.node (o387_6 P) .nil .nil)) (.node (o195_3 P) (.node (o323_5 P) (.node (o579_8 P) .nil .nil) .nil) (.node (o451_7 P) .nil .nil))) (.node (o99_2 P) (.node (o163_3 P) (.node (o291_5 P) (.node (o547_8 P) .nil .nil) .nil) (.node (o419_6 P) .nil .nil)) (.node (o227_4 P) (.node (o355_5 P) .nil .nil) (.node (o483_8 P) .nil .nil)))) (.node (o51_2 P) (.node (o83_2 P) (.node (o147_3 P) (.node (o275_5 P) (.node (o531_8 P) .nil .nil) .nil) (.node (o403_6 P) .nil .nil)) (.node (o211_4 P) (.node (o339_5 P) .nil .nil) (.node (o467_7 P) .nil .nil))) (.node (o115_3 P) (.node (o179_3 P) (.node (o307_5 P) (.node (o563_8 P) .nil .nil) .nil) (.node (o435_6 P) .nil .nil)) (.node (o243_4 P) (.node (o371_6 P) .nil .nil) (.node (o499_8 P) .nil .nil))))) (.node (o27_2 P) (.node (o43_2 P) (.node (o75_2 P) (.node (o139_3 P) (.node (o267_5 P) (.node (o523_8 P) .nil .nil) .nil) (.node (o395_6 P) .nil .nil)) (.node (o203_3 P) (.node (o331_5 P) (.node (o587_8 P) .nil .nil) .nil) (.node (o459_7 P) .nil .nil))) (.node (o107_3 P) (.node (o171_3 P) (.node (o299_5 P) (.node (o555_8 P) .nil .nil) .nil) (.node (o427_6 P) .nil .nil)) (.node (o235_4 P) (.node (o363_5 P) .nil .nil) (.node (o491_8 P) .nil .nil)))) (.node (o59_2 P) (.node (o91_2 P) (.node (o155_3 P) (.node (o283_5 P) (.node (o539_8 P) .nil .nil) .nil) (.node (o411_6 P) .nil .nil)) (.node (o219_4 P) (.node (o347_5 P) .nil .nil) (.node (o475_7 P) .nil .nil))) (.node (o123_3 P) (.node (o187_3 P) (.node (o315_5 P) (.node (o571_8 P) .nil .nil) .nil) (.node (o443_6 P) .nil .nil)) (.node (o251_5 P) (.node (o379_6 P) .nil .nil) (.node (o507_8 P) .nil .nil))))))) (.node (boot_o_5 P) (.node (boot_o_9 P) (.node (o17_2 P) (.node (o33_2 P) (.node (o65_2 P) (.node (o129_3 P) (.node (o257_5 P) (.node (o513_8 P) .nil .nil) .nil) (.node (o385_6 P) .nil .nil)) (.node (o193_3 P) (.node (o321_5 P) (.node (o577_8 P) .nil .nil) .nil) (.node (o449_7 P) .nil .nil))) (.node (o97_2 P) (.node (o161_3 P) (.node (o289_5 P) (.node (o545_8 P) .nil .nil) .nil) (.node (o417_6 P) .nil .nil)) (.node (o225_4 P) (.node (o353_5 P) .nil .nil) (.node (o481_8 P) .nil .nil)))) (.node (o49_2 P) (.node (o81_2 P) (.node (o145_3 P) (.node (o273_5 P) (.node (o529_8 P) .nil .nil) .nil) (.node (o401_6 P) .nil .nil)) (.node (o209_4 P) (.node (o337_5 P) .nil .nil) (.node (o465_7 P) .nil .nil))) (.node (o113_3 P) (.node (o177_3 P) (.node (o305_5 P) (.node (o561_8 P) .nil .nil) .nil) (.node (o433_6 P) .nil .nil)) (.node (o241_4 P) (.node (o369_6 P) .nil .nil) (.node (o497_8 P) .nil .nil))))) (.node (o25_2 P) (.node (o41_2 P) (.node (o73_2 P) (.node (o137_3 P) (.node (o265_5 P) (.node (o521_8 P) .nil .nil) .nil) (.node (o393_6 P) .nil .nil)) (.node (o201_3 P) (.node (o329_5 P) (.node (o585_8 P) .nil .nil) .nil) (.node (o457_7 P) .nil .nil))) (.node (o105_3 P) (.node (o169_3 P) (.node (o297_5 P) (.node (o553_8 P) .nil .nil) .nil) (.node (o425_6 P) .nil .nil)) (.node (o233_4 P) (.node (o361_5 P) .nil .nil) (.node (o489_8 P) .nil .nil)))) (.node (o57_2 P) (.node (o89_2 P) (.node (o153_3 P) (.node (o281_5 P) (.node (o537_8 P) .nil .nil) .nil) (.node (o409_6 P) .nil .nil)) (.node (o217_4 P) (.node (o345_5 P) .nil .nil) (.node (o473_7 P) .nil .nil))) (.node (o121_3 P) (.node (o185_3 P) (.node (o313_5 P) (.node (o569_8 P) .nil .nil) .nil) (.node (o441_6 P) .nil .nil)) (.node (o249_5 P) (.node (o377_6 P) .nil .nil) (.node (o505_8 P) .nil .nil)))))) (.node (o13_0 P) (.node (o21_2 P) (.node (o37_2 P) (.node (o69_2 P) (.node (o133_3 P) (.node (o261_5 P) (.node (o517_8 P) .nil .nil) .nil) (.node (o389_6 P) .nil .nil)) (.node (o197_3 P) (.node (o325_5 P) (.node (o581_8 P) .nil .nil) .nil) (.node (o453_7 P) .nil .nil))) (.node (o101_2 P) (.node (o165_3 P) (.node (o293_5 P) (.node (o549_8 P) .nil .nil) .nil) (.node (o421_6 P) .nil .nil)) (.node (o229_4 P) (.node (o357_5 P) .nil .nil) (.node (o485_8 P) .nil .nil)))) (.node (o53_2 P) (.node (o85_2 P) (.node (o149_3 P) (.node (o277_5 P) (.node (o533_8 P) .nil .nil) .nil) (.node (o405_6 P) .nil .nil)) (.node (o213_4 P) (.node (o341_5 P) .nil .nil) (.node (o469_7 P) .nil .nil))) (.node (o117_3 P) (.node (o181_3 P) (.node (o309_5 P) (.node (o565_8 P) .nil .nil) .nil) (.node (o437_6 P) .nil .nil)) (.node (o245_4 P) (.node (o373_6 P) .nil .nil) (.node (o501_8 P) .nil .nil))))) (.node (o29_2 P) (.node (o45_2 P) (.node (o77_2 P) (.node (o141_3 P) (.node (o269_5 P) (.node (o525_8 P) .nil .nil) .nil) (.node (o397_6 P) .nil .nil)) (.node (o205_3 P) (.node (o333_5 P) (.node (o589_8 P) .nil .nil) .nil) (.node (o461_7 P) .nil .nil))) (.node (o109_3 P) (.node (o173_3 P) (.node (o301_5 P) (.node (o557_8 P) .nil .nil) .nil) (.node (o429_6 P) .nil .nil)) (.node (o237_4 P) (.node (o365_5 P) .nil .nil) (.node (o493_8 P) .nil .nil)))) (.node (o61_2 P) (.node (o93_2 P) (.node (o157_3 P) (.node (o285_5 P) (.node (o541_8 P) .nil .nil) .nil) (.node (o413_6 P) .nil .nil)) (.node (o221_4 P) (.node (o349_5 P) .nil .nil) (.node (o477_7 P) .nil .nil))) (.node (o125_3 P) (.node (o189_3 P) (.node (o317_5 P) (.node (o573_8 P) .nil .nil) .nil) (.node (o445_7 P) .nil .nil)) (.node (o253_5 P) (.node (o381_6 P) .nil .nil) (.node (o509_8 P) .nil .nil)))))))) (.node (o2_6 P) (.node (boot_o_4 P) (.node (boot_o_8 P) (.node (o16_2 P) (.node (o32_2 P) (.node (o64_2 P) (.node (o128_3 P) (.node (o256_5 P) (.node (o512_8 P) .nil .nil) .nil) (.node (o384_6 P) .nil .nil)) (.node (o192_3 P) (.node (o320_5 P) (.node (o576_8 P) .nil .nil) .nil) (.node (o448_7 P) .nil .nil))) (.node (o96_2 P) (.node (o160_3 P) (.node (o288_5 P) (.node (o544_8 P) .nil .nil) .nil) (.node (o416_6 P) .nil .nil)) (.node (o224_4 P) (.node (o352_5 P) .nil .nil) (.node (o480_8 P) .nil .nil)))) (.node (o48_2 P) (.node (o80_2 P) (.node (o144_3 P) (.node (o272_5 P) (.node (o528_8 P) .nil .nil) .nil) (.node (o400_6 P) .nil .nil)) (.node (o208_4 P) (.node (o336_5 P) .nil .nil) (.node (o464_7 P) .nil .nil))) (.node (o112_3 P) (.node (o176_3 P) (.node (o304_5 P) (.node (o560_8 P) .nil .nil) .nil) (.node (o432_6 P) .nil .nil)) (.node (o240_4 P) (.node (o368_6 P) .nil .nil) (.node (o496_8 P) .nil .nil))))) (.node (o24_2 P) (.node (o40_2 P) (.node (o72_2 P) (.node (o136_3 P) (.node (o264_5 P) (.node (o520_8 P) .nil .nil) .nil) (.node (o392_6 P) .nil .nil)) (.node (o200_3 P) (.node (o328_5 P) (.node (o584_8 P) .nil .nil) .nil) (.node (o456_7 P) .nil .nil))) (.node (o104_2 P) (.node (o168_3 P) (.node (o296_5 P) (.node (o552_8 P) .nil .nil) .nil) (.node (o424_6 P) .nil .nil)) (.node (o232_4 P) (.node (o360_5 P) .nil .nil) (.node (o488_8 P) .nil .nil)))) (.node (o56_2 P) (.node (o88_2 P) (.node (o152_3 P) (.node (o280_5 P) (.node (o536_8 P) .nil .nil) .nil) (.node (o408_6 P) .nil .nil)) (.node (o216_4 P) (.node (o344_5 P) .nil .nil) (.node (o472_7 P) .nil .nil))) (.node (o120_3 P) (.node (o184_3 P) (.node (o312_5 P) (.node (o568_8 P) .nil .nil) .nil) (.node (o440_6 P) .nil .nil)) (.node (o248_4 P) (.node (o376_6 P) .nil .nil) (.node (o504_8 P) .nil .nil)))))) (.node (o12_8 P) (.node (o20_2 P) (.node (o36_2 P) (.node (o68_2 P) (.node (o132_3 P) (.node (o260_5 P) (.node (o516_8 P) .nil .nil) .nil) (.node (o388_6 P) .nil .nil)) (.node (o196_3 P) (.node (o324_5 P) (.node (o580_8 P) .nil .nil) .nil) (.node (o452_7 P) .nil .nil))) (.node (o100_2 P) (.node (o164_3 P) (.node (o292_5 P) (.node (o548_8 P) .nil .nil) .nil) (.node (o420_6 P) .nil .nil)) (.node (o228_4 P) (.node (o356_5 P) .nil .nil) (.node (o484_8 P) .nil .nil)))) (.node (o52_2 P) (.node (o84_2 P) (.node (o148_3 P) (.node (o276_5 P) (.node (o532_8 P) .nil .nil) .nil) (.node (o404_6 P) .nil .nil)) (.node (o212_4 P) (.node (o340_5 P) .nil .nil) (.node (o468_7 P) .nil .nil))) (.node (o116_3 P) (.node (o180_3 P) (.node (o308_5 P) (.node (o564_8 P) .nil .nil) .nil) (.node (o436_6 P) .nil .nil)) (.node (o244_4 P) (.node (o372_6 P) .nil .nil) (.node (o500_8 P) .nil .nil))))) (.node (o28_2 P) (.node (o44_2 P) (.node (o76_2 P) (.node (o140_3 P) (.node (o268_5 P) (.node (o524_8 P) .nil .nil) .nil) (.node (o396_6 P) .nil .nil)) (.node (o204_3 P) (.node (o332_5 P) (.node (o588_8 P) .nil .nil) .nil) (.node (o460_7 P) .nil .nil))) (.node (o108_3 P) (.node (o172_3 P) (.node (o300_5 P) (.node (o556_8 P) .nil .nil) .nil) (.node (o428_6 P) .nil .nil)) (.node (o236_4 P) (.node (o364_5 P) .nil .nil) (.node (o492_8 P) .nil .nil)))) (.node (o60_2 P) (.node (o92_2 P) (.node (o156_3 P) (.node (o284_5 P) (.node (o540_8 P) .nil .nil) .nil) (.node (o412_6 P) .nil .nil)) (.node (o220_4 P) (.node (o348_5 P) .nil .nil) (.node (o476_7 P) .nil .nil))) (.node (o124_3 P) (.node (o188_3 P) (.node (o316_5 P) (.node (o572_8 P) .nil .nil) .nil) (.node (o444_7 P) .nil .nil)) (.node (o252_5 P) (.node (o380_6 P) .nil .nil) (.node (o508_8 P) .nil .nil))))))) (.node (boot_o_6 P) (.node (boot_o_10 P) (.node (o18_2 P) (.node (o34_2 P) (.node (o66_2 P) (.node (o130_3 P) (.node (o258_5 P) (.node (o514_8 P) .nil .nil) .nil) (.node (o386_6 P) .nil .nil)) (.node (o194_3 P) (.node (o322_5 P) (.node (o578_8 P) .nil .nil) .nil) (.node (o450_7 P) .nil .nil))) (.node (o98_2 P) (.node (o162_3 P) (.node (o290_5 P) (.node (o546_8 P) .nil .nil) .nil) (.node (o418_6 P) .nil .nil)) (.node (o226_4 P) (.node (o354_5 P) .nil .nil) (.node (o482_8 P) .nil .nil)))) (.node (o50_2 P) (.node (o82_2 P) (.node (o146_3 P) (.node (o274_5 P) (.node (o530_8 P) .nil .nil) .nil) (.node (o402_6 P) .nil .nil)) (.node (o210_4 P) (.node (o338_5 P) .nil .nil) (.node (o466_7 P) .nil .nil))) (.node (o114_3 P) (.node (o178_3 P) (.node (o306_5 P) (.node (o562_8 P) .nil .nil) .nil) (.node (o434_6 P) .nil .nil)) (.node (o242_4 P) (.node (o370_6 P) .nil .nil) (.node (o498_8 P) .nil .nil))))) (.node (o26_2 P) (.node (o42_2 P) (.node (o74_2 P) (.node (o138_3 P) (.node (o266_5 P) (.node (o522_8 P) .nil .nil) .nil) (.node (o394_6 P) .nil .nil)) (.node (o202_3 P) (.node (o330_5 P) (.node (o586_8 P) .nil .nil) .nil) (.node (o458_7 P) .nil .nil))) (.node (o106_3 P) (.node (o170_3 P) (.node (o298_5 P) (.node (o554_8 P) .nil .nil) .nil) (.node (o426_6 P) .nil .nil)) (.node (o234_4 P) (.node (o362_5 P) .nil .nil) (.node (o490_8 P) .nil .nil)))) (.node (o58_2 P) (.node (o90_2 P) (.node (o154_3 P) (.node (o282_5 P) (.node (o538_8 P) .nil .nil) .nil) (.node (o410_6 P) .nil .nil)) (.node (o218_4 P) (.node (o346_5 P) .nil .nil) (.node (o474_7 P) .nil .nil))) (.node (o122_3 P) (.node (o186_3 P) (.node (o314_5 P) (.node (o570_8 P) .nil .nil) .nil) (.node (o442_6 P) .nil .nil)) (.node (o250_5 P) (.node (o378_6 P) .nil .nil) (.node (o506_8 P) .nil .nil)))))) (.node (o14_0 P) (.node (o22_2 P) (.node (o38_2 P) (.node (o70_2 P) (.node (o134_3 P) (.node (o262_5 P) (.node (o518_8 P) .nil .nil) .nil) (.node (o390_6 P) .nil .nil)) (.node (o198_3 P) (.node (o326_5 P) (.node (o582_8 P) .nil .nil) .nil) (.node (o454_7 P) .nil .nil))) (.node (o102_2 P) (.node (o166_3 P) (.node (o294_5 P) (.node (o550_8 P) .nil .nil) .nil) (.node (o422_6 P) .nil .nil)) (.node (o230_4 P) (.node (o358_5 P) .nil .nil) (.node (o486_8 P) .nil .nil)))) (.node (o54_2 P) (.node (o86_2 P) (.node (o150_3 P) (.node (o278_5 P) (.node (o534_8 P) .nil .nil) .nil) (.node (o406_6 P) .nil .nil)) (.node (o214_4 P) (.node (o342_5 P) .nil .nil) (.node (o470_7 P) .nil .nil))) (.node (o118_3 P) (.node (o182_3 P) (.node (o310_5 P) (.node (o566_8 P) .nil .nil) .nil) (.node (o438_6 P) .nil .nil)) (.node (o246_4 P) (.node (o374_6 P) .nil .nil) (.node (o502_8 P) .nil .nil))))) (.node (o30_2 P) (.node (o46_2 P) (.node (o78_2 P) (.node (o142_3 P) (.node (o270_5 P) (.node (o526_8 P) .nil .nil) .nil) (.node (o398_6 P) .nil .nil)) (.node (o206_4 P) (.node (o334_5 P) (.node (o590_8 P) .nil .nil) .nil) (.node (o462_7 P) .nil .nil))) (.node (o110_3 P) (.node (o174_3 P) (.node (o302_5 P) (.node (o558_8 P) .nil .nil) .nil) (.node (o430_6 P) .nil .nil)) (.node (o238_4 P) (.node (o366_5 P) .nil .nil) (.node (o494_8 P) .nil .nil)))) (.node (o62_2 P) (.node (o94_2 P) (.node (o158_3 P) (.node (o286_5 P) (.node (o542_8 P) .nil .nil) .nil) (.node (o414_6 P) .nil .nil)) (.node (o222_4 P) (.node (o350_5 P) .nil .nil) (.node (o478_7 P) .nil .nil))) (.node (o126_3 P) (.node (o190_3 P) (.node (o318_5 P) (.node (o574_8 P) .nil .nil) .nil) (.node (o446_7 P) .nil .nil)) (.node (o254_5 P) (.node (o382_6 P) .nil .nil) (.node (o510_8 P) .nil .nil)))))))))
noncomputable def lf7 : Life := (Life.mk [] [] [] 0 [] [] Bool.false #[] [] 0 Bool.false Bool.false Bool.false 0 [2000, 10, 10] Bool.false 0 Bool.true [] [] 0 Bool.false)
noncomputable def dr7 : Drawn := (Drawn.mk 0 0 0 0)
noncomputable def st7 (w : World) (os : OsState) : SharedT := ⟨tr7 w.params, 591, lf7, #[], dr7, 978, os⟩
noncomputable def gr7 : List Stmt := ((behindTheImports pg).drop 18).take 1
theorem seg7 : ∀ (w : World) (os : OsState), segRunT treeTable pg w 11 annE 1 655 (st6 w os) (piecesOf gr7 ev cE ⟨253, 0, 253, 8⟩ [topFrame qE]) = some (.next, st7 w os, cE, ⟨254, 0, 368, 38⟩) := by intro w os; kernel_rfl

noncomputable def o3_9 (P : Params) : Obj := (Obj.mk (Value.type "dict") Option.none (Data.dict #[(DictEntry.mk (PyData.keyHash P (Str.ofString "__name__")) (Value.str (Str.ofString "__name__") 165) (Value.str (Str.ofString "law_az0001_02") 1053)), (DictEntry.mk (PyData.keyHash P (Str.ofString "__doc__")) (Value.str (Str.ofString "__doc__") 166) Value.none), (DictEntry.mk (PyData.keyHash P (Str.ofString "__package__")) (Value.str (Str.ofString "__package__") 167) Value.none), (DictEntry.mk (PyData.keyHash P (Str.ofString "__loader__")) (Value.str (Str.ofString "__loader__") 168) (Value.builtin "__main__.__loader__#opaque")), (DictEntry.mk (PyData.keyHash P (Str.ofString "__spec__")) (Value.str (Str.ofString "__spec__") 169) Value.none), (DictEntry.mk (PyData.keyHash P (Str.ofString "__annotations__")) (Value.str (Str.ofString "__annotations__") 170) (Value.ref 6)), (DictEntry.mk (PyData.keyHash P (Str.ofString "__builtins__")) (Value.str (Str.ofString "__builtins__") 171) (Value.ref 4)), (DictEntry.mk (PyData.keyHash P (Str.ofString "__file__")) (Value.str (Str.ofString "__file__") 173) (Value.str (Str.ofString "/claim/cut.py") 172)), (DictEntry.mk (PyData.keyHash P (Str.ofString "__cached__")) (Value.str (Str.ofString "__cached__") 174) Value.none), (DictEntry.mk (PyData.keyHash P (Str.ofString "_wall")) (Value.str (Str.ofString "_wall") 193) (Value.ref 21)), (DictEntry.mk (PyData.keyHash P (Str.ofString "MissingFile")) (Value.str (Str.ofString "MissingFile") 215) (Value.ref 31)), (DictEntry.mk (PyData.keyHash P (Str.ofString "get_md5")) (Value.str (Str.ofString "get_md5") 222) (Value.ref 41)), (DictEntry.mk (PyData.keyHash P (Str.ofString "JsonDB")) (Value.str (Str.ofString "JsonDB") 300) (Value.ref 100)), (DictEntry.mk (PyData.keyHash P (Str.ofString "FileChangedChecker")) (Value.str (Str.ofString "FileChangedChecker") 366) (Value.ref 149)), (DictEntry.mk (PyData.keyHash P (Str.ofString "MD5Checker")) (Value.str (Str.ofString "MD5Checker") 409) (Value.ref 177)), (DictEntry.mk (PyData.keyHash P (Str.ofString "TimestampChecker")) (Value.str (Str.ofString "TimestampChecker") 446) (Value.ref 203)), (DictEntry.mk (PyData.keyHash P (Str.ofString "DependencyStatus")) (Value.str (Str.ofString "DependencyStatus") 505) (Value.ref 244)), (DictEntry.mk (PyData.keyHash P (Str.ofString "Dependency")) (Value.str (Str.ofString "Dependency") 653) (Value.ref 363)), (DictEntry.mk (PyData.keyHash P (Str.ofString "UptodateCalculator")) (Value.str (Str.ofString "UptodateCalculator") 700) (Value.ref 398)), (DictEntry.mk (PyData.keyHash P (Str.ofString "InvalidTask")) (Value.str (Str.ofString "InvalidTask") 722) (Value.ref 412)), (DictEntry.mk (PyData.keyHash P (Str.ofString "CatchedException")) (Value.str (Str.ofString "CatchedException") 760) (Value.ref 439)), (DictEntry.mk (PyData.keyHash P (Str.ofString "BaseFail")) (Value.str (Str.ofString "BaseFail") 778) (Value.ref 453)), (DictEntry.mk (PyData.keyHash P (Str.ofString "TaskFailed")) (Value.str (Str.ofString "TaskFailed") 796) (Value.ref 465)), (DictEntry.mk (PyData.keyHash P (Str.ofString "TaskError")) (Value.str (Str.ofString "TaskError") 814) (Value.ref 477)), (DictEntry.mk (PyData.keyHash P (Str.ofString "Task")) (Value.str (Str.ofString "Task") 977) (Value.ref 586)), (DictEntry.mk (PyData.keyHash P (Str.ofString "result_dep")) (Value.str (Str.ofString "result_dep") 1052) (Value.ref 643)), (DictEntry.mk (PyData.keyHash P (Str.ofString "_law_files")) (Value.str (Str.ofString "_law_files") 1060) (Value.ref 652)), (DictEntry.mk (PyData.keyHash P (Str.ofString "_law_held")) (Value.str (Str.ofString "_law_held") 1066) (Value.ref 659)), (DictEntry.mk (PyData.keyHash P (Str.ofString "_law_tasks")) (Value.str (Str.ofString "_law_tasks") 1077) (Value.ref 669)), (DictEntry.mk (PyData.keyHash P (Str.ofString "_law_asked")) (Value.str (Str.ofString "_law_asked") 1093) (Value.ref 676)), (DictEntry.mk (PyData.keyHash P (Str.ofString "_law_due")) (Value.str (Str.ofString "_law_due") 1099) (Value.ref 681)), (DictEntry.mk (PyData.keyHash P (Str.ofString "_law_step")) (Value.str (Str.ofString "_law_step") 1110) (Value.ref 688)), (DictEntry.mk (PyData.keyHash P (Str.ofString "law")) (Value.str (Str.ofString "law") 1116) (Value.ref 693))] 33) #[])
noncomputable def o12_9 (P : Params) : Obj := (Obj.mk Value.none Option.none (Data.fields #[(Value.int 1 0), (Value.int 0 0), (Value.ref 20), (Value.int 5 0), (Value.int 0 0), (Value.ref 27), (Value.int 7 0), (Value.int 0 0), (Value.ref 40), (Value.int 9 0), (Value.int 0 0), (Value.ref 47), (Value.int 35 0), (Value.int 0 0), (Value.ref 110), (Value.int 54 0), (Value.int 0 0), (Value.ref 159), (Value.int 72 0), (Value.int 0 0), (Value.ref 185), (Value.int 80 0), (Value.int 0 0), (Value.ref 211), (Value.int 104 0), (Value.int 0 0), (Value.ref 254), (Value.int 224 0), (Value.int 0 0), (Value.ref 373), (Value.int 237 0), (Value.int 0 0), (Value.ref 408), (Value.int 239 0), (Value.int 0 0), (Value.ref 421), (Value.int 247 0), (Value.int 0 0), (Value.ref 449), (Value.int 249 0), (Value.int 0 0), (Value.ref 461), (Value.int 251 0), (Value.int 0 0), (Value.ref 473), (Value.int 254 0), (Value.int 0 0), (Value.ref 485), (Value.int 369 0), (Value.int 0 0), (Value.ref 596), (Value.int 409 0), (Value.int 0 0), (Value.ref 651), (Value.int 411 0), (Value.int 0 0), (Value.ref 658), (Value.int 414 0), (Value.int 0 0), (Value.ref 675), (Value.int 420 0), (Value.int 0 0), (Value.ref 680), (Value.int 428 0), (Value.int 0 0), (Value.ref 687), (Value.int 435 0), (Value.int 0 0), (Value.ref 692)]) #[])
noncomputable def o398_9 (P : Params) : Obj := (Obj.mk (Value.type "type") Option.none (Data.cls (ClassData.mk (Str.ofString "UptodateCalculator") [(Value.type "object")] [(Value.ref 398), (Value.type "object")] 397 (Str.ofString "UptodateCalculator") Bool.true [] [(Value.ref 643)] Bool.false Option.none Bool.false)) #[Option.none, Option.none, (Option.some (Value.str (Str.ofString "UptodateCalculator") 654)), (Option.some (Value.str (Str.ofString "UptodateCalculator") 662)), (Option.some (Value.builtin "object.__new__")), (Option.some (Value.bool Bool.true))])
noncomputable def o591_9 (P : Params) : Obj := (Obj.mk (Value.type "tuple") Option.none (Data.seq #[(Value.ref 398)] 0) #[])
noncomputable def o592_9 (P : Params) : Obj := (Obj.mk (Value.type "builtin_function_or_method") Option.none (Data.fields #[(Value.builtin "type.__prepare__"), (Value.type "type")]) #[])
noncomputable def o593_9 (P : Params) : Obj := (Obj.mk (Value.type "dict") Option.none (Data.dict #[(DictEntry.mk (PyData.keyHash P (Str.ofString "__module__")) (Value.str (Str.ofString "__module__") 985) (Value.str (Str.ofString "doit.task") 815)), (DictEntry.mk (PyData.keyHash P (Str.ofString "__qualname__")) (Value.str (Str.ofString "__qualname__") 987) (Value.str (Str.ofString "result_dep") 986)), (DictEntry.mk (PyData.keyHash P (Str.ofString "__firstlineno__")) (Value.str (Str.ofString "__firstlineno__") 989) (Value.int 369 988)), (DictEntry.mk (PyData.keyHash P (Str.ofString "__init__")) (Value.str (Str.ofString "__init__") 998) (Value.ref 605)), (DictEntry.mk (PyData.keyHash P (Str.ofString "configure_task")) (Value.str (Str.ofString "configure_task") 1006) (Value.ref 612)), (DictEntry.mk (PyData.keyHash P (Str.ofString "_result_single")) (Value.str (Str.ofString "_result_single") 1013) (Value.ref 619)), (DictEntry.mk (PyData.keyHash P (Str.ofString "_result_group")) (Value.str (Str.ofString "_result_group") 1024) (Value.ref 626)), (DictEntry.mk (PyData.keyHash P (Str.ofString "_get_dep_result")) (Value.str (Str.ofString "_get_dep_result") 1033) (Value.ref 633)), (DictEntry.mk (PyData.keyHash P (Str.ofString "tell")) (Value.str (Str.ofString "tell") 1045) (Value.ref 640)), (DictEntry.mk (PyData.keyHash P (Str.ofString "__static_attributes__")) (Value.str (Str.ofString "__static_attributes__") 1049) (Value.ref 641))] 10) #[])
noncomputable def o594_9 (P : Params) : Obj := (Obj.mk (Value.type "tuple") Option.none (Data.seq #[] 0) #[])
noncomputable def o595_9 (P : Params) : Obj := (Obj.mk Value.none Option.none (Data.fields #[(Value.int 371 0), (Value.int 4 0), (Value.ref 604), (Value.int 376 0), (Value.int 4 0), (Value.ref 611), (Value.int 382 0), (Value.int 4 0), (Value.ref 618), (Value.int 385 0), (Value.int 4 0), (Value.ref 625), (Value.int 393 0), (Value.int 4 0), (Value.ref 632), (Value.int 400 0), (Value.int 4 0), (Value.ref 639)]) #[])
noncomputable def o596_9 (P : Params) : Obj := (Obj.mk (Value.type "code") Option.none (Data.fields #[(Value.str (Str.ofString "result_dep") 980), (Value.str (Str.ofString "result_dep") 981), (Value.str (Str.ofString "/claim/cut.py") 982), (Value.int 369 0), (Value.int 0 0), (Value.int 0 0), (Value.int 0 0), (Value.int 0 0), (Value.ref 594), (Value.bool Bool.false), (Value.int 181 0), (Value.ref 595), Value.none, Value.none, Value.none, Value.none, (Value.int 983 0), (Value.int 369 0), (Value.str (Str.ofString "/claim/cut.py") 984)]) #[])
noncomputable def o597_9 (P : Params) : Obj := (Obj.mk (Value.type "frame") Option.none Data.plain #[(Option.some (Value.ref 596)), (Option.some (Value.ref 3)), (Option.some (Value.ref 593)), Option.none, (Option.some (Value.str (Str.ofString "doit.task") 815)), Option.none, (Option.some (Value.ref 0))])
noncomputable def o598_9 (P : Params) : Obj := (Obj.mk (Value.type "tuple") Option.none (Data.seq #[(Value.bool Bool.false)] 0) #[])
noncomputable def o599_9 (P : Params) : Obj := (Obj.mk (Value.type "tuple") Option.none (Data.seq #[] 0) #[])
noncomputable def o600_9 (P : Params) : Obj := (Obj.mk Value.none Option.none (Data.fields #[]) #[])
noncomputable def o601_9 (P : Params) : Obj := (Obj.mk (Value.type "tuple") Option.none (Data.seq #[(Value.str (Str.ofString "self") 993), (Value.str (Str.ofString "dep_task_name") 994), (Value.str (Str.ofString "setup_dep") 995)] 0) #[])
noncomputable def o602_9 (P : Params) : Obj := (Obj.mk (Value.type "tuple") Option.none (Data.seq #[] 0) #[])
noncomputable def o603_9 (P : Params) : Obj := (Obj.mk Value.none Option.none (Data.func (FuncData.mk (Str.ofString "__init__") (Str.ofString "result_dep.__init__") (fa [19, 0]) (fb [19, 0]) (fs [19, 0]) 0 [] Value.none Value.none Value.none Value.none Option.none Value.none Value.none 0)) #[])
noncomputable def o604_9 (P : Params) : Obj := (Obj.mk (Value.type "code") Option.none (Data.fields #[(Value.str (Str.ofString "__init__") 990), (Value.str (Str.ofString "result_dep.__init__") 991), (Value.str (Str.ofString "/claim/cut.py") 992), (Value.int 371 0), (Value.int 3 0), (Value.int 0 0), (Value.int 0 0), (Value.int 3 0), (Value.ref 599), (Value.bool Bool.true), (Value.int 181 0), (Value.ref 600), Value.none, (Value.ref 601), (Value.ref 602), (Value.ref 603), (Value.int 996 0), (Value.int 371 0), (Value.str (Str.ofString "/claim/cut.py") 997)]) #[])
noncomputable def o605_9 (P : Params) : Obj := (Obj.mk (Value.type "function") Option.none (Data.func (FuncData.mk (Str.ofString "__init__") (Str.ofString "result_dep.__init__") (fa [19, 0]) (fb [19, 0]) (fs [19, 0]) 3 [] (Value.ref 598) Value.none Value.none (Value.str (Str.ofString "doit.task") 815) Option.none (Value.ref 604) Value.none 0)) #[])
noncomputable def o606_9 (P : Params) : Obj := (Obj.mk (Value.type "tuple") Option.none (Data.seq #[] 0) #[])
noncomputable def o607_9 (P : Params) : Obj := (Obj.mk Value.none Option.none (Data.fields #[]) #[])
noncomputable def o608_9 (P : Params) : Obj := (Obj.mk (Value.type "tuple") Option.none (Data.seq #[(Value.str (Str.ofString "self") 1002), (Value.str (Str.ofString "task") 1003)] 0) #[])
noncomputable def o609_9 (P : Params) : Obj := (Obj.mk (Value.type "tuple") Option.none (Data.seq #[] 0) #[])
noncomputable def o610_9 (P : Params) : Obj := (Obj.mk Value.none Option.none (Data.func (FuncData.mk (Str.ofString "configure_task") (Str.ofString "result_dep.configure_task") (fa [19, 1]) (fb [19, 1]) (fs [19, 1]) 0 [] Value.none Value.none Value.none Value.none Option.none Value.none Value.none 0)) #[])
noncomputable def o611_9 (P : Params) : Obj := (Obj.mk (Value.type "code") Option.none (Data.fields #[(Value.str (Str.ofString "configure_task") 999), (Value.str (Str.ofString "result_dep.configure_task") 1000), (Value.str (Str.ofString "/claim/cut.py") 1001), (Value.int 376 0), (Value.int 2 0), (Value.int 0 0), (Value.int 0 0), (Value.int 3 0), (Value.ref 606), (Value.bool Bool.true), (Value.int 181 0), (Value.ref 607), Value.none, (Value.ref 608), (Value.ref 609), (Value.ref 610), (Value.int 1004 0), (Value.int 376 0), (Value.str (Str.ofString "/claim/cut.py") 1005)]) #[])
noncomputable def o612_9 (P : Params) : Obj := (Obj.mk (Value.type "function") Option.none (Data.func (FuncData.mk (Str.ofString "configure_task") (Str.ofString "result_dep.configure_task") (fa [19, 1]) (fb [19, 1]) (fs [19, 1]) 3 [] Value.none Value.none Value.none (Value.str (Str.ofString "doit.task") 815) Option.none (Value.ref 611) Value.none 0)) #[])
noncomputable def o613_9 (P : Params) : Obj := (Obj.mk (Value.type "tuple") Option.none (Data.seq #[] 0) #[])
noncomputable def o614_9 (P : Params) : Obj := (Obj.mk Value.none Option.none (Data.fields #[]) #[])
noncomputable def o615_9 (P : Params) : Obj := (Obj.mk (Value.type "tuple") Option.none (Data.seq #[(Value.str (Str.ofString "self") 1010)] 0) #[])
noncomputable def o616_9 (P : Params) : Obj := (Obj.mk (Value.type "tuple") Option.none (Data.seq #[] 0) #[])
noncomputable def o617_9 (P : Params) : Obj := (Obj.mk Value.none Option.none (Data.func (FuncData.mk (Str.ofString "_result_single") (Str.ofString "result_dep._result_single") (fa [19, 2]) (fb [19, 2]) (fs [4, 1]) 0 [] Value.none Value.none Value.none Value.none Option.none Value.none Value.none 0)) #[])
noncomputable def o618_9 (P : Params) : Obj := (Obj.mk (Value.type "code") Option.none (Data.fields #[(Value.str (Str.ofString "_result_single") 1007), (Value.str (Str.ofString "result_dep._result_single") 1008), (Value.str (Str.ofString "/claim/cut.py") 1009), (Value.int 382 0), (Value.int 1 0), (Value.int 0 0), (Value.int 0 0), (Value.int 3 0), (Value.ref 613), (Value.bool Bool.true), (Value.int 181 0), (Value.ref 614), Value.none, (Value.ref 615), (Value.ref 616), (Value.ref 617), (Value.int 1011 0), (Value.int 382 0), (Value.str (Str.ofString "/claim/cut.py") 1012)]) #[])
noncomputable def o619_9 (P : Params) : Obj := (Obj.mk (Value.type "function") Option.none (Data.func (FuncData.mk (Str.ofString "_result_single") (Str.ofString "result_dep._result_single") (fa [19, 2]) (fb [19, 2]) (fs [4, 1]) 3 [] Value.none Value.none Value.none (Value.str (Str.ofString "doit.task") 815) Option.none (Value.ref 618) Value.none 0)) #[])
noncomputable def o620_9 (P : Params) : Obj := (Obj.mk (Value.type "tuple") Option.none (Data.seq #[] 0) #[])
noncomputable def o621_9 (P : Params) : Obj := (Obj.mk Value.none Option.none (Data.fields #[]) #[])
noncomputable def o622_9 (P : Params) : Obj := (Obj.mk (Value.type "tuple") Option.none (Data.seq #[(Value.str (Str.ofString "self") 1017), (Value.str (Str.ofString "dep_task") 1018), (Value.str (Str.ofString "prefix") 1019), (Value.str (Str.ofString "sub_tasks") 1020), (Value.str (Str.ofString "sub") 1021)] 0) #[])
noncomputable def o623_9 (P : Params) : Obj := (Obj.mk (Value.type "tuple") Option.none (Data.seq #[] 0) #[])
noncomputable def o624_9 (P : Params) : Obj := (Obj.mk Value.none Option.none (Data.func (FuncData.mk (Str.ofString "_result_group") (Str.ofString "result_dep._result_group") (fa [19, 3]) (fb [19, 3]) (fs [19, 3]) 0 [] Value.none Value.none Value.none Value.none Option.none Value.none Value.none 0)) #[])
noncomputable def o625_9 (P : Params) : Obj := (Obj.mk (Value.type "code") Option.none (Data.fields #[(Value.str (Str.ofString "_result_group") 1014), (Value.str (Str.ofString "result_dep._result_group") 1015), (Value.str (Str.ofString "/claim/cut.py") 1016), (Value.int 385 0), (Value.int 2 0), (Value.int 0 0), (Value.int 0 0), (Value.int 3 0), (Value.ref 620), (Value.bool Bool.true), (Value.int 181 0), (Value.ref 621), Value.none, (Value.ref 622), (Value.ref 623), (Value.ref 624), (Value.int 1022 0), (Value.int 385 0), (Value.str (Str.ofString "/claim/cut.py") 1023)]) #[])
noncomputable def o626_9 (P : Params) : Obj := (Obj.mk (Value.type "function") Option.none (Data.func (FuncData.mk (Str.ofString "_result_group") (Str.ofString "result_dep._result_group") (fa [19, 3]) (fb [19, 3]) (fs [19, 3]) 3 [] Value.none Value.none Value.none (Value.str (Str.ofString "doit.task") 815) Option.none (Value.ref 625) Value.none 0)) #[])
noncomputable def o627_9 (P : Params) : Obj := (Obj.mk (Value.type "tuple") Option.none (Data.seq #[] 0) #[])
noncomputable def o628_9 (P : Params) : Obj := (Obj.mk Value.none Option.none (Data.fields #[]) #[])
noncomputable def o629_9 (P : Params) : Obj := (Obj.mk (Value.type "tuple") Option.none (Data.seq #[(Value.str (Str.ofString "self") 1028), (Value.str (Str.ofString "dep_task") 1029), (Value.str (Str.ofString "dep_result") 1030)] 0) #[])
noncomputable def o630_9 (P : Params) : Obj := (Obj.mk (Value.type "tuple") Option.none (Data.seq #[] 0) #[])
noncomputable def o631_9 (P : Params) : Obj := (Obj.mk Value.none Option.none (Data.func (FuncData.mk (Str.ofString "_get_dep_result") (Str.ofString "result_dep._get_dep_result") (fa [19, 4]) (fb [19, 4]) (fs [19, 4]) 0 [] Value.none Value.none Value.none Value.none Option.none Value.none Value.none 0)) #[])
noncomputable def o632_9 (P : Params) : Obj := (Obj.mk (Value.type "code") Option.none (Data.fields #[(Value.str (Str.ofString "_get_dep_result") 1025), (Value.str (Str.ofString "result_dep._get_dep_result") 1026), (Value.str (Str.ofString "/claim/cut.py") 1027), (Value.int 393 0), (Value.int 2 0), (Value.int 0 0), (Value.int 0 0), (Value.int 3 0), (Value.ref 627), (Value.bool Bool.true), (Value.int 181 0), (Value.ref 628), Value.none, (Value.ref 629), (Value.ref 630), (Value.ref 631), (Value.int 1031 0), (Value.int 393 0), (Value.str (Str.ofString "/claim/cut.py") 1032)]) #[])
noncomputable def o633_9 (P : Params) : Obj := (Obj.mk (Value.type "function") Option.none (Data.func (FuncData.mk (Str.ofString "_get_dep_result") (Str.ofString "result_dep._get_dep_result") (fa [19, 4]) (fb [19, 4]) (fs [19, 4]) 3 [] Value.none Value.none Value.none (Value.str (Str.ofString "doit.task") 815) Option.none (Value.ref 632) Value.none 0)) #[])
noncomputable def o634_9 (P : Params) : Obj := (Obj.mk (Value.type "tuple") Option.none (Data.seq #[] 0) #[])
noncomputable def o635_9 (P : Params) : Obj := (Obj.mk Value.none Option.none (Data.fields #[]) #[])
noncomputable def o636_9 (P : Params) : Obj := (Obj.mk (Value.type "tuple") Option.none (Data.seq #[(Value.str (Str.ofString "self") 1037), (Value.str (Str.ofString "task") 1038), (Value.str (Str.ofString "values") 1039), (Value.str (Str.ofString "dep_task") 1040), (Value.str (Str.ofString "dep_result") 1041), (Value.str (Str.ofString "last_success") 1042)] 0) #[])
noncomputable def o637_9 (P : Params) : Obj := (Obj.mk (Value.type "tuple") Option.none (Data.seq #[] 0) #[])
noncomputable def o638_9 (P : Params) : Obj := (Obj.mk Value.none Option.none (Data.func (FuncData.mk (Str.ofString "tell") (Str.ofString "result_dep.tell") (fa [19, 5]) (fb [19, 5]) (fs [19, 5]) 0 [] Value.none Value.none Value.none Value.none Option.none Value.none Value.none 0)) #[])
noncomputable def o639_9 (P : Params) : Obj := (Obj.mk (Value.type "code") Option.none (Data.fields #[(Value.str (Str.ofString "tell") 1034), (Value.str (Str.ofString "result_dep.tell") 1035), (Value.str (Str.ofString "/claim/cut.py") 1036), (Value.int 400 0), (Value.int 3 0), (Value.int 0 0), (Value.int 0 0), (Value.int 3 0), (Value.ref 634), (Value.bool Bool.true), (Value.int 181 0), (Value.ref 635), Value.none, (Value.ref 636), (Value.ref 637), (Value.ref 638), (Value.int 1043 0), (Value.int 400 0), (Value.str (Str.ofString "/claim/cut.py") 1044)]) #[])
noncomputable def o640_9 (P : Params) : Obj := (Obj.mk (Value.type "function") Option.none (Data.func (FuncData.mk (Str.ofString "tell") (Str.ofString "result_dep.tell") (fa [19, 5]) (fb [19, 5]) (fs [19, 5]) 3 [] Value.none Value.none Value.none (Value.str (Str.ofString "doit.task") 815) Option.none (Value.ref 639) Value.none 0)) #[])
noncomputable def o641_9 (P : Params) : Obj := (Obj.mk (Value.type "tuple") Option.none (Data.seq #[(Value.str (Str.ofString "dep_name") 1046), (Value.str (Str.ofString "result_name") 1047), (Value.str (Str.ofString "setup_dep") 1048)] 0) #[])
noncomputable def o642_9 (P : Params) : Obj := (Obj.mk (Value.type "dict") Option.none (Data.dict #[(DictEntry.mk (PyData.keyHash P (Str.ofString "__module__")) (Value.str (Str.ofString "__module__") 985) (Value.str (Str.ofString "doit.task") 815)), (DictEntry.mk (PyData.keyHash P (Str.ofString "__firstlineno__")) (Value.str (Str.ofString "__firstlineno__") 989) (Value.int 369 988)), (DictEntry.mk (PyData.keyHash P (Str.ofString "__init__")) (Value.str (Str.ofString "__init__") 998) (Value.ref 605)), (DictEntry.mk (PyData.keyHash P (Str.ofString "configure_task")) (Value.str (Str.ofString "configure_task") 1006) (Value.ref 612)), (DictEntry.mk (PyData.keyHash P (Str.ofString "_result_single")) (Value.str (Str.ofString "_result_single") 1013) (Value.ref 619)), (DictEntry.mk (PyData.keyHash P (Str.ofString "_result_group")) (Value.str (Str.ofString "_result_group") 1024) (Value.ref 626)), (DictEntry.mk (PyData.keyHash P (Str.ofString "_get_dep_result")) (Value.str (Str.ofString "_get_dep_result") 1033) (Value.ref 633)), (DictEntry.mk (PyData.keyHash P (Str.ofString "tell")) (Value.str (Str.ofString "tell") 1045) (Value.ref 640)), (DictEntry.mk (PyData.keyHash P (Str.ofString "__static_attributes__")) (Value.str (Str.ofString "__static_attributes__") 1049) (Value.ref 641)), (DictEntry.mk (PyData.keyHash P (Str.ofString "__doc__")) (Value.str (Str.ofString "__doc__") 1050) Value.none)] 2) #[])
noncomputable def o643_9 (P : Params) : Obj := (Obj.mk (Value.type "type") Option.none (Data.cls (ClassData.mk (Str.ofString "result_dep") [(Value.ref 398)] [(Value.ref 643), (Value.ref 398), (Value.type "object")] 642 (Str.ofString "result_dep") Bool.true [] [] Bool.false Option.none Bool.false)) #[(Option.some (Value.ref 591)), Option.none, (Option.some (Value.str (Str.ofString "result_dep") 978)), (Option.some (Value.str (Str.ofString "result_dep") 986)), (Option.some (Value.builtin "object.__new__")), (Option.some (Value.bool Bool.true))])
noncomputable def o644_9 (P : Params) : Obj := (Obj.mk (Value.type "super") Option.none (Data.fields #[(Value.ref 643), (Value.ref 643), (Value.ref 643)]) #[])
noncomputable def o645_9 (P : Params) : Obj := (Obj.mk (Value.type "builtin_function_or_method") Option.none (Data.fields #[(Value.builtin "object.__init_subclass__"), (Value.ref 643)]) #[])
noncomputable def o646_9 (P : Params) : Obj := (Obj.mk (Value.type "tuple") Option.none (Data.seq #[] 0) #[])
noncomputable def o647_9 (P : Params) : Obj := (Obj.mk Value.none Option.none (Data.fields #[]) #[])
noncomputable def o648_9 (P : Params) : Obj := (Obj.mk (Value.type "tuple") Option.none (Data.seq #[] 0) #[])
noncomputable def o649_9 (P : Params) : Obj := (Obj.mk (Value.type "tuple") Option.none (Data.seq #[] 0) #[])
noncomputable def o650_9 (P : Params) : Obj := (Obj.mk Value.none Option.none (Data.func (FuncData.mk (Str.ofString "_law_files") (Str.ofString "_law_files") (fa [21]) (fb [21]) (fs [21]) 0 [] Value.none Value.none Value.none Value.none Option.none Value.none Value.none 0)) #[])
noncomputable def o651_9 (P : Params) : Obj := (Obj.mk (Value.type "code") Option.none (Data.fields #[(Value.str (Str.ofString "_law_files") 1055), (Value.str (Str.ofString "_law_files") 1056), (Value.str (Str.ofString "/claim/cut.py") 1057), (Value.int 409 0), (Value.int 0 0), (Value.int 0 0), (Value.int 0 0), (Value.int 3 0), (Value.ref 646), (Value.bool Bool.true), (Value.int 181 0), (Value.ref 647), Value.none, (Value.ref 648), (Value.ref 649), (Value.ref 650), (Value.int 1058 0), (Value.int 409 0), (Value.str (Str.ofString "/claim/cut.py") 1059)]) #[])
noncomputable def o652_9 (P : Params) : Obj := (Obj.mk (Value.type "function") Option.none (Data.func (FuncData.mk (Str.ofString "_law_files") (Str.ofString "_law_files") (fa [21]) (fb [21]) (fs [21]) 3 [] Value.none Value.none Value.none (Value.str (Str.ofString "law_az0001_02") 1053) Option.none (Value.ref 651) Value.none 0)) #[])
noncomputable def o653_9 (P : Params) : Obj := (Obj.mk (Value.type "tuple") Option.none (Data.seq #[] 0) #[])
noncomputable def o654_9 (P : Params) : Obj := (Obj.mk Value.none Option.none (Data.fields #[]) #[])
noncomputable def o655_9 (P : Params) : Obj := (Obj.mk (Value.type "tuple") Option.none (Data.seq #[] 0) #[])
noncomputable def o656_9 (P : Params) : Obj := (Obj.mk (Value.type "tuple") Option.none (Data.seq #[] 0) #[])
noncomputable def o657_9 (P : Params) : Obj := (Obj.mk Value.none Option.none (Data.func (FuncData.mk (Str.ofString "_law_held") (Str.ofString "_law_held") (fa [21]) (fb [22]) (fs [21]) 0 [] Value.none Value.none Value.none Value.none Option.none Value.none Value.none 0)) #[])
noncomputable def o658_9 (P : Params) : Obj := (Obj.mk (Value.type "code") Option.none (Data.fields #[(Value.str (Str.ofString "_law_held") 1061), (Value.str (Str.ofString "_law_held") 1062), (Value.str (Str.ofString "/claim/cut.py") 1063), (Value.int 411 0), (Value.int 0 0), (Value.int 0 0), (Value.int 0 0), (Value.int 3 0), (Value.ref 653), (Value.bool Bool.true), (Value.int 181 0), (Value.ref 654), Value.none, (Value.ref 655), (Value.ref 656), (Value.ref 657), (Value.int 1064 0), (Value.int 411 0), (Value.str (Str.ofString "/claim/cut.py") 1065)]) #[])
noncomputable def o659_9 (P : Params) : Obj := (Obj.mk (Value.type "function") Option.none (Data.func (FuncData.mk (Str.ofString "_law_held") (Str.ofString "_law_held") (fa [21]) (fb [22]) (fs [21]) 3 [] Value.none Value.none Value.none (Value.str (Str.ofString "law_az0001_02") 1053) Option.none (Value.ref 658) Value.none 0)) #[])
noncomputable def o660_9 (P : Params) : Obj := (Obj.mk (Value.type "list") Option.none (Data.seq #[(Value.str (Str.ofString "f1") 1068), (Value.str (Str.ofString "f2") 1069)] 0) #[])
noncomputable def o661_9 (P : Params) : Obj := (Obj.mk (Value.type "list") Option.none (Data.seq #[] 0) #[])
noncomputable def o662_9 (P : Params) : Obj := (Obj.mk (Value.type "tuple") Option.none (Data.seq #[(Value.str (Str.ofString "one") 1067), (Value.ref 660), (Value.ref 661)] 0) #[])
noncomputable def o663_9 (P : Params) : Obj := (Obj.mk (Value.type "list") Option.none (Data.seq #[(Value.str (Str.ofString "f2") 1071), (Value.str (Str.ofString "f3") 1072), (Value.str (Str.ofString "f4") 1073)] 0) #[])
noncomputable def o664_9 (P : Params) : Obj := (Obj.mk (Value.type "list") Option.none (Data.seq #[(Value.str (Str.ofString "out") 1074)] 0) #[])
noncomputable def o665_9 (P : Params) : Obj := (Obj.mk (Value.type "tuple") Option.none (Data.seq #[(Value.str (Str.ofString "two") 1070), (Value.ref 663), (Value.ref 664)] 0) #[])
noncomputable def o666_9 (P : Params) : Obj := (Obj.mk (Value.type "list") Option.none (Data.seq #[(Value.str (Str.ofString "f4") 1076)] 0) #[])
noncomputable def o667_9 (P : Params) : Obj := (Obj.mk (Value.type "list") Option.none (Data.seq #[] 0) #[])
noncomputable def o668_9 (P : Params) : Obj := (Obj.mk (Value.type "tuple") Option.none (Data.seq #[(Value.str (Str.ofString "three") 1075), (Value.ref 666), (Value.ref 667)] 0) #[])
noncomputable def o669_9 (P : Params) : Obj := (Obj.mk (Value.type "list") Option.none (Data.seq #[(Value.ref 662), (Value.ref 665), (Value.ref 668)] 0) #[])
noncomputable def o670_9 (P : Params) : Obj := (Obj.mk (Value.type "tuple") Option.none (Data.seq #[] 0) #[])
noncomputable def o671_9 (P : Params) : Obj := (Obj.mk Value.none Option.none (Data.fields #[]) #[])
noncomputable def o672_9 (P : Params) : Obj := (Obj.mk (Value.type "tuple") Option.none (Data.seq #[(Value.str (Str.ofString "db") 1081), (Value.str (Str.ofString "world") 1082), (Value.str (Str.ofString "which") 1083), (Value.str (Str.ofString "row") 1084), (Value.str (Str.ofString "name") 1085), (Value.str (Str.ofString "deps") 1086), (Value.str (Str.ofString "targets") 1087), (Value.str (Str.ofString "checker") 1088), (Value.str (Str.ofString "manager") 1089), (Value.str (Str.ofString "task") 1090)] 0) #[])
noncomputable def o673_9 (P : Params) : Obj := (Obj.mk (Value.type "tuple") Option.none (Data.seq #[] 0) #[])
noncomputable def o674_9 (P : Params) : Obj := (Obj.mk Value.none Option.none (Data.func (FuncData.mk (Str.ofString "_law_asked") (Str.ofString "_law_asked") (fa [24]) (fb [24]) (fs [24]) 0 [] Value.none Value.none Value.none Value.none Option.none Value.none Value.none 0)) #[])
noncomputable def o675_9 (P : Params) : Obj := (Obj.mk (Value.type "code") Option.none (Data.fields #[(Value.str (Str.ofString "_law_asked") 1078), (Value.str (Str.ofString "_law_asked") 1079), (Value.str (Str.ofString "/claim/cut.py") 1080), (Value.int 414 0), (Value.int 4 0), (Value.int 0 0), (Value.int 0 0), (Value.int 3 0), (Value.ref 670), (Value.bool Bool.true), (Value.int 181 0), (Value.ref 671), Value.none, (Value.ref 672), (Value.ref 673), (Value.ref 674), (Value.int 1091 0), (Value.int 414 0), (Value.str (Str.ofString "/claim/cut.py") 1092)]) #[])
noncomputable def o676_9 (P : Params) : Obj := (Obj.mk (Value.type "function") Option.none (Data.func (FuncData.mk (Str.ofString "_law_asked") (Str.ofString "_law_asked") (fa [24]) (fb [24]) (fs [24]) 3 [] Value.none Value.none Value.none (Value.str (Str.ofString "law_az0001_02") 1053) Option.none (Value.ref 675) Value.none 0)) #[])
noncomputable def o677_9 (P : Params) : Obj := (Obj.mk (Value.type "tuple") Option.none (Data.seq #[] 0) #[])
noncomputable def o678_9 (P : Params) : Obj := (Obj.mk Value.none Option.none (Data.fields #[]) #[])
noncomputable def o679_9 (P : Params) : Obj := (Obj.mk Value.none Option.none (Data.func (FuncData.mk (Str.ofString "_law_due") (Str.ofString "_law_due") (fa [25]) (fb [25]) (fs [25]) 0 [] Value.none Value.none Value.none Value.none Option.none Value.none Value.none 0)) #[])
noncomputable def o680_9 (P : Params) : Obj := (Obj.mk (Value.type "code") Option.none (Data.fields #[(Value.str (Str.ofString "_law_due") 1094), (Value.str (Str.ofString "_law_due") 1095), (Value.str (Str.ofString "/claim/cut.py") 1096), (Value.int 420 0), (Value.int 4 0), (Value.int 0 0), (Value.int 0 0), (Value.int 3 0), (Value.ref 677), (Value.bool Bool.true), (Value.int 181 0), (Value.ref 678), Value.none, Value.none, Value.none, (Value.ref 679), (Value.int 1097 0), (Value.int 420 0), (Value.str (Str.ofString "/claim/cut.py") 1098)]) #[])
noncomputable def o681_9 (P : Params) : Obj := (Obj.mk (Value.type "function") Option.none (Data.func (FuncData.mk (Str.ofString "_law_due") (Str.ofString "_law_due") (fa [25]) (fb [25]) (fs [25]) 3 [] Value.none Value.none Value.none (Value.str (Str.ofString "law_az0001_02") 1053) Option.none (Value.ref 680) Value.none 0)) #[])
noncomputable def o682_9 (P : Params) : Obj := (Obj.mk (Value.type "tuple") Option.none (Data.seq #[] 0) #[])
noncomputable def o683_9 (P : Params) : Obj := (Obj.mk Value.none Option.none (Data.fields #[]) #[])
noncomputable def o684_9 (P : Params) : Obj := (Obj.mk (Value.type "tuple") Option.none (Data.seq #[(Value.str (Str.ofString "world") 1103), (Value.str (Str.ofString "clock") 1104), (Value.str (Str.ofString "kind") 1105), (Value.str (Str.ofString "path") 1106), (Value.str (Str.ofString "text") 1107)] 0) #[])
noncomputable def o685_9 (P : Params) : Obj := (Obj.mk (Value.type "tuple") Option.none (Data.seq #[] 0) #[])
noncomputable def o686_9 (P : Params) : Obj := (Obj.mk Value.none Option.none (Data.func (FuncData.mk (Str.ofString "_law_step") (Str.ofString "_law_step") (fa [26]) (fb [26]) (fs [26]) 0 [] Value.none Value.none Value.none Value.none Option.none Value.none Value.none 0)) #[])
noncomputable def o687_9 (P : Params) : Obj := (Obj.mk (Value.type "code") Option.none (Data.fields #[(Value.str (Str.ofString "_law_step") 1100), (Value.str (Str.ofString "_law_step") 1101), (Value.str (Str.ofString "/claim/cut.py") 1102), (Value.int 428 0), (Value.int 5 0), (Value.int 0 0), (Value.int 0 0), (Value.int 3 0), (Value.ref 682), (Value.bool Bool.true), (Value.int 181 0), (Value.ref 683), Value.none, (Value.ref 684), (Value.ref 685), (Value.ref 686), (Value.int 1108 0), (Value.int 428 0), (Value.str (Str.ofString "/claim/cut.py") 1109)]) #[])
noncomputable def o688_9 (P : Params) : Obj := (Obj.mk (Value.type "function") Option.none (Data.func (FuncData.mk (Str.ofString "_law_step") (Str.ofString "_law_step") (fa [26]) (fb [26]) (fs [26]) 3 [] Value.none Value.none Value.none (Value.str (Str.ofString "law_az0001_02") 1053) Option.none (Value.ref 687) Value.none 0)) #[])
noncomputable def o689_9 (P : Params) : Obj := (Obj.mk (Value.type "tuple") Option.none (Data.seq #[] 0) #[])
noncomputable def o690_9 (P : Params) : Obj := (Obj.mk Value.none Option.none (Data.fields #[]) #[])
noncomputable def o691_9 (P : Params) : Obj := (Obj.mk Value.none Option.none (Data.func (FuncData.mk (Str.ofString "law") (Str.ofString "law") (fa [27]) (fb [27]) (fs [27]) 0 [] Value.none Value.none Value.none Value.none Option.none Value.none Value.none 0)) #[])
noncomputable def o692_9 (P : Params) : Obj := (Obj.mk (Value.type "code") Option.none (Data.fields #[(Value.str (Str.ofString "law") 1111), (Value.str (Str.ofString "law") 1112), (Value.str (Str.ofString "/claim/cut.py") 1113), (Value.int 435 0), (Value.int 1 0), (Value.int 0 0), (Value.int 0 0), (Value.int 3 0), (Value.ref 689), (Value.bool Bool.true), (Value.int 181 0), (Value.ref 690), Value.none, Value.none, Value.none, (Value.ref 691), (Value.int 1114 0), (Value.int 435 0), (Value.str (Str.ofString "/claim/cut.py") 1115)]) #[])
noncomputable def o693_9 (P : Params) : Obj := (Obj.mk (Value.type "function") Option.none (Data.func (FuncData.mk (Str.ofString "law") (Str.ofString "law") (fa [27]) (fb [27]) (fs [27]) 3 [] Value.none Value.none Value.none (Value.str (Str.ofString "law_az0001_02") 1053) Option.none (Value.ref 692) Value.none 0)) #[])
noncomputable def tr8 (P : Params) : BT := (.node (boot_o_0 P) (.node (boot_o_1 P) (.node (o3_9 P) (.node (boot_o_7 P) (.node (o15_2 P) (.node (o31_2 P) (.node (o63_2 P) (.node (o127_3 P) (.node (o255_5 P) (.node (o511_8 P) .nil .nil) .nil) (.node (o383_6 P) (.node (o639_9 P) .nil .nil) .nil)) (.node (o191_3 P) (.node (o319_5 P) (.node (o575_8 P) .nil .nil) .nil) (.node (o447_7 P) .nil .nil))) (.node (o95_2 P) (.node (o159_3 P) (.node (o287_5 P) (.node (o543_8 P) .nil .nil) .nil) (.node (o415_6 P) (.node (o671_9 P) .nil .nil) .nil)) (.node (o223_4 P) (.node (o351_5 P) (.node (o607_9 P) .nil .nil) .nil) (.node (o479_7 P) .nil .nil)))) (.node (o47_2 P) (.node (o79_2 P) (.node (o143_3 P) (.node (o271_5 P) (.node (o527_8 P) .nil .nil) .nil) (.node (o399_6 P) (.node (o655_9 P) .nil .nil) .nil)) (.node (o207_4 P) (.node (o335_5 P) (.node (o591_9 P) .nil .nil) .nil) (.node (o463_7 P) .nil .nil))) (.node (o111_3 P) (.node (o175_3 P) (.node (o303_5 P) (.node (o559_8 P) .nil .nil) .nil) (.node (o431_6 P) (.node (o687_9 P) .nil .nil) .nil)) (.node (o239_4 P) (.node (o367_5 P) (.node (o623_9 P) .nil .nil) .nil) (.node (o495_8 P) .nil .nil))))) (.node (o23_2 P) (.node (o39_2 P) (.node (o71_2 P) (.node (o135_3 P) (.node (o263_5 P) (.node (o519_8 P) .nil .nil) .nil) (.node (o391_6 P) (.node (o647_9 P) .nil .nil) .nil)) (.node (o199_3 P) (.node (o327_5 P) (.node (o583_8 P) .nil .nil) .nil) (.node (o455_7 P) .nil .nil))) (.node (o103_2 P) (.node (o167_3 P) (.node (o295_5 P) (.node (o551_8 P) .nil .nil) .nil) (.node (o423_6 P) (.node (o679_9 P) .nil .nil) .nil)) (.node (o231_4 P) (.node (o359_5 P) (.node (o615_9 P) .nil .nil) .nil) (.node (o487_8 P) .nil .nil)))) (.node (o55_2 P) (.node (o87_2 P) (.node (o151_3 P) (.node (o279_5 P) (.node (o535_8 P) .nil .nil) .nil) (.node (o407_6 P) (.node (o663_9 P) .nil .nil) .nil)) (.node (o215_4 P) (.node (o343_5 P) (.node (o599_9 P) .nil .nil) .nil) (.node (o471_7 P) .nil .nil))) (.node (o119_3 P) (.node (o183_3 P) (.node (o311_5 P) (.node (o567_8 P) .nil .nil) .nil) (.node (o439_7 P) .nil .nil)) (.node (o247_4 P) (.node (o375_6 P) (.node (o631_9 P) .nil .nil) .nil) (.node (o503_8 P) .nil .nil)))))) (.node (o11_0 P) (.node (o19_2 P) (.node (o35_2 P) (.node (o67_2 P) (.node (o131_3 P) (.node (o259_5 P) (.node (o515_8 P) .nil .nil) .nil) (.node (o387_6 P) (.node (o643_9 P) .nil .nil) .nil)) (.node (o195_3 P) (.node (o323_5 P) (.node (o579_8 P) .nil .nil) .nil) (.node (o451_7 P) .nil .nil))) (.node (o99_2 P) (.node (o163_3 P) (.node (o291_5 P) (.node (o547_8 P) .nil .nil) .nil) (.node (o419_6 P) (.node (o675_9 P) .nil .nil) .nil)) (.node (o227_4 P) (.node (o355_5 P) (.node (o611_9 P) .nil .nil) .nil) (.node (o483_8 P) .nil .nil)))) (.node (o51_2 P) (.node (o83_2 P) (.node (o147_3 P) (.node (o275_5 P) (.node (o531_8 P) .nil .nil) .nil) (.node (o403_6 P) (.node (o659_9 P) .nil .nil) .nil)) (.node (o211_4 P) (.node (o339_5 P) (.node (o595_9 P) .nil .nil) .nil) (.node (o467_7 P) .nil .nil))) (.node (o115_3 P) (.node (o179_3 P) (.node (o307_5 P) (.node (o563_8 P) .nil .nil) .nil) (.node (o435_6 P) (.node (o691_9 P) .nil .nil) .nil)) (.node (o243_4 P) (.node (o371_6 P) (.node (o627_9 P) .nil .nil) .nil) (.node (o499_8 P) .nil .nil))))) (.node (o27_2 P) (.node (o43_2 P) (.node (o75_2 P) (.node (o139_3 P) (.node (o267_5 P) (.node (o523_8 P) .nil .nil) .nil) (.node (o395_6 P) (.node (o651_9 P) .nil .nil) .nil)) (.node (o203_3 P) (.node (o331_5 P) (.node (o587_8 P) .nil .nil) .nil) (.node (o459_7 P) .nil .nil))) (.node (o107_3 P) (.node (o171_3 P) (.node (o299_5 P) (.node (o555_8 P) .nil .nil) .nil) (.node (o427_6 P) (.node (o683_9 P) .nil .nil) .nil)) (.node (o235_4 P) (.node (o363_5 P) (.node (o619_9 P) .nil .nil) .nil) (.node (o491_8 P) .nil .nil)))) (.node (o59_2 P) (.node (o91_2 P) (.node (o155_3 P) (.node (o283_5 P) (.node (o539_8 P) .nil .nil) .nil) (.node (o411_6 P) (.node (o667_9 P) .nil .nil) .nil)) (.node (o219_4 P) (.node (o347_5 P) (.node (o603_9 P) .nil .nil) .nil) (.node (o475_7 P) .nil .nil))) (.node (o123_3 P) (.node (o187_3 P) (.node (o315_5 P) (.node (o571_8 P) .nil .nil) .nil) (.node (o443_6 P) .nil .nil)) (.node (o251_5 P) (.node (o379_6 P) (.node (o635_9 P) .nil .nil) .nil) (.node (o507_8 P) .nil .nil))))))) (.node (boot_o_5 P) (.node (boot_o_9 P) (.node (o17_2 P) (.node (o33_2 P) (.node (o65_2 P) (.node (o129_3 P) (.node (o257_5 P) (.node (o513_8 P) .nil .nil) .nil) (.node (o385_6 P) (.node (o641_9 P) .nil .nil) .nil)) (.node (o193_3 P) (.node (o321_5 P) (.node (o577_8 P) .nil .nil) .nil) (.node (o449_7 P) .nil .nil))) (.node (o97_2 P) (.node (o161_3 P) (.node (o289_5 P) (.node (o545_8 P) .nil .nil) .nil) (.node (o417_6 P) (.node (o673_9 P) .nil .nil) .nil)) (.node (o225_4 P) (.node (o353_5 P) (.node (o609_9 P) .nil .nil) .nil) (.node (o481_8 P) .nil .nil)))) (.node (o49_2 P) (.node (o81_2 P) (.node (o145_3 P) (.node (o273_5 P) (.node (o529_8 P) .nil .nil) .nil) (.node (o401_6 P) (.node (o657_9 P) .nil .nil) .nil)) (.node (o209_4 P) (.node (o337_5 P) (.node (o593_9 P) .nil .nil) .nil) (.node (o465_7 P) .nil .nil))) (.node (o113_3 P) (.node (o177_3 P) (.node (o305_5 P) (.node (o561_8 P) .nil .nil) .nil) (.node (o433_6 P) (.node (o689_9 P) .nil .nil) .nil)) (.node (o241_4 P) (.node (o369_6 P) (.node (o625_9 P) .nil .nil) .nil) (.node (o497_8 P) .nil .nil))))) (.node (o25_2 P) (.node (o41_2 P) (.node (o73_2 P) (.node (o137_3 P) (.node (o265_5 P) (.node (o521_8 P) .nil .nil) .nil) (.node (o393_6 P) (.node (o649_9 P) .nil .nil) .nil)) (.node (o201_3 P) (.node (o329_5 P) (.node (o585_8 P) .nil .nil) .nil) (.node (o457_7 P) .nil .nil))) (.node (o105_3 P) (.node (o169_3 P) (.node (o297_5 P) (.node (o553_8 P) .nil .nil) .nil) (.node (o425_6 P) (.node (o681_9 P) .nil .nil) .nil)) (.node (o233_4 P) (.node (o361_5 P) (.node (o617_9 P) .nil .nil) .nil) (.node (o489_8 P) .nil .nil)))) (.node (o57_2 P) (.node (o89_2 P) (.node (o153_3 P) (.node (o281_5 P) (.node (o537_8 P) .nil .nil) .nil) (.node (o409_6 P) (.node (o665_9 P) .nil .nil) .nil)) (.node (o217_4 P) (.node (o345_5 P) (.node (o601_9 P) .nil .nil) .nil) (.node (o473_7 P) .nil .nil))) (.node (o121_3 P) (.node (o185_3 P) (.node (o313_5 P) (.node (o569_8 P) .nil .nil) .nil) (.node (o441_6 P) .nil .nil)) (.node (o249_5 P) (.node (o377_6 P) (.node (o633_9 P) .nil .nil) .nil) (.node (o505_8 P) .nil .nil)))))) (.node (o13_0 P) (.node (o21_2 P) (.node (o37_2 P) (.node (o69_2 P) (.node (o133_3 P) (.node (o261_5 P) (.node (o517_8 P) .nil .nil) .nil) (.node (o389_6 P) (.node (o645_9 P) .nil .nil) .nil)) (.node (o197_3 P) (.node (o325_5 P) (.node (o581_8 P) .nil .nil) .nil) (.node (o453_7 P) .nil .nil))) (.node (o101_2 P) (.node (o165_3 P) (.node (o293_5 P) (.node (o549_8 P) .nil .nil) .nil) (.node (o421_6 P) (.node (o677_9 P) .nil .nil) .nil)) (.node (o229_4 P) (.node (o357_5 P) (.node (o613_9 P) .nil .nil) .nil) (.node (o485_8 P) .nil .nil)))) (.node (o53_2 P) (.node (o85_2 P) (.node (o149_3 P) (.node (o277_5 P) (.node (o533_8 P) .nil .nil) .nil) (.node (o405_6 P) (.node (o661_9 P) .nil .nil) .nil)) (.node (o213_4 P) (.node (o341_5 P) (.node (o597_9 P) .nil .nil) .nil) (.node (o469_7 P) .nil .nil))) (.node (o117_3 P) (.node (o181_3 P) (.node (o309_5 P) (.node (o565_8 P) .nil .nil) .nil) (.node (o437_6 P) (.node (o693_9 P) .nil .nil) .nil)) (.node (o245_4 P) (.node (o373_6 P) (.node (o629_9 P) .nil .nil) .nil) (.node (o501_8 P) .nil .nil))))) (.node (o29_2 P) (.node (o45_2 P) (.node (o77_2 P) (.node (o141_3 P) (.node (o269_5 P) (.node (o525_8 P) .nil .nil) .nil) (.node (o397_6 P) (.node (o653_9 P) .nil .nil) .nil)) (.node (o205_3 P) (.node (o333_5 P) (.node (o589_8 P) .nil .nil) .nil) (.node (o461_7 P) .nil .nil))) (.node (o109_3 P) (.node (o173_3 P) (.node (o301_5 P) (.node (o557_8 P) .nil .nil) .nil) (.node (o429_6 P) (.node (o685_9 P) .nil .nil) .nil)) (.node (o237_4 P) (.node (o365_5 P) (.node (o621_9 P) .nil .nil) .nil) (.node (o493_8 P) .nil .nil)))) (.node (o61_2 P) (.node (o93_2 P) (.node (o157_3 P) (.node (o285_5 P) (.node (o541_8 P) .nil .nil) .nil) (.node (o413_6 P) (.node (o669_9 P) .nil .nil) .nil)) (.node (o221_4 P) (.node (o349_5 P) (.node (o605_9 P) .nil .nil) .nil) (.node (o477_7 P) .nil .nil))) (.node (o125_3 P) (.node (o189_3 P) (.node (o317_5 P) (.node (o573_8 P) .nil .nil) .nil) (.node (o445_7 P) .nil .nil)) (.node (o253_5 P) (.node (o381_6 P) (.node (o637_9 P) .nil .nil) .nil) (.node (o509_8 P) .nil .nil)))))))) (.node (o2_6 P) (.node (boot_o_4 P) (.node (boot_o_8 P) (.node (o16_2 P) (.node (o32_2 P) (.node (o64_2 P) (.node (o128_3 P) (.node (o256_5 P) (.node (o512_8 P) .nil .nil) .nil) (.node (o384_6 P) (.node (o640_9 P) .nil .nil) .nil)) (.node (o192_3 P) (.node (o320_5 P) (.node (o576_8 P) .nil .nil) .nil) (.node (o448_7 P) .nil .nil))) (.node (o96_2 P) (.node (o160_3 P) (.node (o288_5 P) (.node (o544_8 P) .nil .nil) .nil) (.node (o416_6 P) (.node (o672_9 P) .nil .nil) .nil)) (.node (o224_4 P) (.node (o352_5 P) (.node (o608_9 P) .nil .nil) .nil) (.node (o480_8 P) .nil .nil)))) (.node (o48_2 P) (.node (o80_2 P) (.node (o144_3 P) (.node (o272_5 P) (.node (o528_8 P) .nil .nil) .nil) (.node (o400_6 P) (.node (o656_9 P) .nil .nil) .nil)) (.node (o208_4 P) (.node (o336_5 P) (.node (o592_9 P) .nil .nil) .nil) (.node (o464_7 P) .nil .nil))) (.node (o112_3 P) (.node (o176_3 P) (.node (o304_5 P) (.node (o560_8 P) .nil .nil) .nil) (.node (o432_6 P) (.node (o688_9 P) .nil .nil) .nil)) (.node (o240_4 P) (.node (o368_6 P) (.node (o624_9 P) .nil .nil) .nil) (.node (o496_8 P) .nil .nil))))) (.node (o24_2 P) (.node (o40_2 P) (.node (o72_2 P) (.node (o136_3 P) (.node (o264_5 P) (.node (o520_8 P) .nil .nil) .nil) (.node (o392_6 P) (.node (o648_9 P) .nil .nil) .nil)) (.node (o200_3 P) (.node (o328_5 P) (.node (o584_8 P) .nil .nil) .nil) (.node (o456_7 P) .nil .nil))) (.node (o104_2 P) (.node (o168_3 P) (.node (o296_5 P) (.node (o552_8 P) .nil .nil) .nil) (.node (o424_6 P) (.node (o680_9 P) .nil .nil) .nil)) (.node (o232_4 P) (.node (o360_5 P) (.node (o616_9 P) .nil .nil) .nil) (.node (o488_8 P) .nil .nil)))) (.node (o56_2 P) (.node (o88_2 P) (.node (o152_3 P) (.node (o280_5 P) (.node (o536_8 P) .nil .nil) .nil) (.node (o408_6 P) (.node (o664_9 P) .nil .nil) .nil)) (.node (o216_4 P) (.node (o344_5 P) (.node (o600_9 P) .nil .nil) .nil) (.node (o472_7 P) .nil .nil))) (.node (o120_3 P) (.node (o184_3 P) (.node (o312_5 P) (.node (o568_8 P) .nil .nil) .nil) (.node (o440_6 P) .nil .nil)) (.node (o248_4 P) (.node (o376_6 P) (.node (o632_9 P) .nil .nil) .nil) (.node (o504_8 P) .nil .nil)))))) (.node (o12_9 P) (.node (o20_2 P) (.node (o36_2 P) (.node (o68_2 P) (.node (o132_3 P) (.node (o260_5 P) (.node (o516_8 P) .nil .nil) .nil) (.node (o388_6 P) (.node (o644_9 P) .nil .nil) .nil)) (.node (o196_3 P) (.node (o324_5 P) (.node (o580_8 P) .nil .nil) .nil) (.node (o452_7 P) .nil .nil))) (.node (o100_2 P) (.node (o164_3 P) (.node (o292_5 P) (.node (o548_8 P) .nil .nil) .nil) (.node (o420_6 P) (.node (o676_9 P) .nil .nil) .nil)) (.node (o228_4 P) (.node (o356_5 P) (.node (o612_9 P) .nil .nil) .nil) (.node (o484_8 P) .nil .nil)))) (.node (o52_2 P) (.node (o84_2 P) (.node (o148_3 P) (.node (o276_5 P) (.node (o532_8 P) .nil .nil) .nil) (.node (o404_6 P) (.node (o660_9 P) .nil .nil) .nil)) (.node (o212_4 P) (.node (o340_5 P) (.node (o596_9 P) .nil .nil) .nil) (.node (o468_7 P) .nil .nil))) (.node (o116_3 P) (.node (o180_3 P) (.node (o308_5 P) (.node (o564_8 P) .nil .nil) .nil) (.node (o436_6 P) (.node (o692_9 P) .nil .nil) .nil)) (.node (o244_4 P) (.node (o372_6 P) (.node (o628_9 P) .nil .nil) .nil) (.node (o500_8 P) .nil .nil))))) (.node (o28_2 P) (.node (o44_2 P) (.node (o76_2 P) (.node (o140_3 P) (.node (o268_5 P) (.node (o524_8 P) .nil .nil) .nil) (.node (o396_6 P) (.node (o652_9 P) .nil .nil) .nil)) (.node (o204_3 P) (.node (o332_5 P) (.node (o588_8 P) .nil .nil) .nil) (.node (o460_7 P) .nil .nil))) (.node (o108_3 P) (.node (o172_3 P) (.node (o300_5 P) (.node (o556_8 P) .nil .nil) .nil) (.node (o428_6 P) (.node (o684_9 P) .nil .nil) .nil)) (.node (o236_4 P) (.node (o364_5 P) (.node (o620_9 P) .nil .nil) .nil) (.node (o492_8 P) .nil .nil)))) (.node (o60_2 P) (.node (o92_2 P) (.node (o156_3 P) (.node (o284_5 P) (.node (o540_8 P) .nil .nil) .nil) (.node (o412_6 P) (.node (o668_9 P) .nil .nil) .nil)) (.node (o220_4 P) (.node (o348_5 P) (.node (o604_9 P) .nil .nil) .nil) (.node (o476_7 P) .nil .nil))) (.node (o124_3 P) (.node (o188_3 P) (.node (o316_5 P) (.node (o572_8 P) .nil .nil) .nil) (.node (o444_7 P) .nil .nil)) (.node (o252_5 P) (.node (o380_6 P) (.node (o636_9 P) .nil .nil) .nil) (.node (o508_8 P) .nil .nil))))))) (.node (boot_o_6 P) (.node (boot_o_10 P) (.node (o18_2 P) (.node (o34_2 P) (.node (o66_2 P) (.node (o130_3 P) (.node (o258_5 P) (.node (o514_8 P) .nil .nil) .nil) (.node (o386_6 P) (.node (o642_9 P) .nil .nil) .nil)) (.node (o194_3 P) (.node (o322_5 P) (.node (o578_8 P) .nil .nil) .nil) (.node (o450_7 P) .nil .nil))) (.node (o98_2 P) (.node (o162_3 P) (.node (o290_5 P) (.node (o546_8 P) .nil .nil) .nil) (.node (o418_6 P) (.node (o674_9 P) .nil .nil) .nil)) (.node (o226_4 P) (.node (o354_5 P) (.node (o610_9 P) .nil .nil) .nil) (.node (o482_8 P) .nil .nil)))) (.node (o50_2 P) (.node (o82_2 P) (.node (o146_3 P) (.node (o274_5 P) (.node (o530_8 P) .nil .nil) .nil) (.node (o402_6 P) (.node (o658_9 P) .nil .nil) .nil)) (.node (o210_4 P) (.node (o338_5 P) (.node (o594_9 P) .nil .nil) .nil) (.node (o466_7 P) .nil .nil))) (.node (o114_3 P) (.node (o178_3 P) (.node (o306_5 P) (.node (o562_8 P) .nil .nil) .nil) (.node (o434_6 P) (.node (o690_9 P) .nil .nil) .nil)) (.node (o242_4 P) (.node (o370_6 P) (.node (o626_9 P) .nil .nil) .nil) (.node (o498_8 P) .nil .nil))))) (.node (o26_2 P) (.node (o42_2 P) (.node (o74_2 P) (.node (o138_3 P) (.node (o266_5 P) (.node (o522_8 P) .nil .nil) .nil) (.node (o394_6 P) (.node (o650_9 P) .nil .nil) .nil)) (.node (o202_3 P) (.node (o330_5 P) (.node (o586_8 P) .nil .nil) .nil) (.node (o458_7 P) .nil .nil))) (.node (o106_3 P) (.node (o170_3 P) (.node (o298_5 P) (.node (o554_8 P) .nil .nil) .nil) (.node (o426_6 P) (.node (o682_9 P) .nil .nil) .nil)) (.node (o234_4 P) (.node (o362_5 P) (.node (o618_9 P) .nil .nil) .nil) (.node (o490_8 P) .nil .nil)))) (.node (o58_2 P) (.node (o90_2 P) (.node (o154_3 P) (.node (o282_5 P) (.node (o538_8 P) .nil .nil) .nil) (.node (o410_6 P) (.node (o666_9 P) .nil .nil) .nil)) (.node (o218_4 P) (.node (o346_5 P) (.node (o602_9 P) .nil .nil) .nil) (.node (o474_7 P) .nil .nil))) (.node (o122_3 P) (.node (o186_3 P) (.node (o314_5 P) (.node (o570_8 P) .nil .nil) .nil) (.node (o442_6 P) .nil .nil)) (.node (o250_5 P) (.node (o378_6 P) (.node (o634_9 P) .nil .nil) .nil) (.node (o506_8 P) .nil .nil)))))) (.node (o14_0 P) (.node (o22_2 P) (.node (o38_2 P) (.node (o70_2 P) (.node (o134_3 P) (.node (o262_5 P) (.node (o518_8 P) .nil .nil) .nil) (.node (o390_6 P) (.node (o646_9 P) .nil .nil) .nil)) (.node (o198_3 P) (.node (o326_5 P) (.node (o582_8 P) .nil .nil) .nil) (.node (o454_7 P) .nil .nil))) (.node (o102_2 P) (.node (o166_3 P) (.node (o294_5 P) (.node (o550_8 P) .nil .nil) .nil) (.node (o422_6 P) (.node (o678_9 P) .nil .nil) .nil)) (.node (o230_4 P) (.node (o358_5 P) (.node (o614_9 P) .nil .nil) .nil) (.node (o486_8 P) .nil .nil)))) (.node (o54_2 P) (.node (o86_2 P) (.node (o150_3 P) (.node (o278_5 P) (.node (o534_8 P) .nil .nil) .nil) (.node (o406_6 P) (.node (o662_9 P) .nil .nil) .nil)) (.node (o214_4 P) (.node (o342_5 P) (.node (o598_9 P) .nil .nil) .nil) (.node (o470_7 P) .nil .nil))) (.node (o118_3 P) (.node (o182_3 P) (.node (o310_5 P) (.node (o566_8 P) .nil .nil) .nil) (.node (o438_6 P) .nil .nil)) (.node (o246_4 P) (.node (o374_6 P) (.node (o630_9 P) .nil .nil) .nil) (.node (o502_8 P) .nil .nil))))) (.node (o30_2 P) (.node (o46_2 P) (.node (o78_2 P) (.node (o142_3 P) (.node (o270_5 P) (.node (o526_8 P) .nil .nil) .nil) (.node (o398_9 P) (.node (o654_9 P) .nil .nil) .nil)) (.node (o206_4 P) (.node (o334_5 P) (.node (o590_8 P) .nil .nil) .nil) (.node (o462_7 P) .nil .nil))) (.node (o110_3 P) (.node (o174_3 P) (.node (o302_5 P) (.node (o558_8 P) .nil .nil) .nil) (.node (o430_6 P) (.node (o686_9 P) .nil .nil) .nil)) (.node (o238_4 P) (.node (o366_5 P) (.node (o622_9 P) .nil .nil) .nil) (.node (o494_8 P) .nil .nil)))) (.node (o62_2 P) (.node (o94_2 P) (.node (o158_3 P) (.node (o286_5 P) (.node (o542_8 P) .nil .nil) .nil) (.node (o414_6 P) (.node (o670_9 P) .nil .nil) .nil)) (.node (o222_4 P) (.node (o350_5 P) (.node (o606_9 P) .nil .nil) .nil) (.node (o478_7 P) .nil .nil))) (.node (o126_3 P) (.node (o190_3 P) (.node (o318_5 P) (.node (o574_8 P) .nil .nil) .nil) (.node (o446_7 P) .nil .nil)) (.node (o254_5 P) (.node (o382_6 P) (.node (o638_9 P) .nil .nil) .nil) (.node (o510_8 P) .nil .nil)))))))))
noncomputable def lf8 : Life := (Life.mk [] [] [] 0 [] [] Bool.false #[] [] 0 Bool.false Bool.false Bool.false 0 [2000, 10, 10] Bool.false 0 Bool.true [] [] 0 Bool.false)
noncomputable def dr8 : Drawn := (Drawn.mk 0 0 0 0)
noncomputable def st8 (w : World) (os : OsState) : SharedT := ⟨tr8 w.params, 694, lf8, #[], dr8, 1117, os⟩
noncomputable def gr8 : List Stmt := ((behindTheImports pg).drop 19).take 9
theorem seg8 : ∀ (w : World) (os : OsState), segRunT treeTable pg w 11 annE 1 643 (st7 w os) (piecesOf gr8 ev cE ⟨254, 0, 368, 38⟩ [topFrame qE]) = some (.next, st8 w os, cE, ⟨435, 0, 464, 15⟩) := by intro w os; kernel_rfl

noncomputable def hpZ (P : Params) : Heap := ⟨Array.mk [boot_o_0 P, boot_o_1 P, o2_6 P, o3_9 P, boot_o_4 P, boot_o_5 P, boot_o_6 P, boot_o_7 P, boot_o_8 P, boot_o_9 P, boot_o_10 P, o11_0 P, o12_9 P, o13_0 P, o14_0 P, o15_2 P, o16_2 P, o17_2 P, o18_2 P, o19_2 P, o20_2 P, o21_2 P, o22_2 P, o23_2 P, o24_2 P, o25_2 P, o26_2 P, o27_2 P, o28_2 P, o29_2 P, o30_2 P, o31_2 P, o32_2 P, o33_2 P, o34_2 P, o35_2 P, o36_2 P, o37_2 P, o38_2 P, o39_2 P, o40_2 P, o41_2 P, o42_2 P, o43_2 P, o44_2 P, o45_2 P, o46_2 P, o47_2 P, o48_2 P, o49_2 P, o50_2 P, o51_2 P, o52_2 P, o53_2 P, o54_2 P, o55_2 P, o56_2 P, o57_2 P, o58_2 P, o59_2 P, o60_2 P, o61_2 P, o62_2 P, o63_2 P, o64_2 P, o65_2 P, o66_2 P, o67_2 P, o68_2 P, o69_2 P, o70_2 P, o71_2 P, o72_2 P, o73_2 P, o74_2 P, o75_2 P, o76_2 P, o77_2 P, o78_2 P, o79_2 P, o80_2 P, o81_2 P, o82_2 P, o83_2 P, o84_2 P, o85_2 P, o86_2 P, o87_2 P, o88_2 P, o89_2 P, o90_2 P, o91_2 P, o92_2 P, o93_2 P, o94_2 P, o95_2 P, o96_2 P, o97_2 P, o98_2 P, o99_2 P, o100_2 P, o101_2 P, o102_2 P, o103_2 P, o104_2 P, o105_3 P, o106_3 P, o107_3 P, o108_3 P, o109_3 P, o110_3 P, o111_3 P, o112_3 P, o113_3 P, o114_3 P, o115_3 P, o116_3 P, o117_3 P, o118_3 P, o119_3 P, o120_3 P, o121_3 P, o122_3 P, o123_3 P, o124_3 P, o125_3 P, o126_3 P, o127_3 P, o128_3 P, o129_3 P, o130_3 P, o131_3 P, o132_3 P, o133_3 P, o134_3 P, o135_3 P, o136_3 P, o137_3 P, o138_3 P, o139_3 P, o140_3 P, o141_3 P, o142_3 P, o143_3 P, o144_3 P, o145_3 P, o146_3 P, o147_3 P, o148_3 P, o149_3 P, o150_3 P, o151_3 P, o152_3 P, o153_3 P, o154_3 P, o155_3 P, o156_3 P, o157_3 P, o158_3 P, o159_3 P, o160_3 P, o161_3 P, o162_3 P, o163_3 P, o164_3 P, o165_3 P, o166_3 P, o167_3 P, o168_3 P, o169_3 P, o170_3 P, o171_3 P, o172_3 P, o173_3 P, o174_3 P, o175_3 P, o176_3 P, o177_3 P, o178_3 P, o179_3 P, o180_3 P, o181_3 P, o182_3 P, o183_3 P, o184_3 P, o185_3 P, o186_3 P, o187_3 P, o188_3 P, o189_3 P, o190_3 P, o191_3 P, o192_3 P, o193_3 P, o194_3 P, o195_3 P, o196_3 P, o197_3 P, o198_3 P, o199_3 P, o200_3 P, o201_3 P, o202_3 P, o203_3 P, o204_3 P, o205_3 P, o206_4 P, o207_4 P, o208_4 P, o209_4 P, o210_4 P, o211_4 P, o212_4 P, o213_4 P, o214_4 P, o215_4 P, o216_4 P, o217_4 P, o218_4 P, o219_4 P, o220_4 P, o221_4 P, o222_4 P, o223_4 P, o224_4 P, o225_4 P, o226_4 P, o227_4 P, o228_4 P, o229_4 P, o230_4 P, o231_4 P, o232_4 P, o233_4 P, o234_4 P, o235_4 P, o236_4 P, o237_4 P, o238_4 P, o239_4 P, o240_4 P, o241_4 P, o242_4 P, o243_4 P, o244_4 P, o245_4 P, o246_4 P, o247_4 P, o248_4 P, o249_5 P, o250_5 P, o251_5 P, o252_5 P, o253_5 P, o254_5 P, o255_5 P, o256_5 P, o257_5 P, o258_5 P, o259_5 P, o260_5 P, o261_5 P, o262_5 P, o263_5 P, o264_5 P, o265_5 P, o266_5 P, o267_5 P, o268_5 P, o269_5 P, o270_5 P, o271_5 P, o272_5 P, o273_5 P, o274_5 P, o275_5 P, o276_5 P, o277_5 P, o278_5 P, o279_5 P, o280_5 P, o281_5 P, o282_5 P, o283_5 P, o284_5 P, o285_5 P, o286_5 P, o287_5 P, o288_5 P, o289_5 P, o290_5 P, o291_5 P, o292_5 P, o293_5 P, o294_5 P, o295_5 P, o296_5 P, o297_5 P, o298_5 P, o299_5 P, o300_5 P, o301_5 P, o302_5 P, o303_5 P, o304_5 P, o305_5 P, o306_5 P, o307_5 P, o308_5 P, o309_5 P, o310_5 P, o311_5 P, o312_5 P, o313_5 P, o314_5 P, o315_5 P, o316_5 P, o317_5 P, o318_5 P, o319_5 P, o320_5 P, o321_5 P, o322_5 P, o323_5 P, o324_5 P, o325_5 P, o326_5 P, o327_5 P, o328_5 P, o329_5 P, o330_5 P, o331_5 P, o332_5 P, o333_5 P, o334_5 P, o335_5 P, o336_5 P, o337_5 P, o338_5 P, o339_5 P, o340_5 P, o341_5 P, o342_5 P, o343_5 P, o344_5 P, o345_5 P, o346_5 P, o347_5 P, o348_5 P, o349_5 P, o350_5 P, o351_5 P, o352_5 P, o353_5 P, o354_5 P, o355_5 P, o356_5 P, o357_5 P, o358_5 P, o359_5 P, o360_5 P, o361_5 P, o362_5 P, o363_5 P, o364_5 P, o365_5 P, o366_5 P, o367_5 P, o368_6 P, o369_6 P, o370_6 P, o371_6 P, o372_6 P, o373_6 P, o374_6 P, o375_6 P, o376_6 P, o377_6 P, o378_6 P, o379_6 P, o380_6 P, o381_6 P, o382_6 P, o383_6 P, o384_6 P, o385_6 P, o386_6 P, o387_6 P, o388_6 P, o389_6 P, o390_6 P, o391_6 P, o392_6 P, o393_6 P, o394_6 P, o395_6 P, o396_6 P, o397_6 P, o398_9 P, o399_6 P, o400_6 P, o401_6 P, o402_6 P, o403_6 P, o404_6 P, o405_6 P, o406_6 P, o407_6 P, o408_6 P, o409_6 P, o410_6 P, o411_6 P, o412_6 P, o413_6 P, o414_6 P, o415_6 P, o416_6 P, o417_6 P, o418_6 P, o419_6 P, o420_6 P, o421_6 P, o422_6 P, o423_6 P, o424_6 P, o425_6 P, o426_6 P, o427_6 P, o428_6 P, o429_6 P, o430_6 P, o431_6 P, o432_6 P, o433_6 P, o434_6 P, o435_6 P, o436_6 P, o437_6 P, o438_6 P, o439_7 P, o440_6 P, o441_6 P, o442_6 P, o443_6 P, o444_7 P, o445_7 P, o446_7 P, o447_7 P, o448_7 P, o449_7 P, o450_7 P, o451_7 P, o452_7 P, o453_7 P, o454_7 P, o455_7 P, o456_7 P, o457_7 P, o458_7 P, o459_7 P, o460_7 P, o461_7 P, o462_7 P, o463_7 P, o464_7 P, o465_7 P, o466_7 P, o467_7 P, o468_7 P, o469_7 P, o470_7 P, o471_7 P, o472_7 P, o473_7 P, o474_7 P, o475_7 P, o476_7 P, o477_7 P, o478_7 P, o479_7 P, o480_8 P, o481_8 P, o482_8 P, o483_8 P, o484_8 P, o485_8 P, o486_8 P, o487_8 P, o488_8 P, o489_8 P, o490_8 P, o491_8 P, o492_8 P, o493_8 P, o494_8 P, o495_8 P, o496_8 P, o497_8 P, o498_8 P, o499_8 P, o500_8 P, o501_8 P, o502_8 P, o503_8 P, o504_8 P, o505_8 P, o506_8 P, o507_8 P, o508_8 P, o509_8 P, o510_8 P, o511_8 P, o512_8 P, o513_8 P, o514_8 P, o515_8 P, o516_8 P, o517_8 P, o518_8 P, o519_8 P, o520_8 P, o521_8 P, o522_8 P, o523_8 P, o524_8 P, o525_8 P, o526_8 P, o527_8 P, o528_8 P, o529_8 P, o530_8 P, o531_8 P, o532_8 P, o533_8 P, o534_8 P, o535_8 P, o536_8 P, o537_8 P, o538_8 P, o539_8 P, o540_8 P, o541_8 P, o542_8 P, o543_8 P, o544_8 P, o545_8 P, o546_8 P, o547_8 P, o548_8 P, o549_8 P, o550_8 P, o551_8 P, o552_8 P, o553_8 P, o554_8 P, o555_8 P, o556_8 P, o557_8 P, o558_8 P, o559_8 P, o560_8 P, o561_8 P, o562_8 P, o563_8 P, o564_8 P, o565_8 P, o566_8 P, o567_8 P, o568_8 P, o569_8 P, o570_8 P, o571_8 P, o572_8 P, o573_8 P, o574_8 P, o575_8 P, o576_8 P, o577_8 P, o578_8 P, o579_8 P, o580_8 P, o581_8 P, o582_8 P, o583_8 P, o584_8 P, o585_8 P, o586_8 P, o587_8 P, o588_8 P, o589_8 P, o590_8 P, o591_9 P, o592_9 P, o593_9 P, o594_9 P, o595_9 P, o596_9 P, o597_9 P, o598_9 P, o599_9 P, o600_9 P, o601_9 P, o602_9 P, o603_9 P, o604_9 P, o605_9 P, o606_9 P, o607_9 P, o608_9 P, o609_9 P, o610_9 P, o611_9 P, o612_9 P, o613_9 P, o614_9 P, o615_9 P, o616_9 P, o617_9 P, o618_9 P, o619_9 P, o620_9 P, o621_9 P, o622_9 P, o623_9 P, o624_9 P, o625_9 P, o626_9 P, o627_9 P, o628_9 P, o629_9 P, o630_9 P, o631_9 P, o632_9 P, o633_9 P, o634_9 P, o635_9 P, o636_9 P, o637_9 P, o638_9 P, o639_9 P, o640_9 P, o641_9 P, o642_9 P, o643_9 P, o644_9 P, o645_9 P, o646_9 P, o647_9 P, o648_9 P, o649_9 P, o650_9 P, o651_9 P, o652_9 P, o653_9 P, o654_9 P, o655_9 P, o656_9 P, o657_9 P, o658_9 P, o659_9 P, o660_9 P, o661_9 P, o662_9 P, o663_9 P, o664_9 P, o665_9 P, o666_9 P, o667_9 P, o668_9 P, o669_9 P, o670_9 P, o671_9 P, o672_9 P, o673_9 P, o674_9 P, o675_9 P, o676_9 P, o677_9 P, o678_9 P, o679_9 P, o680_9 P, o681_9 P, o682_9 P, o683_9 P, o684_9 P, o685_9 P, o686_9 P, o687_9 P, o688_9 P, o689_9 P, o690_9 P, o691_9 P, o692_9 P, o693_9 P], lf8⟩
noncomputable def stZ (w : World) (os : OsState) : Shared := ⟨hpZ w.params, #[], (Drawn.mk 0 0 0 0), 1117, os⟩
theorem fin_go : ∀ (w : World) (os : OsState), topRun treeTable pg w 11 annE 2 (st8 w os).abs ⟨doneF .next, cE, ⟨435, 0, 464, 15⟩, [topFrame qE]⟩ = some (stZ w os) := by intro w os; kernel_rfl
noncomputable def KZ (P : Params) : Frag := [(0, boot_o_0 P), (1, boot_o_1 P), (2, o2_6 P), (3, o3_9 P), (4, boot_o_4 P), (5, boot_o_5 P), (6, boot_o_6 P), (7, boot_o_7 P), (9, boot_o_9 P), (10, boot_o_10 P), (11, o11_0 P), (13, o13_0 P), (14, o14_0 P), (15, o15_2 P), (17, o17_2 P), (18, o18_2 P), (20, o20_2 P), (21, o21_2 P), (22, o22_2 P), (23, o23_2 P), (24, o24_2 P), (25, o25_2 P), (27, o27_2 P), (28, o28_2 P), (29, o29_2 P), (30, o30_2 P), (31, o31_2 P), (32, o32_2 P), (33, o33_2 P), (34, o34_2 P), (35, o35_2 P), (37, o37_2 P), (38, o38_2 P), (40, o40_2 P), (41, o41_2 P), (42, o42_2 P), (43, o43_2 P), (44, o44_2 P), (45, o45_2 P), (47, o47_2 P), (48, o48_2 P), (49, o49_2 P), (51, o51_2 P), (52, o52_2 P), (54, o54_2 P), (55, o55_2 P), (56, o56_2 P), (58, o58_2 P), (59, o59_2 P), (61, o61_2 P), (62, o62_2 P), (63, o63_2 P), (65, o65_2 P), (66, o66_2 P), (68, o68_2 P), (69, o69_2 P), (70, o70_2 P), (72, o72_2 P), (73, o73_2 P), (75, o75_2 P), (76, o76_2 P), (77, o77_2 P), (79, o79_2 P), (80, o80_2 P), (82, o82_2 P), (83, o83_2 P), (84, o84_2 P), (86, o86_2 P), (87, o87_2 P), (89, o89_2 P), (90, o90_2 P), (91, o91_2 P), (93, o93_2 P), (94, o94_2 P), (96, o96_2 P), (97, o97_2 P), (98, o98_2 P), (99, o99_2 P), (100, o100_2 P), (101, o101_2 P), (102, o102_2 P), (103, o103_2 P), (104, o104_2 P), (105, o105_3 P), (106, o106_3 P), (107, o107_3 P), (108, o108_3 P), (110, o110_3 P), (111, o111_3 P), (112, o112_3 P), (114, o114_3 P), (115, o115_3 P), (117, o117_3 P), (118, o118_3 P), (119, o119_3 P), (121, o121_3 P), (122, o122_3 P), (124, o124_3 P), (125, o125_3 P), (126, o126_3 P), (128, o128_3 P), (129, o129_3 P), (131, o131_3 P), (132, o132_3 P), (133, o133_3 P), (135, o135_3 P), (136, o136_3 P), (138, o138_3 P), (139, o139_3 P), (140, o140_3 P), (142, o142_3 P), (143, o143_3 P), (145, o145_3 P), (146, o146_3 P), (147, o147_3 P), (148, o148_3 P), (149, o149_3 P), (150, o150_3 P), (151, o151_3 P), (152, o152_3 P), (153, o153_3 P), (154, o154_3 P), (155, o155_3 P), (156, o156_3 P), (157, o157_3 P), (159, o159_3 P), (160, o160_3 P), (161, o161_3 P), (163, o163_3 P), (164, o164_3 P), (166, o166_3 P), (167, o167_3 P), (168, o168_3 P), (170, o170_3 P), (171, o171_3 P), (173, o173_3 P), (174, o174_3 P), (175, o175_3 P), (176, o176_3 P), (177, o177_3 P), (178, o178_3 P), (179, o179_3 P), (180, o180_3 P), (181, o181_3 P), (182, o182_3 P), (183, o183_3 P), (185, o185_3 P), (186, o186_3 P), (187, o187_3 P), (189, o189_3 P), (190, o190_3 P), (192, o192_3 P), (193, o193_3 P), (194, o194_3 P), (196, o196_3 P), (197, o197_3 P), (199, o199_3 P), (200, o200_3 P), (201, o201_3 P), (202, o202_3 P), (203, o203_3 P), (204, o204_3 P), (205, o205_3 P), (206, o206_4 P), (207, o207_4 P), (208, o208_4 P), (209, o209_4 P), (211, o211_4 P), (212, o212_4 P), (213, o213_4 P), (215, o215_4 P), (216, o216_4 P), (218, o218_4 P), (219, o219_4 P), (220, o220_4 P), (221, o221_4 P), (223, o223_4 P), (224, o224_4 P), (226, o226_4 P), (227, o227_4 P), (228, o228_4 P), (230, o230_4 P), (231, o231_4 P), (233, o233_4 P), (234, o234_4 P), (235, o235_4 P), (237, o237_4 P), (238, o238_4 P), (240, o240_4 P), (241, o241_4 P), (242, o242_4 P), (243, o243_4 P), (244, o244_4 P), (245, o245_4 P), (246, o246_4 P), (247, o247_4 P), (248, o248_4 P), (249, o249_5 P), (250, o250_5 P), (251, o251_5 P), (252, o252_5 P), (254, o254_5 P), (255, o255_5 P), (256, o256_5 P), (258, o258_5 P), (259, o259_5 P), (261, o261_5 P), (262, o262_5 P), (263, o263_5 P), (265, o265_5 P), (266, o266_5 P), (268, o268_5 P), (269, o269_5 P), (270, o270_5 P), (272, o272_5 P), (273, o273_5 P), (275, o275_5 P), (276, o276_5 P), (277, o277_5 P), (279, o279_5 P), (280, o280_5 P), (282, o282_5 P), (283, o283_5 P), (284, o284_5 P), (286, o286_5 P), (287, o287_5 P), (289, o289_5 P), (290, o290_5 P), (291, o291_5 P), (293, o293_5 P), (294, o294_5 P), (296, o296_5 P), (297, o297_5 P), (298, o298_5 P), (300, o300_5 P), (301, o301_5 P), (303, o303_5 P), (304, o304_5 P), (305, o305_5 P), (306, o306_5 P), (308, o308_5 P), (309, o309_5 P), (311, o311_5 P), (312, o312_5 P), (313, o313_5 P), (315, o315_5 P), (316, o316_5 P), (318, o318_5 P), (319, o319_5 P), (320, o320_5 P), (322, o322_5 P), (323, o323_5 P), (325, o325_5 P), (326, o326_5 P), (327, o327_5 P), (329, o329_5 P), (330, o330_5 P), (332, o332_5 P), (333, o333_5 P), (334, o334_5 P), (336, o336_5 P), (337, o337_5 P), (339, o339_5 P), (340, o340_5 P), (341, o341_5 P), (343, o343_5 P), (344, o344_5 P), (346, o346_5 P), (347, o347_5 P), (348, o348_5 P), (350, o350_5 P), (351, o351_5 P), (353, o353_5 P), (354, o354_5 P), (355, o355_5 P), (356, o356_5 P), (359, o359_5 P), (360, o360_5 P), (361, o361_5 P), (362, o362_5 P), (363, o363_5 P), (364, o364_5 P), (365, o365_5 P), (366, o366_5 P), (367, o367_5 P), (368, o368_6 P), (369, o369_6 P), (370, o370_6 P), (371, o371_6 P), (373, o373_6 P), (374, o374_6 P), (375, o375_6 P), (377, o377_6 P), (378, o378_6 P), (380, o380_6 P), (381, o381_6 P), (382, o382_6 P), (384, o384_6 P), (385, o385_6 P), (387, o387_6 P), (388, o388_6 P), (389, o389_6 P), (391, o391_6 P), (392, o392_6 P), (394, o394_6 P), (395, o395_6 P), (396, o396_6 P), (397, o397_6 P), (398, o398_9 P), (399, o399_6 P), (400, o400_6 P), (401, o401_6 P), (402, o402_6 P), (403, o403_6 P), (404, o404_6 P), (405, o405_6 P), (406, o406_6 P), (408, o408_6 P), (409, o409_6 P), (410, o410_6 P), (411, o411_6 P), (412, o412_6 P), (413, o413_6 P), (414, o414_6 P), (415, o415_6 P), (416, o416_6 P), (417, o417_6 P), (418, o418_6 P), (419, o419_6 P), (421, o421_6 P), (422, o422_6 P), (423, o423_6 P), (425, o425_6 P), (426, o426_6 P), (428, o428_6 P), (429, o429_6 P), (430, o430_6 P), (432, o432_6 P), (433, o433_6 P), (435, o435_6 P), (436, o436_6 P), (437, o437_6 P), (438, o438_6 P), (439, o439_7 P), (440, o440_6 P), (441, o441_6 P), (442, o442_6 P), (443, o443_6 P), (444, o444_7 P), (445, o445_7 P), (446, o446_7 P), (447, o447_7 P), (449, o449_7 P), (450, o450_7 P), (451, o451_7 P), (452, o452_7 P), (453, o453_7 P), (454, o454_7 P), (455, o455_7 P), (456, o456_7 P), (457, o457_7 P), (458, o458_7 P), (459, o459_7 P), (461, o461_7 P), (462, o462_7 P), (463, o463_7 P), (464, o464_7 P), (465, o465_7 P), (466, o466_7 P), (467, o467_7 P), (468, o468_7 P), (469, o469_7 P), (470, o470_7 P), (471, o471_7 P), (473, o473_7 P), (474, o474_7 P), (475, o475_7 P), (476, o476_7 P), (477, o477_7 P), (478, o478_7 P), (479, o479_7 P), (480, o480_8 P), (481, o481_8 P), (482, o482_8 P), (483, o483_8 P), (485, o485_8 P), (486, o486_8 P), (487, o487_8 P), (488, o488_8 P), (489, o489_8 P), (490, o490_8 P), (491, o491_8 P), (492, o492_8 P), (493, o493_8 P), (494, o494_8 P), (496, o496_8 P), (497, o497_8 P), (499, o499_8 P), (500, o500_8 P), (501, o501_8 P), (503, o503_8 P), (504, o504_8 P), (506, o506_8 P), (507, o507_8 P), (508, o508_8 P), (510, o510_8 P), (511, o511_8 P), (513, o513_8 P), (514, o514_8 P), (515, o515_8 P), (517, o517_8 P), (518, o518_8 P), (520, o520_8 P), (521, o521_8 P), (522, o522_8 P), (524, o524_8 P), (525, o525_8 P), (527, o527_8 P), (528, o528_8 P), (529, o529_8 P), (531, o531_8 P), (532, o532_8 P), (534, o534_8 P), (535, o535_8 P), (536, o536_8 P), (538, o538_8 P), (539, o539_8 P), (541, o541_8 P), (542, o542_8 P), (543, o543_8 P), (545, o545_8 P), (546, o546_8 P), (548, o548_8 P), (549, o549_8 P), (550, o550_8 P), (552, o552_8 P), (553, o553_8 P), (555, o555_8 P), (556, o556_8 P), (557, o557_8 P), (558, o558_8 P), (560, o560_8 P), (561, o561_8 P), (563, o563_8 P), (564, o564_8 P), (565, o565_8 P), (568, o568_8 P), (569, o569_8 P), (570, o570_8 P), (572, o572_8 P), (573, o573_8 P), (575, o575_8 P), (576, o576_8 P), (577, o577_8 P), (579, o579_8 P), (580, o580_8 P), (582, o582_8 P), (583, o583_8 P), (584, o584_8 P), (585, o585_8 P), (586, o586_8 P), (587, o587_8 P), (588, o588_8 P), (589, o589_8 P), (590, o590_8 P), (591, o591_9 P), (592, o592_9 P), (593, o593_9 P), (594, o594_9 P), (596, o596_9 P), (597, o597_9 P), (598, o598_9 P), (599, o599_9 P), (601, o601_9 P), (602, o602_9 P), (604, o604_9 P), (605, o605_9 P), (606, o606_9 P), (608, o608_9 P), (609, o609_9 P), (611, o611_9 P), (612, o612_9 P), (613, o613_9 P), (615, o615_9 P), (616, o616_9 P), (618, o618_9 P), (619, o619_9 P), (620, o620_9 P), (622, o622_9 P), (623, o623_9 P), (625, o625_9 P), (626, o626_9 P), (627, o627_9 P), (629, o629_9 P), (630, o630_9 P), (632, o632_9 P), (633, o633_9 P), (634, o634_9 P), (636, o636_9 P), (637, o637_9 P), (639, o639_9 P), (640, o640_9 P), (641, o641_9 P), (642, o642_9 P), (643, o643_9 P), (644, o644_9 P), (645, o645_9 P), (646, o646_9 P), (648, o648_9 P), (649, o649_9 P), (651, o651_9 P), (652, o652_9 P), (653, o653_9 P), (655, o655_9 P), (656, o656_9 P), (658, o658_9 P), (659, o659_9 P), (660, o660_9 P), (661, o661_9 P), (662, o662_9 P), (663, o663_9 P), (664, o664_9 P), (665, o665_9 P), (666, o666_9 P), (667, o667_9 P), (668, o668_9 P), (669, o669_9 P), (670, o670_9 P), (672, o672_9 P), (673, o673_9 P), (675, o675_9 P), (676, o676_9 P), (677, o677_9 P), (680, o680_9 P), (681, o681_9 P), (682, o682_9 P), (684, o684_9 P), (685, o685_9 P), (687, o687_9 P), (688, o688_9 P), (689, o689_9 P), (692, o692_9 P), (693, o693_9 P)]
noncomputable def asZ : List Addr := [0, 1, 2, 3, 4, 5, 6, 7, 9, 10, 11, 13, 14, 15, 17, 18, 20, 21, 22, 23, 24, 25, 27, 28, 29, 30, 31, 32, 33, 34, 35, 37, 38, 40, 41, 42, 43, 44, 45, 47, 48, 49, 51, 52, 54, 55, 56, 58, 59, 61, 62, 63, 65, 66, 68, 69, 70, 72, 73, 75, 76, 77, 79, 80, 82, 83, 84, 86, 87, 89, 90, 91, 93, 94, 96, 97, 98, 99, 100, 101, 102, 103, 104, 105, 106, 107, 108, 110, 111, 112, 114, 115, 117, 118, 119, 121, 122, 124, 125, 126, 128, 129, 131, 132, 133, 135, 136, 138, 139, 140, 142, 143, 145, 146, 147, 148, 149, 150, 151, 152, 153, 154, 155, 156, 157, 159, 160, 161, 163, 164, 166, 167, 168, 170, 171, 173, 174, 175, 176, 177, 178, 179, 180, 181, 182, 183, 185, 186, 187, 189, 190, 192, 193, 194, 196, 197, 199, 200, 201, 202, 203, 204, 205, 206, 207, 208, 209, 211, 212, 213, 215, 216, 218, 219, 220, 221, 223, 224, 226, 227, 228, 230, 231, 233, 234, 235, 237, 238, 240, 241, 242, 243, 244, 245, 246, 247, 248, 249, 250, 251, 252, 254, 255, 256, 258, 259, 261, 262, 263, 265, 266, 268, 269, 270, 272, 273, 275, 276, 277, 279, 280, 282, 283, 284, 286, 287, 289, 290, 291, 293, 294, 296, 297, 298, 300, 301, 303, 304, 305, 306, 308, 309, 311, 312, 313, 315, 316, 318, 319, 320, 322, 323, 325, 326, 327, 329, 330, 332, 333, 334, 336, 337, 339, 340, 341, 343, 344, 346, 347, 348, 350, 351, 353, 354, 355, 356, 359, 360, 361, 362, 363, 364, 365, 366, 367, 368, 369, 370, 371, 373, 374, 375, 377, 378, 380, 381, 382, 384, 385, 387, 388, 389, 391, 392, 394, 395, 396, 397, 398, 399, 400, 401, 402, 403, 404, 405, 406, 408, 409, 410, 411, 412, 413, 414, 415, 416, 417, 418, 419, 421, 422, 423, 425, 426, 428, 429, 430, 432, 433, 435, 436, 437, 438, 439, 440, 441, 442, 443, 444, 445, 446, 447, 449, 450, 451, 452, 453, 454, 455, 456, 457, 458, 459, 461, 462, 463, 464, 465, 466, 467, 468, 469, 470, 471, 473, 474, 475, 476, 477, 478, 479, 480, 481, 482, 483, 485, 486, 487, 488, 489, 490, 491, 492, 493, 494, 496, 497, 499, 500, 501, 503, 504, 506, 507, 508, 510, 511, 513, 514, 515, 517, 518, 520, 521, 522, 524, 525, 527, 528, 529, 531, 532, 534, 535, 536, 538, 539, 541, 542, 543, 545, 546, 548, 549, 550, 552, 553, 555, 556, 557, 558, 560, 561, 563, 564, 565, 568, 569, 570, 572, 573, 575, 576, 577, 579, 580, 582, 583, 584, 585, 586, 587, 588, 589, 590, 591, 592, 593, 594, 596, 597, 598, 599, 601, 602, 604, 605, 606, 608, 609, 611, 612, 613, 615, 616, 618, 619, 620, 622, 623, 625, 626, 627, 629, 630, 632, 633, 634, 636, 637, 639, 640, 641, 642, 643, 644, 645, 646, 648, 649, 651, 652, 653, 655, 656, 658, 659, 660, 661, 662, 663, 664, 665, 666, 667, 668, 669, 670, 672, 673, 675, 676, 677, 680, 681, 682, 684, 685, 687, 688, 689, 692, 693]
theorem asZ_eq : ∀ P, asZ = (KZ P).map (·.1) := by intro P; kernel_rfl

end
end Mine

open PySem PySem.W PyProof.Rows
set_option Elab.async false
set_option maxRecDepth 1000000
set_option maxHeartbeats 0
set_option autoImplicit false
namespace Mine
def vw : Program := { PySem.Challenge.pw_az0001_02 with main := { PySem.Challenge.pw_az0001_02.main with body := (PySem.Challenge.pw_az0001_02.main.body.zipIdx.filter fun x => !([1, 11, 17, 20].contains x.2)).map (·.1) } }
def lo : List Str := ["FileChangedChecker", "MD5Checker", "TimestampChecker", "CatchedException", "BaseFail", "TaskFailed", "TaskError", "Task", "result_dep", "_law_tasks"]
abbrev rr := PySem.Challenge.rw_az0001_02.row.toRowW
noncomputable def Xt02 : Shared → Bool := fun s => xlAt vw [] s && recOk (RowW.records rr) s
noncomputable def HK : Hook := kHook KZ asZ asZ_eq
theorem size02 : ∀ w : World, ((boot_heap w.params).isNs mainGlobals && (Array.mk [] : Array GenState).size == 0, (boot_heap w.params).objs.size, (boot_heap w.params).nsMap mainGlobals "__annotations__") = (true, 11, annE) := by intro w; kernel_rfl
theorem body02 : behindTheImports pg = gr1 ++ (gr2 ++ (gr3 ++ (gr4 ++ (gr5 ++ (gr6 ++ (gr7 ++ (gr8 ++ []))))))) := by kernel_rfl
theorem run02 (w : World) (os : OsState) : topRun treeTable pg w 11 annE (12 + (1 + (679 + (948 + (326 + (678 + (757 + (704 + (655 + (643 + 2)))))))))) ⟨boot_heap w.params, Array.mk [], boot_drawn, boot_toks, os⟩ (topStub pg) = some (stZ w os) := by
  refine go_top (pre_go w os) (piece_block (block_go w os) ?_)
  rw [body02]
  exact piece_app (segRun_of (seg1 w os)) (piece_app (segRun_of (seg2 w os)) (piece_app (segRun_of (seg3 w os)) (piece_app (segRun_of (seg4 w os)) (piece_app (segRun_of (seg5 w os)) (piece_app (segRun_of (seg6 w os)) (piece_app (segRun_of (seg7 w os)) (piece_app (segRun_of (seg8 w os)) (piece_nil (fin_go w os)))))))))
theorem looks02 : ∀ w : World, (fun os => ((staticsOk (importedModules pg.main.body) (boot_heap w.params) (hpZ w.params) && namesBound pg (hpZ w.params) && gensDone (stZ w os) && laidKept (boot_heap w.params) (hpZ w.params)),
        openSeen vw lo (importedModules pg.main.body) Xt02 true (stZ w os), HK.obs (stZ w os))) = fun _ => (true, openGood vw lo, HK.val w) := by intro w; kernel_rfl
theorem left02 : LeftO rr.prog vw lo Xt02 HK.obs HK.val 10890 :=
  LeftO.of_pieces (H₀ := boot_heap) (H₁ := hpZ) (gs₀ := Array.mk []) (gs₁ := #[]) (d₀ := boot_drawn) (k₀ := boot_toks) (m₀ := 11) (ann := annE) (boot_open rfl rfl fun s => rfl) size02 run02 (by decide) looks02
theorem said02 : PySem.Challenge.rw_az0001_02.wellSaid = true := by kernel_rfl
theorem head02 (hw : rr.promised) (hc : ∀ d kwd, defOf vw "law" = some (d, kwd) → WalkO vw lo (XL vw []) HK.says rr d kwd fun f vs => PySem.call f vs) : PySem.Challenge.rw_az0001_02.Holds := by
  refine holds_law said02 fun said => ?_
  refine holds_open (q := vw) (loose := lo) (Xt := Xt02) (XP := XL vw []) (Yf := HK.obs) (Ya := HK.val) (YP := HK.says) (N := 10890) left02 (Hook.of HK) (Hook.keeps HK) (fun s e => xl_of s (Bool.and_eq_true_iff.mp e).1) XL.keeps (by rfl) (by rfl) (by rfl) (fun s e => recFacts_of (Bool.and_eq_true_iff.mp e).2) (by rfl) said (by decide +kernel) ⟨rfl, rfl, rfl, rfl, rfl, by decide +kernel⟩ hw (hc _ _ (by rfl))
end Mine

open PySem PySem.W PySem.Calls PyProof.Rows
set_option Elab.async false
set_option maxRecDepth 1000000
set_option maxHeartbeats 0
set_option autoImplicit false
namespace Mine
noncomputable abbrev cx (w : World) (mg mb : Str → Option Value) (h₀ : Heap) (stk : List Env) : Cx := ⟨pg, w, KZ w.params, mg, mb, h₀, stk⟩
noncomputable abbrev cMissingFile : Addr := 31
noncomputable abbrev aJsonDB___init__ : Addr := 55
theorem isD_JsonDB___init__ (P : Params) : IsDef (KZ P) 55 (Str.ofString "__init__") (Str.ofString "JsonDB.__init__") (fa [4, 0]) (subB (fS [4, 0])) (fs [4, 0]) Value.none Value.none Value.none (Value.str (Str.ofString "doit.dependency") 194) (Value.ref 54) Value.none (Value.type "function") Option.none Option.none #[] := ⟨by kernel_rfl, by kernel_rfl, by kernel_rfl, by kernel_rfl, by kernel_rfl, by decide +kernel⟩
noncomputable abbrev aJsonDB_dump : Addr := 62
theorem isD_JsonDB_dump (P : Params) : IsDef (KZ P) 62 (Str.ofString "dump") (Str.ofString "JsonDB.dump") (fa [4, 1]) (subB (fS [4, 1])) (fs [4, 1]) Value.none Value.none Value.none (Value.str (Str.ofString "doit.dependency") 194) (Value.ref 61) Value.none (Value.type "function") Option.none Option.none #[] := ⟨by kernel_rfl, by kernel_rfl, by kernel_rfl, by kernel_rfl, by kernel_rfl, by decide +kernel⟩
noncomputable abbrev aJsonDB_set : Addr := 69
theorem isD_JsonDB_set (P : Params) : IsDef (KZ P) 69 (Str.ofString "set") (Str.ofString "JsonDB.set") (fa [4, 2]) (subB (fS [4, 2])) (fs [4, 2]) Value.none Value.none Value.none (Value.str (Str.ofString "doit.dependency") 194) (Value.ref 68) Value.none (Value.type "function") Option.none Option.none #[] := ⟨by kernel_rfl, by kernel_rfl, by kernel_rfl, by kernel_rfl, by kernel_rfl, by decide +kernel⟩
noncomputable abbrev aJsonDB_get : Addr := 76
theorem isD_JsonDB_get (P : Params) : IsDef (KZ P) 76 (Str.ofString "get") (Str.ofString "JsonDB.get") (fa [4, 3]) (subB (fS [4, 3])) (fs [4, 3]) Value.none Value.none Value.none (Value.str (Str.ofString "doit.dependency") 194) (Value.ref 75) Value.none (Value.type "function") Option.none Option.none #[] := ⟨by kernel_rfl, by kernel_rfl, by kernel_rfl, by kernel_rfl, by kernel_rfl, by decide +kernel⟩
noncomputable abbrev cJsonDB : Addr := 100
noncomputable abbrev aFileChangedChecker___init__ : Addr := 118
theorem isD_FileChangedChecker___init__ (P : Params) : IsDef (KZ P) 118 (Str.ofString "__init__") (Str.ofString "FileChangedChecker.__init__") (fa [5, 1]) (subB (fS [5, 1])) (fs [5, 1]) Value.none Value.none Value.none (Value.str (Str.ofString "doit.dependency") 194) (Value.ref 117) Value.none (Value.type "function") Option.none Option.none #[] := ⟨by kernel_rfl, by kernel_rfl, by kernel_rfl, by kernel_rfl, by kernel_rfl, by decide +kernel⟩
noncomputable abbrev aFileChangedChecker_exists : Addr := 125
theorem isD_FileChangedChecker_exists (P : Params) : IsDef (KZ P) 125 (Str.ofString "exists") (Str.ofString "FileChangedChecker.exists") (fa [5, 2]) (subB (fS [5, 2])) (fs [5, 2]) Value.none Value.none Value.none (Value.str (Str.ofString "doit.dependency") 194) (Value.ref 124) Value.none (Value.type "function") Option.none Option.none #[] := ⟨by kernel_rfl, by kernel_rfl, by kernel_rfl, by kernel_rfl, by kernel_rfl, by decide +kernel⟩
noncomputable abbrev aFileChangedChecker_info : Addr := 132
theorem isD_FileChangedChecker_info (P : Params) : IsDef (KZ P) 132 (Str.ofString "info") (Str.ofString "FileChangedChecker.info") (fa [5, 3]) (subB (fS [5, 3])) (fs [5, 3]) Value.none Value.none Value.none (Value.str (Str.ofString "doit.dependency") 194) (Value.ref 131) Value.none (Value.type "function") Option.none Option.none #[] := ⟨by kernel_rfl, by kernel_rfl, by kernel_rfl, by kernel_rfl, by kernel_rfl, by decide +kernel⟩
noncomputable abbrev cFileChangedChecker : Addr := 149
noncomputable abbrev aMD5Checker_check_modified : Addr := 167
theorem isD_MD5Checker_check_modified (P : Params) : IsDef (KZ P) 167 (Str.ofString "check_modified") (Str.ofString "MD5Checker.check_modified") (fa [6, 1]) (subB (fS [6, 1])) (fs [6, 1]) Value.none Value.none Value.none (Value.str (Str.ofString "doit.dependency") 194) (Value.ref 166) Value.none (Value.type "function") Option.none Option.none #[] := ⟨by kernel_rfl, by kernel_rfl, by kernel_rfl, by kernel_rfl, by kernel_rfl, by decide +kernel⟩
noncomputable abbrev aMD5Checker_get_state : Addr := 174
theorem isD_MD5Checker_get_state (P : Params) : IsDef (KZ P) 174 (Str.ofString "get_state") (Str.ofString "MD5Checker.get_state") (fa [6, 2]) (subB (fS [6, 2])) (fs [6, 2]) Value.none Value.none Value.none (Value.str (Str.ofString "doit.dependency") 194) (Value.ref 173) Value.none (Value.type "function") Option.none Option.none #[] := ⟨by kernel_rfl, by kernel_rfl, by kernel_rfl, by kernel_rfl, by kernel_rfl, by decide +kernel⟩
noncomputable abbrev cMD5Checker : Addr := 177
noncomputable abbrev aTimestampChecker_check_modified : Addr := 193
theorem isD_TimestampChecker_check_modified (P : Params) : IsDef (KZ P) 193 (Str.ofString "check_modified") (Str.ofString "TimestampChecker.check_modified") (fa [7, 1]) (subB (fS [7, 1])) (fs [7, 1]) Value.none Value.none Value.none (Value.str (Str.ofString "doit.dependency") 194) (Value.ref 192) Value.none (Value.type "function") Option.none Option.none #[] := ⟨by kernel_rfl, by kernel_rfl, by kernel_rfl, by kernel_rfl, by kernel_rfl, by decide +kernel⟩
noncomputable abbrev aTimestampChecker_get_state : Addr := 200
theorem isD_TimestampChecker_get_state (P : Params) : IsDef (KZ P) 200 (Str.ofString "get_state") (Str.ofString "TimestampChecker.get_state") (fa [7, 2]) (subB (fS [7, 2])) (fs [7, 2]) Value.none Value.none Value.none (Value.str (Str.ofString "doit.dependency") 194) (Value.ref 199) Value.none (Value.type "function") Option.none Option.none #[] := ⟨by kernel_rfl, by kernel_rfl, by kernel_rfl, by kernel_rfl, by kernel_rfl, by decide +kernel⟩
noncomputable abbrev cTimestampChecker : Addr := 203
noncomputable abbrev aDependencyStatus___init__ : Addr := 219
theorem isD_DependencyStatus___init__ (P : Params) : IsDef (KZ P) 219 (Str.ofString "__init__") (Str.ofString "DependencyStatus.__init__") (fa [8, 0]) (subB (fS [8, 0])) (fs [8, 0]) Value.none Value.none Value.none (Value.str (Str.ofString "doit.dependency") 194) (Value.ref 218) Value.none (Value.type "function") Option.none Option.none #[] := ⟨by kernel_rfl, by kernel_rfl, by kernel_rfl, by kernel_rfl, by kernel_rfl, by decide +kernel⟩
noncomputable abbrev aDependencyStatus_add_reason : Addr := 227
theorem isD_DependencyStatus_add_reason (P : Params) : IsDef (KZ P) 227 (Str.ofString "add_reason") (Str.ofString "DependencyStatus.add_reason") (fa [8, 1]) (subB (fS [8, 1])) (fs [8, 1]) (Value.ref 220) Value.none Value.none (Value.str (Str.ofString "doit.dependency") 194) (Value.ref 226) Value.none (Value.type "function") Option.none Option.none #[] := ⟨by kernel_rfl, by kernel_rfl, by kernel_rfl, by kernel_rfl, by kernel_rfl, by decide +kernel⟩
noncomputable abbrev aDependencyStatus_set_reason : Addr := 234
theorem isD_DependencyStatus_set_reason (P : Params) : IsDef (KZ P) 234 (Str.ofString "set_reason") (Str.ofString "DependencyStatus.set_reason") (fa [8, 2]) (subB (fS [8, 2])) (fs [8, 2]) Value.none Value.none Value.none (Value.str (Str.ofString "doit.dependency") 194) (Value.ref 233) Value.none (Value.type "function") Option.none Option.none #[] := ⟨by kernel_rfl, by kernel_rfl, by kernel_rfl, by kernel_rfl, by kernel_rfl, by decide +kernel⟩
noncomputable abbrev cDependencyStatus : Addr := 244
noncomputable abbrev aDependency___init__ : Addr := 262
theorem isD_Dependency___init__ (P : Params) : IsDef (KZ P) 262 (Str.ofString "__init__") (Str.ofString "Dependency.__init__") (fa [9, 0]) (subB (fS [9, 0])) (fs [9, 0]) Value.none Value.none Value.none (Value.str (Str.ofString "doit.dependency") 194) (Value.ref 261) Value.none (Value.type "function") Option.none Option.none #[] := ⟨by kernel_rfl, by kernel_rfl, by kernel_rfl, by kernel_rfl, by kernel_rfl, by decide +kernel⟩
noncomputable abbrev aDependency__set : Addr := 269
theorem isD_Dependency__set (P : Params) : IsDef (KZ P) 269 (Str.ofString "_set") (Str.ofString "Dependency._set") (fa [9, 1]) (subB (fS [9, 1])) (fs [9, 1]) Value.none Value.none Value.none (Value.str (Str.ofString "doit.dependency") 194) (Value.ref 268) Value.none (Value.type "function") Option.none Option.none #[] := ⟨by kernel_rfl, by kernel_rfl, by kernel_rfl, by kernel_rfl, by kernel_rfl, by decide +kernel⟩
noncomputable abbrev aDependency__get : Addr := 276
theorem isD_Dependency__get (P : Params) : IsDef (KZ P) 276 (Str.ofString "_get") (Str.ofString "Dependency._get") (fa [9, 2]) (subB (fS [9, 2])) (fs [9, 2]) Value.none Value.none Value.none (Value.str (Str.ofString "doit.dependency") 194) (Value.ref 275) Value.none (Value.type "function") Option.none Option.none #[] := ⟨by kernel_rfl, by kernel_rfl, by kernel_rfl, by kernel_rfl, by kernel_rfl, by decide +kernel⟩
noncomputable abbrev aDependency_close : Addr := 304
theorem isD_Dependency_close (P : Params) : IsDef (KZ P) 304 (Str.ofString "close") (Str.ofString "Dependency.close") (fa [9, 6]) (subB (fS [9, 6])) (fs [9, 6]) Value.none Value.none Value.none (Value.str (Str.ofString "doit.dependency") 194) (Value.ref 303) Value.none (Value.type "function") Option.none Option.none #[] := ⟨by kernel_rfl, by kernel_rfl, by kernel_rfl, by kernel_rfl, by kernel_rfl, by decide +kernel⟩
noncomputable abbrev aDependency_save_success : Addr := 312
theorem isD_Dependency_save_success (P : Params) : IsDef (KZ P) 312 (Str.ofString "save_success") (Str.ofString "Dependency.save_success") (fa [9, 7]) (subB (fS [9, 7])) (fs [9, 7]) (Value.ref 305) Value.none Value.none (Value.str (Str.ofString "doit.dependency") 194) (Value.ref 311) Value.none (Value.type "function") Option.none Option.none #[] := ⟨by kernel_rfl, by kernel_rfl, by kernel_rfl, by kernel_rfl, by kernel_rfl, by decide +kernel⟩
noncomputable abbrev aDependency_get_status : Addr := 360
theorem isD_Dependency_get_status (P : Params) : IsDef (KZ P) 360 (Str.ofString "get_status") (Str.ofString "Dependency.get_status") (fa [9, 14]) (subB (fS [9, 14])) (fs [9, 14]) (Value.ref 355) Value.none Value.none (Value.str (Str.ofString "doit.dependency") 194) (Value.ref 359) Value.none (Value.type "function") Option.none Option.none #[] := ⟨by kernel_rfl, by kernel_rfl, by kernel_rfl, by kernel_rfl, by kernel_rfl, by decide +kernel⟩
noncomputable abbrev cDependency : Addr := 363
noncomputable abbrev cUptodateCalculator : Addr := 398
noncomputable abbrev cInvalidTask : Addr := 412
noncomputable abbrev cCatchedException : Addr := 439
noncomputable abbrev cBaseFail : Addr := 453
noncomputable abbrev cTaskFailed : Addr := 465
noncomputable abbrev cTaskError : Addr := 477
noncomputable abbrev aTask___init__ : Addr := 500
theorem isD_Task___init__ (P : Params) : IsDef (KZ P) 500 (Str.ofString "__init__") (Str.ofString "Task.__init__") (fa [18, 0]) (subB (fS [18, 0])) (fs [18, 0]) (Value.ref 493) Value.none Value.none (Value.str (Str.ofString "doit.task") 815) (Value.ref 499) Value.none (Value.type "function") Option.none Option.none #[] := ⟨by kernel_rfl, by kernel_rfl, by kernel_rfl, by kernel_rfl, by kernel_rfl, by decide +kernel⟩
noncomputable abbrev aTask__init_deps : Addr := 507
theorem isD_Task__init_deps (P : Params) : IsDef (KZ P) 507 (Str.ofString "_init_deps") (Str.ofString "Task._init_deps") (fa [18, 1]) (subB (fS [18, 1])) (fs [18, 1]) Value.none Value.none Value.none (Value.str (Str.ofString "doit.task") 815) (Value.ref 506) Value.none (Value.type "function") Option.none Option.none #[] := ⟨by kernel_rfl, by kernel_rfl, by kernel_rfl, by kernel_rfl, by kernel_rfl, by decide +kernel⟩
noncomputable abbrev aTask__init_targets : Addr := 514
theorem isD_Task__init_targets (P : Params) : IsDef (KZ P) 514 (Str.ofString "_init_targets") (Str.ofString "Task._init_targets") (fa [18, 2]) (subB (fS [18, 2])) (fs [18, 2]) Value.none Value.none Value.none (Value.str (Str.ofString "doit.task") 815) (Value.ref 513) Value.none (Value.type "function") Option.none Option.none #[] := ⟨by kernel_rfl, by kernel_rfl, by kernel_rfl, by kernel_rfl, by kernel_rfl, by decide +kernel⟩
noncomputable abbrev aTask__init_uptodate : Addr := 521
theorem isD_Task__init_uptodate (P : Params) : IsDef (KZ P) 521 (Str.ofString "_init_uptodate") (Str.ofString "Task._init_uptodate") (fa [18, 3]) (subB (fS [18, 3])) (fs [18, 3]) Value.none Value.none Value.none (Value.str (Str.ofString "doit.task") 815) (Value.ref 520) Value.none (Value.type "function") Option.none Option.none #[] := ⟨by kernel_rfl, by kernel_rfl, by kernel_rfl, by kernel_rfl, by kernel_rfl, by decide +kernel⟩
noncomputable abbrev aTask__expand_file_dep : Addr := 528
theorem isD_Task__expand_file_dep (P : Params) : IsDef (KZ P) 528 (Str.ofString "_expand_file_dep") (Str.ofString "Task._expand_file_dep") (fa [18, 4]) (subB (fS [18, 4])) (fs [18, 4]) Value.none Value.none Value.none (Value.str (Str.ofString "doit.task") 815) (Value.ref 527) Value.none (Value.type "function") Option.none Option.none #[] := ⟨by kernel_rfl, by kernel_rfl, by kernel_rfl, by kernel_rfl, by kernel_rfl, by decide +kernel⟩
noncomputable abbrev aTask_init_options : Addr := 564
theorem isD_Task_init_options (P : Params) : IsDef (KZ P) 564 (Str.ofString "init_options") (Str.ofString "Task.init_options") (fa [18, 9]) (subB (fS [18, 9])) (fs [18, 9]) (Value.ref 557) Value.none Value.none (Value.str (Str.ofString "doit.task") 815) (Value.ref 563) Value.none (Value.type "function") Option.none Option.none #[] := ⟨by kernel_rfl, by kernel_rfl, by kernel_rfl, by kernel_rfl, by kernel_rfl, by decide +kernel⟩
noncomputable abbrev aTask_execute : Addr := 583
theorem isD_Task_execute (P : Params) : IsDef (KZ P) 583 (Str.ofString "execute") (Str.ofString "Task.execute") (fa [18, 12]) (subB (fS [18, 12])) (fs [18, 12]) Value.none Value.none Value.none (Value.str (Str.ofString "doit.task") 815) (Value.ref 582) Value.none (Value.type "function") Option.none Option.none #[] := ⟨by kernel_rfl, by kernel_rfl, by kernel_rfl, by kernel_rfl, by kernel_rfl, by decide +kernel⟩
noncomputable abbrev cTask : Addr := 586
noncomputable abbrev cresult_dep : Addr := 643
noncomputable abbrev a_law_files : Addr := 652
theorem isD__law_files (P : Params) : IsDef (KZ P) 652 (Str.ofString "_law_files") (Str.ofString "_law_files") (fa [21]) (subB (fS [21])) (fs [21]) Value.none Value.none Value.none (Value.str (Str.ofString "law_az0001_02") 1053) (Value.ref 651) Value.none (Value.type "function") Option.none Option.none #[] := ⟨by kernel_rfl, by kernel_rfl, by kernel_rfl, by kernel_rfl, by kernel_rfl, by decide +kernel⟩
noncomputable abbrev a_law_held : Addr := 659
theorem isD__law_held (P : Params) : IsDef (KZ P) 659 (Str.ofString "_law_held") (Str.ofString "_law_held") (fa [22]) (subB (fS [22])) (fs [22]) Value.none Value.none Value.none (Value.str (Str.ofString "law_az0001_02") 1053) (Value.ref 658) Value.none (Value.type "function") Option.none Option.none #[] := ⟨by kernel_rfl, by kernel_rfl, by kernel_rfl, by kernel_rfl, by kernel_rfl, by decide +kernel⟩
noncomputable abbrev a_law_asked : Addr := 676
theorem isD__law_asked (P : Params) : IsDef (KZ P) 676 (Str.ofString "_law_asked") (Str.ofString "_law_asked") (fa [24]) (subB (fS [24])) (fs [24]) Value.none Value.none Value.none (Value.str (Str.ofString "law_az0001_02") 1053) (Value.ref 675) Value.none (Value.type "function") Option.none Option.none #[] := ⟨by kernel_rfl, by kernel_rfl, by kernel_rfl, by kernel_rfl, by kernel_rfl, by decide +kernel⟩
noncomputable abbrev a_law_due : Addr := 681
theorem isD__law_due (P : Params) : IsDef (KZ P) 681 (Str.ofString "_law_due") (Str.ofString "_law_due") (fa [25]) (subB (fS [25])) (fs [25]) Value.none Value.none Value.none (Value.str (Str.ofString "law_az0001_02") 1053) (Value.ref 680) Value.none (Value.type "function") Option.none Option.none #[] := ⟨by kernel_rfl, by kernel_rfl, by kernel_rfl, by kernel_rfl, by kernel_rfl, by decide +kernel⟩
noncomputable abbrev a_law_step : Addr := 688
theorem isD__law_step (P : Params) : IsDef (KZ P) 688 (Str.ofString "_law_step") (Str.ofString "_law_step") (fa [26]) (subB (fS [26])) (fs [26]) Value.none Value.none Value.none (Value.str (Str.ofString "law_az0001_02") 1053) (Value.ref 687) Value.none (Value.type "function") Option.none Option.none #[] := ⟨by kernel_rfl, by kernel_rfl, by kernel_rfl, by kernel_rfl, by kernel_rfl, by decide +kernel⟩
noncomputable abbrev alaw : Addr := 693
theorem isD_law (P : Params) : IsDef (KZ P) 693 (Str.ofString "law") (Str.ofString "law") (fa [27]) (subB (fS [27])) (fs [27]) Value.none Value.none Value.none (Value.str (Str.ofString "law_az0001_02") 1053) (Value.ref 692) Value.none (Value.type "function") Option.none Option.none #[] := ⟨by kernel_rfl, by kernel_rfl, by kernel_rfl, by kernel_rfl, by kernel_rfl, by decide +kernel⟩

end Mine

open PySem PySem.W PySem.Calls PyProof.Rows
set_option Elab.async false
set_option maxRecDepth 100000
set_option maxHeartbeats 2000000
set_option autoImplicit false
namespace Mine
set_option hygiene false
local macro_rules | `(tactic| walk_at "b1") => `(tactic| (intro s xs ks _ _ va vk; cases vk; rcases va with _ | ⟨a1, va⟩; cases va; exact ⟨_, BindsTo.of_eq rfl, .cons a1 .nil⟩))
local macro_rules | `(tactic| walk_at "b2") => `(tactic| (intro s xs ks _ _ va vk; cases vk; rcases va with _ | ⟨a1, va⟩; rcases va with _ | ⟨a2, va⟩; cases va; exact ⟨_, BindsTo.of_eq rfl, .cons a1 (.cons a2 .nil)⟩))
local macro_rules | `(tactic| walk_at "b3") => `(tactic| (intro s xs ks _ _ va vk; cases vk; rcases va with _ | ⟨a1, va⟩; rcases va with _ | ⟨a2, va⟩; rcases va with _ | ⟨a3, va⟩; cases va; exact ⟨_, BindsTo.of_eq rfl, .cons a1 (.cons a2 (.cons a3 .nil))⟩))
local macro_rules | `(tactic| walk_at "b4") => `(tactic| (intro s xs ks _ _ va vk; cases vk; rcases va with _ | ⟨a1, va⟩; rcases va with _ | ⟨a2, va⟩; rcases va with _ | ⟨a3, va⟩; rcases va with _ | ⟨a4, va⟩; cases va; exact ⟨_, BindsTo.of_eq rfl, .cons a1 (.cons a2 (.cons a3 (.cons a4 .nil)))⟩))
local macro_rules | `(tactic| walk_at "l") => `(tactic| first | rfl | assumption)
local macro_rules | `(tactic| walk_at "ne") => `(tactic| first | assumption | (refine Ne.symm ?_; assumption))
local macro_rules | `(tactic| walk_at "st") => `(tactic| first | assumption | exact Store.set_same _ _ _ | (refine Store.set_old ?_ ?_; walk_at "st"; assumption) | (refine (Store.set_ne ?_).trans ?_; walk_at "ne"; walk_at "st"))
noncomputable def okAt (K : Frag) (C : Addr) (n : Str) : Bool := plainGet K C n && hasDictIn K C && (match findIn K (.ref C) n with | some none => true | _ => false)
noncomputable def okMeth (K : Frag) (C : Addr) (n : Str) (fm : Addr) : Bool := plainGet K C n && (match findIn K (.ref C) n with | some (some (.ref a)) => Nat.beq a fm | _ => false) && isFn K (.ref fm) && keepIn K (.ref fm)
noncomputable def okSet (K : Frag) (C : Addr) (n : Str) : Bool := (match findIn K (.ref C) "__setattr__" with | some (some (.builtin b)) => b == "object.__setattr__" | _ => false) && plainOver K C && (match takerIn K C n with | some none => true | _ => false) && hasDictIn K C
section
variable {c : Cx} {f : Fn} {ℓ : Locs} {σ : Store}
theorem op_at {x C dx : Addr} {es : Es} {name : Str} {v : AV} {Φ : AV → Store → Prop} (hx : σ x = some (.inst C dx)) (hd : σ dx = some (.dict es)) (hv : es.get name = some v)
    (k : okAt c.K C name = true) (hi : handedA v = true) (q : Φ v σ) : Op c f ℓ σ [.ref x] (ap1 fun o => getAttr o name true) Φ := by
  unfold okAt at k
  simp only [Bool.and_eq_true] at k
  obtain ⟨⟨k1, k2⟩, k3⟩ := k
  split at k3
  · rename_i e
    exact op_attr hx hd hv k1 k2 e (by rfl) hi q
  · cases k3
theorem meth_at {x C dx fm : Addr} {es : Es} {name : Str} {P : Value → Prop} (hx : σ x = some (.inst C dx)) (hd : σ dx = some (.dict es)) (hv : es.get name = none)
    (k : okMeth c.K C name fm = true) (q : P (.ref fm)) : ∃ g, MethOf c σ (.ref x) name g ∧ CalleeOk c g ∧ P g := by
  unfold okMeth at k
  simp only [Bool.and_eq_true] at k
  obtain ⟨⟨⟨k1, k2⟩, k3⟩, k4⟩ := k
  split at k2
  · rename_i a e
    cases Nat.eq_of_beq_eq_true k2
    exact ⟨_, meth_inst hx hd hv k1 e k3, .inl k4, q⟩
  · cases k2
theorem op_set {x C dx : Addr} {es : Es} {name : Str} {v : AV} {Φ : Store → Prop} (hx : σ x = some (.inst C dx)) (hd : σ dx = some (.dict es))
    (k : okSet c.K C name = true) (hz : es.length ≤ 1000)
    (q : Φ (σ.set dx (.dict (es.put name v)))) : OpU c f ℓ σ [.ref x, v] (ap2 fun o v => setAttr o name v) Φ := by
  unfold okSet at k
  simp only [Bool.and_eq_true] at k
  obtain ⟨⟨⟨k1, k2⟩, k3⟩, k4⟩ := k
  split at k1
  · rename_i b e
    split at k3
    · rename_i e'
      simp only [beq_iff_eq] at k1
      subst k1
      exact opu_setattr hx hd e k2 e' k4 hz q
    · cases k3
  · cases k1
end

/-- a db of dicts: what each task's dict holds; the addresses it owns -/
noncomputable abbrev Db := Str → Option Es
noncomputable def Db.put (D : Db) (t k : Str) (v : AV) : Db := fun t' => if t' = t then some (((D t).getD []).put k v) else D t'
noncomputable def Db.get (D : Db) (t k : Str) : Option AV := (D t).bind fun d => d.get k
structure DbAt (σ : Store) (a : Addr) (D : Db) (N : Nat) (F : Addr → Prop) : Prop where
  own : F a
  at_ : ∃ es : Es, σ a = some (.dict es) ∧ es.length ≤ N ∧ (∀ t, D t = none → es.get t = none) ∧
    (∀ t d, D t = some d → ∃ i, es.get t = some (.ref i) ∧ F i ∧ i ≠ a ∧ σ i = some (.dict d) ∧ d.length ≤ N) ∧ (∀ t t' i, es.get t = some (.ref i) → es.get t' = some (.ref i) → t = t')
noncomputable def Grow (σ : Store) (F F' : Addr → Prop) : Prop := (∀ b, F b → F' b) ∧ ∀ b, F' b → F b ∨ σ b = none
noncomputable def Keep (F : Addr → Prop) (σ σ' : Store) : Prop := ∀ b, σ b ≠ none → ¬ F b → σ' b = σ b
theorem Keep.get {F : Addr → Prop} {σ σ' : Store} (k : Keep F σ σ') {b : Addr} {o : AO} (h : σ b = some o) (n : ¬ F b) : σ' b = some o := (k b (by rw [h]; simp) n).trans h
theorem Grow.not {F F' : Addr → Prop} {σ : Store} (g : Grow σ F F') {b : Addr} {o : AO} (h : σ b = some o) (n : ¬ F b) : ¬ F' b := fun x => by
  rcases g.2 b x with y | y
  · exact n y
  · rw [h] at y; cases y
theorem Keep.trans {F F' : Addr → Prop} {σ σ' σ'' : Store} (x : Keep F σ σ') (g : Grow σ F F') (y : Keep F' σ' σ'') : Keep F σ σ'' := fun b e n => by
  cases q : σ b with
  | none => exact absurd q e
  | some o =>
    have e' := x.get q n
    exact (y.get e' (g.not q n)).trans rfl
theorem Grow.refl {F : Addr → Prop} {σ : Store} : Grow σ F F := ⟨fun _ x => x, fun _ x => .inl x⟩
theorem Keep.refl {F : Addr → Prop} {σ : Store} : Keep F σ σ := fun _ _ _ => rfl
theorem Keep.up {F F' : Addr → Prop} {σ σ' : Store} (x : Keep F σ σ') (h : ∀ b, F b → F' b) : Keep F' σ σ' := fun b e n => x b e fun y => n (h b y)
theorem Grow.trans {F F' F'' : Addr → Prop} {σ σ' : Store} (x : Grow σ F F') (y : Grow σ' F' F'') (s : ∀ b, σ b ≠ none → σ' b ≠ none) : Grow σ F F'' :=
  ⟨fun b q => y.1 b (x.1 b q), fun b q => by
    rcases y.2 b q with z | z
    · exact x.2 b z
    · exact .inr (Classical.byContradiction fun e => s b e z)⟩
theorem Es.put_len (es : Es) (k : Str) (v : AV) : (es.put k v).length ≤ es.length + 1 := by
  unfold Es.put
  split <;> simp
theorem Es.put_new {es : Es} {k : Str} {v : AV} (h : es.get k = none) : es.put k v = es ++ [(k, v)] := by
  have e : es.has k = false := by rw [Es.has_get, h]; rfl
  unfold Es.put
  rw [e]; rfl
section
variable {w : World} {mg mb : Str → Option Value} {h₀ : Heap} {stk : List Env} {σ : Store} {d : Nat} {hf : Bool}

theorem JsonDB_init {x dx : Addr} {es : Es} {v : AV} {Φ : AV → Store → Prop} (hx : σ x = some (.inst cJsonDB dx)) (hd : σ dx = some (.dict es)) (hz : es.length ≤ 1000) (φ : Φ .none (σ.set dx (.dict (es.put "_db" v)))) :
    Ca (cx w mg mb h₀ stk) (d + 1) hf σ (.val (.ref aJsonDB___init__)) [.ref x, v] [] Φ := by
  refine ca_def (isD_JsonDB___init__ w.params) (ab := [("self", .ref x), ("db", v)]) (by walk_at "b2") (by kernel_rfl) fun stk' => ?_
  refine ss_cons (st_assign (ev_local (by rfl) (by rfl) (as_attr (ev_local (by rfl) (by rfl) (op_set hx hd (by kernel_rfl) hz ?_)))))
  exact ss_nil φ
theorem JsonDB_dump {x : Addr} {Φ : AV → Store → Prop} (φ : Φ .none σ) : Ca (cx w mg mb h₀ stk) (d + 1) hf σ (.val (.ref aJsonDB_dump)) [.ref x] [] Φ := by
  refine ca_def (isD_JsonDB_dump w.params) (ab := [("self", .ref x)]) (by walk_at "b1") (by kernel_rfl) fun stk' => ?_
  exact ss_cons (st_return (ev_none φ))

theorem JsonDB_get {x dx a : Addr} {es : Es} {D : Db} {N : Nat} {F : Addr → Prop} {t k : Str} {Φ : AV → Store → Prop} (hx : σ x = some (.inst cJsonDB dx)) (hd : σ dx = some (.dict es)) (he : es.get "_db" = some (.ref a))
    (hD : DbAt σ a D N F) (φ : Φ ((D.get t k).getD .none) σ) : Ca (cx w mg mb h₀ stk) (d + 1) hf σ (.val (.ref aJsonDB_get)) [.ref x, .str t, .str k] [] Φ := by
  obtain ⟨fa, des, hda, hlen, hnone, hsome, hinj⟩ := hD
  refine ca_def (isD_JsonDB_get w.params) (ab := [("self", .ref x), ("task_id", .str t), ("dependency", .str k)]) (by walk_at "b3") (by kernel_rfl) fun stk' => ?_
  refine ss_cons (st_if (te_cmp (ev_local (by rfl) (by rfl) (ev_attr (ev_local (by rfl) (by rfl) (op_at hx hd he (by kernel_rfl) (by rfl) (op_in hda ⟨_, rfl, ?_⟩)))))))
  cases hDt : D t with
  | none =>
    have h0 : des.has t = false := by rw [Es.has_get, hnone t hDt]; rfl
    rw [h0]
    refine ss_nil (ss_nil ?_)
    have : D.get t k = none := by unfold Db.get; rw [hDt]; rfl
    rw [this] at φ
    exact φ
  | some dd =>
    obtain ⟨i, hi, fi, nia, hσi, hl⟩ := hsome t dd hDt
    have h0 : des.has t = true := by rw [Es.has_get, hi]; rfl
    rw [h0]
    have e : D.get t k = dd.get k := by unfold Db.get; rw [hDt]; rfl
    rw [e] at φ
    exact ss_cons (st_return (ev_meth (ev_sub (ev_attr (ev_local (by rfl) (by rfl) (op_at hx hd he (by kernel_rfl) (by rfl) (ev_local (by rfl) (by rfl) (op_sub_dict (fun _ _ => rfl) hda hi ⟨_, meth_dict hσi PySem.F.slot_dict_get PySem.F.type_dict_get, cok, ev_local (by rfl) (by rfl) (ev_none (cw_get hσi φ))⟩))))))))
end

section
variable {w : World} {mg mb : Str → Option Value} {h₀ : Heap} {stk : List Env} {σ : Store} {d : Nat} {hf : Bool}
theorem DbAt.put_old {a : Addr} {D : Db} {N : Nat} {F : Addr → Prop} {t k : Str} {v : AV} {dd : Es} {es : Es} {i : Addr} (fa : F a) (hda : σ a = some (.dict es)) (hlen : es.length ≤ N) (hnone : ∀ t, D t = none → es.get t = none)
    (hsome : ∀ t d, D t = some d → ∃ i, es.get t = some (.ref i) ∧ F i ∧ i ≠ a ∧ σ i = some (.dict d) ∧ d.length ≤ N) (hinj : ∀ t t' i, es.get t = some (.ref i) → es.get t' = some (.ref i) → t = t')
    (hDt : D t = some dd) (hi : es.get t = some (.ref i)) (fi : F i) (nia : i ≠ a) (hl : dd.length ≤ N) : DbAt (σ.set i (.dict (dd.put k v))) a (D.put t k v) (N + 1) F := by
  refine ⟨fa, es, ?_, by omega, fun t' h => ?_, fun t' d' h => ?_, hinj⟩
  · rw [Store.set_ne nia.symm]; exact hda
  · unfold Db.put at h
    split at h
    · cases h
    · exact hnone t' h
  · unfold Db.put at h
    split at h
    · rename_i e
      subst e
      rw [hDt] at h
      cases h
      exact ⟨i, hi, fi, nia, Store.set_same .., Nat.le_trans (Es.put_len ..) (by simp; omega)⟩
    · rename_i ne
      obtain ⟨j, hj, fj, nj, sj, lj⟩ := hsome t' d' h
      refine ⟨j, hj, fj, nj, ?_, by omega⟩
      rw [Store.set_ne]
      · exact sj
      · rintro rfl
        exact ne (hinj _ _ _ hj hi)

theorem JsonDB_set {x dx a : Addr} {es : Es} {D : Db} {N : Nat} {F : Addr → Prop} {t k : Str} {v : AV} {Φ : AV → Store → Prop} (hx : σ x = some (.inst cJsonDB dx)) (hd : σ dx = some (.dict es)) (he : es.get "_db" = some (.ref a))
    (hD : DbAt σ a D N F) (nx : ¬ F x) (ndx : ¬ F dx) (hN : N ≤ 900) (φ : ∀ σ' F', DbAt σ' a (D.put t k v) (N + 1) F' → Grow σ F F' → Keep F σ σ' → (∀ b, σ b ≠ none → σ' b ≠ none) → Φ .none σ') : Ca (cx w mg mb h₀ stk) (d + 1) hf σ (.val (.ref aJsonDB_set)) [.ref x, .str t, .str k, v] [] Φ := by
  obtain ⟨fa, des, hda, hlen, hnone, hsome, hinj⟩ := hD
  refine ca_def (isD_JsonDB_set w.params) (ab := [("self", .ref x), ("task_id", .str t), ("dependency", .str k), ("value", v)]) (by walk_at "b4") (by kernel_rfl) fun stk' => ?_
  refine ss_cons (st_if (te_cmp (ev_local (by rfl) (by rfl) (ev_attr (ev_local (by rfl) (by rfl) (op_at hx hd he (by kernel_rfl) (by rfl) (op_notin hda ⟨_, rfl, ?_⟩)))))))
  cases hDt : D t with
  | none =>
    have g0 := hnone t hDt
    have h0 : des.has t = false := by rw [Es.has_get, g0]; rfl
    rw [h0]
    refine ss_cons (st_assign (ev_dict_nil fun i hi => as_sub (ev_attr (ev_local (by rfl) (by rfl) (op_at (Store.set_old hx hi) (Store.set_old hd hi) he (by kernel_rfl) (by rfl) (ev_local (by rfl) (by rfl) (opu_set_dict (Store.set_old hda hi) (by omega) ?_)))))))
    refine ss_nil ?_
    have nia : i ≠ a := by rintro rfl; rw [hda] at hi; cases hi
    have nix : i ≠ x := by rintro rfl; rw [hx] at hi; cases hi
    have nidx : i ≠ dx := by rintro rfl; rw [hd] at hi; cases hi
    have nax : a ≠ x := by rintro rfl; exact nx fa
    have nadx : a ≠ dx := by rintro rfl; exact ndx fa
    have hx' : ((σ.set i (.dict [])).set a (.dict (des.put t (.ref i)))) x = some (.inst cJsonDB dx) := by rw [Store.set_ne nax.symm, Store.set_ne nix.symm]; exact hx
    have hd' : ((σ.set i (.dict [])).set a (.dict (des.put t (.ref i)))) dx = some (.dict es) := by rw [Store.set_ne nadx.symm, Store.set_ne nidx.symm]; exact hd
    have ha' : ((σ.set i (.dict [])).set a (.dict (des.put t (.ref i)))) a = some (.dict (des.put t (.ref i))) := Store.set_same ..
    have hi' : ((σ.set i (.dict [])).set a (.dict (des.put t (.ref i)))) i = some (.dict []) := by rw [Store.set_ne nia]; exact Store.set_same ..
    have hg : (des.put t (.ref i)).get t = some (.ref i) := Es.get_put_same ..
    refine ss_cons (st_assign (ev_local (by rfl) (by rfl) (as_sub (ev_sub (ev_attr (ev_local (by rfl) (by rfl) (op_at hx' hd' he (by kernel_rfl) (by rfl) (ev_local (by rfl) (by rfl) (op_sub_dict (fun _ _ => rfl) ha' hg (ev_local (by rfl) (by rfl) (opu_set_dict hi' (by simp) ?_)))))))))))
    refine ss_nil ?_
    have sub : ∀ b, σ b ≠ none → (((σ.set i (.dict [])).set a (.dict (des.put t (.ref i)))).set i (.dict (Es.put [] k v))) b ≠ none := fun b hb => Store.set_some (Store.set_some (Store.set_some hb))
    refine φ _ (fun b => F b ∨ b = i) ⟨.inl fa, des.put t (.ref i), ?_, Nat.le_trans (Es.put_len ..) (by omega), fun t' h => ?_, fun t' d' h => ?_, fun t₁ t₂ j h₁ h₂ => ?_⟩ ⟨fun b x => .inl x, fun b x => (show F b ∨ b = i from x).imp id fun (e : b = i) => by rw [e]; exact hi⟩ (fun b hb nb => ?_) sub
    · rw [Store.set_ne nia.symm]; exact ha'
    · unfold Db.put at h
      split at h
      · cases h
      · rename_i ne
        rw [Es.get_put_ne _ _ ne]; exact hnone t' h
    · unfold Db.put at h
      split at h
      · rename_i e
        subst e
        rw [hDt] at h
        cases h
        refine ⟨i, hg, .inr rfl, nia, Store.set_same .., Nat.le_trans (Es.put_len ..) (by simp)⟩
      · rename_i ne
        obtain ⟨j, hj, fj, nj, sj, lj⟩ := hsome t' d' h
        have nji : j ≠ i := by rintro rfl; rw [hi] at sj; cases sj
        refine ⟨j, by rw [Es.get_put_ne _ _ ne]; exact hj, .inl fj, nj, ?_, by omega⟩
        rw [Store.set_ne nji, Store.set_ne nj, Store.set_ne nji]; exact sj
    · have no : ∀ t', t' ≠ t → des.get t' = some (.ref i) → False := fun t' _ h => by
        cases hq : D t' with
        | none => rw [hnone t' hq] at h; cases h
        | some d' =>
          obtain ⟨j, hj, _, _, sj, _⟩ := hsome t' d' hq
          rw [hj] at h; cases h
          rw [hi] at sj; cases sj
      rw [Es.get_put] at h₁ h₂
      split at h₁ <;> split at h₂
      · rename_i e e'; rw [e, e']
      · rename_i e e'; cases h₁; exact (no _ e' h₂).elim
      · rename_i e e'; cases h₂; exact (no _ e h₁).elim
      · exact hinj _ _ _ h₁ h₂
    · have n1 : b ≠ i := by rintro rfl; exact hb hi
      have n2 : b ≠ a := by rintro rfl; exact nb fa
      rw [Store.set_ne n1, Store.set_ne n2, Store.set_ne n1]
  | some dd =>
    obtain ⟨i, hi, fi, nia, hσi, hl⟩ := hsome t dd hDt
    have h0 : des.has t = true := by rw [Es.has_get, hi]; rfl
    rw [h0]
    refine ss_nil ?_
    refine ss_cons (st_assign (ev_local (by rfl) (by rfl) (as_sub (ev_sub (ev_attr (ev_local (by rfl) (by rfl) (op_at hx hd he (by kernel_rfl) (by rfl) (ev_local (by rfl) (by rfl) (op_sub_dict (fun _ _ => rfl) hda hi (ev_local (by rfl) (by rfl) (opu_set_dict hσi (by omega) ?_)))))))))))
    refine ss_nil (φ _ F (DbAt.put_old fa hda hlen hnone hsome hinj hDt hi fi nia hl) .refl (fun b _ nb => Store.set_ne (by rintro rfl; exact nb fi)) fun b hb => Store.set_some hb)

/-- a Dependency: its backend, its checker -/
structure DepAt (σ : Store) (x : Addr) (es : Es) (dx y dy a ch : Addr) : Prop where
  x : σ x = some (.inst cDependency dx)
  dx : σ dx = some (.dict es)
  back : es.get "backend" = some (.ref y)
  chk : es.get "checker" = some (.ref ch)
  set : es.get "_set" = none
  get : es.get "_get" = none
  y : σ y = some (.inst cJsonDB dy)
  dy : σ dy = some (.dict [("_db", .ref a)])
theorem DepAt.keep {σ' : Store} {x dx y dy a ch : Addr} {es : Es} {F : Addr → Prop} (D : DepAt σ x es dx y dy a ch) (k : Keep F σ σ') (n : ¬ F x ∧ ¬ F dx ∧ ¬ F y ∧ ¬ F dy) : DepAt σ' x es dx y dy a ch :=
  ⟨k.get D.x n.1, k.get D.dx n.2.1, D.back, D.chk, D.set, D.get, k.get D.y n.2.2.1, k.get D.dy n.2.2.2⟩
theorem Dependency_set {x dx y dy a ch : Addr} {es : Es} {D : Db} {N : Nat} {F : Addr → Prop} {t k : Str} {v : AV} {Φ : AV → Store → Prop} (hx : DepAt σ x es dx y dy a ch)
    (hD : DbAt σ a D N F) (nx : ¬ F x ∧ ¬ F dx ∧ ¬ F y ∧ ¬ F dy) (hN : N ≤ 900) (φ : ∀ σ' F', DbAt σ' a (D.put t k v) (N + 1) F' → Grow σ F F' → Keep F σ σ' → (∀ b, σ b ≠ none → σ' b ≠ none) → Φ .none σ') :
    Ca (cx w mg mb h₀ stk) (d + 2) hf σ (.val (.ref aDependency__set)) [.ref x, .str t, .str k, v] [] Φ := by
  refine ca_def (isD_Dependency__set w.params) (ab := [("self", .ref x), ("task_id", .str t), ("dependency", .str k), ("value", v)]) (by walk_at "b4") (by kernel_rfl) fun stk' => ?_
  refine ss_cons (st_expr (ev_meth (ev_attr (ev_local (by rfl) (by rfl) (op_at hx.x hx.dx hx.back (by kernel_rfl) (by rfl) (meth_at (fm := aJsonDB_set) hx.y hx.dy (by rfl) (by kernel_rfl) ?_))))))
  refine ev_local (by rfl) (by rfl) (ev_local (by rfl) (by rfl) (ev_local (by rfl) (by rfl) (Ca.cw (JsonDB_set hx.y hx.dy (by rfl) hD nx.2.2.1 nx.2.2.2 hN fun σ' F' q g kp s => ?_))))
  exact ss_nil (φ σ' F' q g kp s)
theorem Dependency_get {x dx y dy a ch : Addr} {es : Es} {D : Db} {N : Nat} {F : Addr → Prop} {t k : Str} {Φ : AV → Store → Prop} (hx : DepAt σ x es dx y dy a ch)
    (hD : DbAt σ a D N F) (φ : Φ ((D.get t k).getD .none) σ) :
    Ca (cx w mg mb h₀ stk) (d + 2) hf σ (.val (.ref aDependency__get)) [.ref x, .str t, .str k] [] Φ := by
  refine ca_def (isD_Dependency__get w.params) (ab := [("self", .ref x), ("task_id", .str t), ("dependency", .str k)]) (by walk_at "b3") (by kernel_rfl) fun stk' => ?_
  refine ss_cons (st_return (ev_meth (ev_attr (ev_local (by rfl) (by rfl) (op_at hx.x hx.dx hx.back (by kernel_rfl) (by rfl) (meth_at (fm := aJsonDB_get) hx.y hx.dy (by rfl) (by kernel_rfl) ?_))))))
  exact ev_local (by rfl) (by rfl) (ev_local (by rfl) (by rfl) (Ca.cw (JsonDB_get hx.y hx.dy (by rfl) hD φ)))
theorem Dependency_close {x dx y dy a ch : Addr} {es : Es} {Φ : AV → Store → Prop} (hx : DepAt σ x es dx y dy a ch) (hc : es.get "_closed" = some (.bool false)) (hz : es.length ≤ 1000) (φ : Φ .none (σ.set dx (.dict (es.put "_closed" (.bool true))))) :
    Ca (cx w mg mb h₀ stk) (d + 2) hf σ (.val (.ref aDependency_close)) [.ref x] [] Φ := by
  refine ca_def (isD_Dependency_close w.params) (ab := [("self", .ref x)]) (by walk_at "b1") (by kernel_rfl) fun stk' => ?_
  refine ss_cons (st_if (te_not (te_val (ev_attr (ev_local (by rfl) (by rfl) (op_at hx.x hx.dx hc (by kernel_rfl) (by rfl) (tr_bool ?_)))))))
  refine ss_cons (st_expr (ev_meth (ev_attr (ev_local (by rfl) (by rfl) (op_at hx.x hx.dx hx.back (by kernel_rfl) (by rfl) (meth_at (fm := aJsonDB_dump) hx.y hx.dy (by rfl) (by kernel_rfl) (Ca.cw (JsonDB_dump ?_))))))))
  refine ss_cons (st_assign (ev_bool (as_attr (ev_local (by rfl) (by rfl) (op_set hx.x hx.dx (by kernel_rfl) hz ?_)))))
  exact ss_nil (ss_nil φ)
theorem Dependency_init {x dx y ch : Addr} {Φ : AV → Store → Prop} (hx : σ x = some (.inst cDependency dx)) (hd : σ dx = some (.dict [])) (ne : x ≠ dx)
    (φ : Φ .none (σ.set dx (.dict [("_closed", .bool false), ("checker", .ref ch), ("backend", .ref y)]))) :
    Ca (cx w mg mb h₀ stk) (d + 1) hf σ (.val (.ref aDependency___init__)) [.ref x, .ref y, .ref ch] [] Φ := by
  refine ca_def (isD_Dependency___init__ w.params) (ab := [("self", .ref x), ("backend", .ref y), ("checker", .ref ch)]) (by walk_at "b3") (by kernel_rfl) fun stk' => ?_
  refine ss_cons (st_assign (ev_bool (as_attr (ev_local (by rfl) (by rfl) (op_set hx hd (by kernel_rfl) (by simp) ?_)))))
  refine ss_cons (st_assign (ev_local (by rfl) (by rfl) (as_attr (ev_local (by rfl) (by rfl) (op_set ((Store.set_ne ne).trans hx) (Store.set_same ..) (by kernel_rfl) (Nat.le_of_ble_eq_true rfl) ?_)))))
  refine ss_cons (st_assign (ev_local (by rfl) (by rfl) (as_attr (ev_local (by rfl) (by rfl) (op_set ((Store.set_ne ne).trans ((Store.set_ne ne).trans hx)) (Store.set_same ..) (by kernel_rfl) (Nat.le_of_ble_eq_true rfl) ?_)))))
  refine ss_nil ?_
  have e : ∀ (o₁ o₂ o₃ : AO), ((σ.set dx o₁).set dx o₂).set dx o₃ = σ.set dx o₃ := fun _ _ _ => by
    funext b; unfold Store.set; split <;> rfl
  rw [e]
  exact φ
end

section
variable {w : World} {mg mb : Str → Option Value} {h₀ : Heap} {stk : List Env} {σ : Store} {d : Nat} {hf : Bool}
/-- what the world holds of a path -/
structure We where
  ts : Int
  sz : Int
  tx : Str
noncomputable def We.av (e : We) : AV := .tup [.int e.ts, .int e.sz, .str e.tx]
noncomputable def isChk (C : Addr) : Prop := C = cMD5Checker ∨ C = cTimestampChecker
structure ChkAt (σ : Store) (x C dx aw : Addr) (wes : Es) : Prop where
  x : σ x = some (.inst C dx)
  dx : σ dx = some (.dict [("files", .ref aw)])
  aw : σ aw = some (.dict wes)
theorem Checker_init {x dx aw C : Addr} {Φ : AV → Store → Prop} (hC : isChk C) (hx : σ x = some (.inst C dx)) (hd : σ dx = some (.dict []))
    (φ : Φ .none (σ.set dx (.dict [("files", .ref aw)]))) :
    Ca (cx w mg mb h₀ stk) (d + 1) hf σ (.val (.ref aFileChangedChecker___init__)) [.ref x, .ref aw] [] Φ := by
  refine ca_def (isD_FileChangedChecker___init__ w.params) (ab := [("self", .ref x), ("files", .ref aw)]) (by walk_at "b2") (by kernel_rfl) fun stk' => ?_
  refine ss_cons (st_assign (ev_local (by rfl) (by rfl) (as_attr (ev_local (by rfl) (by rfl) (op_set hx hd (by rcases hC with rfl | rfl <;> kernel_rfl) (by simp) ?_)))))
  exact ss_nil φ
theorem Checker_exists {x C dx aw : Addr} {wes : Es} {p : Str} {Φ : AV → Store → Prop} (hC : isChk C) (hx : ChkAt σ x C dx aw wes) (φ : Φ (.bool (wes.has p)) σ) :
    Ca (cx w mg mb h₀ stk) (d + 1) hf σ (.val (.ref aFileChangedChecker_exists)) [.ref x, .str p] [] Φ := by
  refine ca_def (isD_FileChangedChecker_exists w.params) (ab := [("self", .ref x), ("file_path", .str p)]) (by walk_at "b2") (by kernel_rfl) fun stk' => ?_
  exact ss_cons (st_return (ev_cmp (ev_local (by rfl) (by rfl) (ev_attr (ev_local (by rfl) (by rfl) (op_at hx.x hx.dx (by rfl) (by rcases hC with rfl | rfl <;> kernel_rfl) (by rfl) (op_in hx.aw φ)))))))
theorem Checker_info {x C dx aw : Addr} {wes : Es} {p : Str} {e : We} {Φ : AV → Store → Prop} (hC : isChk C) (hx : ChkAt σ x C dx aw wes) (hp : wes.get p = some e.av) (φ : Φ e.av σ) :
    Ca (cx w mg mb h₀ stk) (d + 1) hf σ (.val (.ref aFileChangedChecker_info)) [.ref x, .str p] [] Φ := by
  refine ca_def (isD_FileChangedChecker_info w.params) (ab := [("self", .ref x), ("file_path", .str p)]) (by walk_at "b2") (by kernel_rfl) fun stk' => ?_
  refine ss_cons (st_if (te_cmp (ev_local (by rfl) (by rfl) (ev_attr (ev_local (by rfl) (by rfl) (op_at hx.x hx.dx (by rfl) (by rcases hC with rfl | rfl <;> kernel_rfl) (by rfl) (op_notin hx.aw ⟨_, rfl, ?_⟩)))))))
  have h : wes.has p = true := by rw [Es.has_get, hp]; rfl
  rw [h]
  refine ss_nil ?_
  exact ss_cons (st_return (ev_sub (ev_attr (ev_local (by rfl) (by rfl) (op_at hx.x hx.dx (by rfl) (by rcases hC with rfl | rfl <;> kernel_rfl) (by rfl) (ev_local (by rfl) (by rfl) (op_sub_dict (fun _ _ => rfl) hx.aw hp φ)))))))
theorem excMF : ExcC (cx w mg mb h₀ stk) "MissingFile" cMissingFile := ⟨by kernel_rfl, by kernel_rfl⟩
theorem Checker_info_miss {x C dx aw : Addr} {wes : Es} {p : Str} (hC : isChk C) (hx : ChkAt σ x C dx aw wes) (hp : wes.get p = none) :
    CaR (cx w mg mb h₀ stk) (d + 1) true σ (.val (.ref aFileChangedChecker_info)) [.ref x, .str p] cMissingFile := by
  refine car_def (isD_FileChangedChecker_info w.params) (ab := [("self", .ref x), ("file_path", .str p)]) (by walk_at "b2") (by kernel_rfl) rfl fun stk' => ?_
  have h : wes.has p = false := by rw [Es.has_get, hp]; rfl
  refine trm_if (te_cmp (ev_local (by rfl) (by rfl) (ev_attr (ev_local (by rfl) (by rfl) (op_at hx.x hx.dx (by rfl) (by rcases hC with rfl | rfl <;> kernel_rfl) (by rfl) (op_notin hx.aw ⟨_, rfl, ?_, rfl⟩)))))) ?_
  · rw [h]; rfl
  · exact trm_raise excMF (by rfl) (by rfl) (ev_local (by rfl) (by rfl) rfl)

theorem TS_modified {x : Addr} {p : Str} {e : We} {ts : Int} {Φ : AV → Store → Prop} (φ : Φ (.bool (e.ts != ts)) σ) :
    Ca (cx w mg mb h₀ stk) (d + 1) hf σ (.val (.ref aTimestampChecker_check_modified)) [.ref x, .str p, e.av, .int ts] [] Φ := by
  refine ca_def (isD_TimestampChecker_check_modified w.params) (ab := [("self", .ref x), ("file_path", .str p), ("file_stat", e.av), ("state", .int ts)]) (by walk_at "b4") (by kernel_rfl) fun stk' => ?_
  exact ss_cons (st_return (ev_cmp (ev_sub (ev_local (by rfl) (by rfl) (ev_int (op_sub_tup (v := .int e.ts) (fun _ _ => rfl) (by decide) (by decide) (by rfl) (ev_local (by rfl) (by rfl) (op_ne_int φ))))))))
theorem MD5_modified {x C dx aw : Addr} {wes : Es} {p : Str} {e s : We} {Φ : AV → Store → Prop} (hx : ChkAt σ x cMD5Checker dx aw wes) (hp : wes.get p = some e.av) (φ : Φ (.bool (if e.ts = s.ts then false else if e.sz = s.sz then s.tx != e.tx else true)) σ) :
    Ca (cx w mg mb h₀ stk) (d + 2) true σ (.val (.ref aMD5Checker_check_modified)) [.ref x, .str p, e.av, s.av] [] Φ := by
  refine ca_def (isD_MD5Checker_check_modified w.params) (ab := [("self", .ref x), ("file_path", .str p), ("file_stat", e.av), ("state", s.av)]) (by walk_at "b4") (by kernel_rfl) fun stk' => ?_
  refine ss_cons (st_assign (ev_local (by rfl) (by rfl) (as_tuple rfl (vs := [.int s.ts, .int s.sz, .str s.tx]) (by rfl) (as_local (by rfl) (as_local (by rfl) (as_local (by rfl) ?_))))))
  refine ss_cons (st_if (te_cmp (ev_sub (ev_local (by rfl) (by rfl) (ev_int (op_sub_tup (v := .int e.ts) (fun _ _ => rfl) (by decide) (by decide) (by rfl) (ev_local (by rfl) (by rfl) (op_eq_int ⟨_, rfl, ?_⟩))))))))
  by_cases h : e.ts = s.ts
  · rw [show (e.ts == s.ts) = true by simp [h]]
    rw [if_pos h] at φ
    exact ss_cons (st_return (ev_bool φ))
  · rw [show (e.ts == s.ts) = false by simp [h]]
    rw [if_neg h] at φ
    refine ss_nil ?_
    refine ss_cons (st_if (te_cmp (ev_sub (ev_local (by rfl) (by rfl) (ev_int (op_sub_tup (v := .int e.sz) (fun _ _ => rfl) (by decide) (by decide) (by rfl) (ev_local (by rfl) (by rfl) (op_ne_int ⟨_, rfl, ?_⟩))))))))
    by_cases h' : e.sz = s.sz
    · rw [show (e.sz != s.sz) = false by simp [h']]
      rw [if_pos h'] at φ
      refine ss_nil ?_
      refine ss_cons (st_return (ev_cmp (ev_local (by rfl) (by rfl) (ev_sub (ev_meth (ev_local (by rfl) (by rfl) (meth_at (fm := aFileChangedChecker_info) hx.x hx.dx (by rfl) (by kernel_rfl) ?_)))))))
      exact ev_local (by rfl) (by rfl) (Ca.cw (Checker_info (.inl rfl) hx hp (ev_int (op_sub_tup (v := .str e.tx) (fun _ _ => rfl) (by decide) (by decide) (by rfl) (op_ne_str φ)))))
    · rw [show (e.sz != s.sz) = true by simp [h']]
      rw [if_neg h'] at φ
      exact ss_cons (st_return (ev_bool φ))
theorem TS_state {x dx aw : Addr} {wes : Es} {p : Str} {e : We} {v : AV} {Φ : AV → Store → Prop} (hx : ChkAt σ x cTimestampChecker dx aw wes) (hp : wes.get p = some e.av) (φ : Φ (.int e.ts) σ) :
    Ca (cx w mg mb h₀ stk) (d + 2) hf σ (.val (.ref aTimestampChecker_get_state)) [.ref x, .str p, v] [] Φ := by
  refine ca_def (isD_TimestampChecker_get_state w.params) (ab := [("self", .ref x), ("dep", .str p), ("current_state", v)]) (by walk_at "b3") (by kernel_rfl) fun stk' => ?_
  refine ss_cons (st_return (ev_sub (ev_meth (ev_local (by rfl) (by rfl) (meth_at (fm := aFileChangedChecker_info) hx.x hx.dx (by rfl) (by kernel_rfl) ?_)))))
  exact ev_local (by rfl) (by rfl) (Ca.cw (Checker_info (.inr rfl) hx hp (ev_int (op_sub_tup (v := .int e.ts) (fun _ _ => rfl) (by decide) (by decide) (by rfl) φ))))
noncomputable def tl : List Stmt → List Stmt | _ :: r => r | [] => []
noncomputable def stAV : Option We → AV
  | none => .none
  | some s => s.av
theorem MD5_state {x dx aw : Addr} {wes : Es} {p : Str} {e : We} {s : Option We} {Φ : AV → Store → Prop} (hx : ChkAt σ x cMD5Checker dx aw wes) (hp : wes.get p = some e.av) (φ : Φ (if s.map We.ts = some e.ts then .none else e.av) σ) :
    Ca (cx w mg mb h₀ stk) (d + 2) hf σ (.val (.ref aMD5Checker_get_state)) [.ref x, .str p, stAV s] [] Φ := by
  have info : ∀ {stk' : List Env} {d : Nat} {hf : Bool} {Ψ : AV → Store → Prop}, Ψ e.av σ → Ca (cx w mg mb h₀ stk') (d + 1) hf σ (.val (.ref aFileChangedChecker_info)) [.ref x, .str p] [] Ψ := fun q => Checker_info (.inl rfl) hx hp q
  refine ca_def (isD_MD5Checker_get_state w.params) (ab := [("self", .ref x), ("dep", .str p), ("current_state", stAV s)]) (by walk_at "b3") (by kernel_rfl) fun stk' => ?_
  refine ss_cons (st_assign (ev_sub (ev_meth (ev_local (by rfl) (by rfl) (meth_at (fm := aFileChangedChecker_info) hx.x hx.dx (by rfl) (by kernel_rfl) ?_)))))
  refine ev_local (by rfl) (by rfl) (Ca.cw (info (ev_int (op_sub_tup (v := .int e.ts) (fun _ _ => rfl) (by decide) (by decide) (by rfl) (as_local (by rfl) ?_)))))
  have fin : ∀ {ℓ : Locs}, ℓ "self" = some (.ref x) → ℓ "dep" = some (.str p) → ℓ "timestamp" = some (.int e.ts) → Φ e.av σ → Ss ((cx w mg mb h₀ stk).on stk') ⟨"MD5Checker.get_state" ++ ".<locals>.", fs [6, 2], some aMD5Checker_get_state, .ref 173, d + 1, hf⟩ ℓ σ (tl (tl (subB (fS [6, 2])))) (fun r _ σ' => Φ (retv r) σ') := by
    intro ℓ l1 l2 l3 φ
    refine ss_cons (st_assign (ev_sub (ev_meth (ev_local (by rfl) l1 (meth_at (fm := aFileChangedChecker_info) hx.x hx.dx (by rfl) (by kernel_rfl) ?_)))))
    refine ev_local (by rfl) l2 (Ca.cw (info (ev_int (op_sub_tup (v := .int e.sz) (fun _ _ => rfl) (by decide) (by decide) (by rfl) (as_local (by rfl) ?_)))))
    refine ss_cons (st_assign (ev_sub (ev_meth (ev_local (by rfl) l1 (meth_at (fm := aFileChangedChecker_info) hx.x hx.dx (by rfl) (by kernel_rfl) ?_)))))
    refine ev_local (by rfl) l2 (Ca.cw (info (ev_int (op_sub_tup (v := .str e.tx) (fun _ _ => rfl) (by decide) (by decide) (by rfl) (as_local (by rfl) ?_)))))
    exact ss_cons (st_return (ev_tuple (ev_local (by rfl) l3 (ev_local (by rfl) (by rfl) (ev_local (by rfl) (by rfl) ⟨by simp, φ⟩)))))
  cases s with
  | none =>
    refine ss_cons (st_if (te_and ?_))
    refine te_val (ev_local (by rfl) (by rfl) (tr_none ?_))
    exact ss_nil (fin (by rfl) (by rfl) (by rfl) φ)
  | some s =>
    refine ss_cons (st_if (te_and ?_))
    refine te_val (ev_local (by rfl) (by rfl) (tr_tup (vs := [.int s.ts, .int s.sz, .str s.tx]) (by simp) ?_))
    refine te_cmp (ev_sub (ev_local (by rfl) (by rfl) (ev_int (op_sub_tup (v := .int s.ts) (fun _ _ => rfl) (by decide) (by decide) (by rfl) (ev_local (by rfl) (by rfl) (op_eq_int ⟨_, rfl, ?_⟩))))))
    by_cases h : s.ts = e.ts
    · rw [show (s.ts == e.ts) = true by simp [h]]
      rw [if_pos (by simp [h])] at φ
      exact ss_cons (st_return_none φ)
    · rw [show (s.ts == e.ts) = false by simp [h]]
      rw [if_neg (by simpa using h)] at φ
      exact ss_nil (fin (by rfl) (by rfl) (by rfl) φ)
end

theorem ne_of {σ : Store} {a b : Addr} {o : AO} (h : σ a = some o) (n : σ b = none) : b ≠ a := by rintro rfl; rw [h] at n; cases n
section
variable {w : World} {mg mb : Str → Option Value} {h₀ : Heap} {stk : List Env} {σ : Store} {d : Nat} {hf : Bool}
noncomputable def dsEs (st : Str) (rs : Addr) (er : AV) : Es := [("get_log", .bool false), ("status", .str st), ("reasons", .ref rs), ("error_reason", er)]
theorem Status_init {x dx : Addr} {Φ : AV → Store → Prop} (hx : σ x = some (.inst cDependencyStatus dx)) (hd : σ dx = some (.dict [])) (ne : x ≠ dx)
    (φ : ∀ rs σ', σ' x = some (.inst cDependencyStatus dx) → σ' dx = some (.dict (dsEs "up-to-date" rs .none)) → Keep (· = dx) σ σ' → (∀ b, σ b ≠ none → σ' b ≠ none) → Φ .none σ') :
    Ca (cx w mg mb h₀ stk) (d + 1) hf σ (.val (.ref aDependencyStatus___init__)) [.ref x, .bool false] [] Φ := by
  refine ca_def (isD_DependencyStatus___init__ w.params) (ab := [("self", .ref x), ("get_log", .bool false)]) (by walk_at "b2") (by kernel_rfl) fun stk' => ?_
  refine ss_cons (st_assign (ev_local (by rfl) (by rfl) (as_attr (ev_local (by rfl) (by rfl) (op_set hx hd (by kernel_rfl) (by simp) ?_)))))
  refine ss_cons (st_assign (ev_str (as_attr (ev_local (by rfl) (by rfl) (op_set (by walk_at "st") (by walk_at "st") (by kernel_rfl) (Nat.le_of_ble_eq_true rfl) ?_)))))
  refine ss_cons (st_assign (ev_dict_nil fun rs hrs => as_attr (ev_local (by rfl) (by rfl) (op_set (by walk_at "st") (by walk_at "st") (by kernel_rfl) (Nat.le_of_ble_eq_true rfl) ?_))))
  have nr : rs ≠ dx := ne_of (Store.set_same _ _ _) hrs
  have nx : rs ≠ x := ne_of ((Store.set_ne ne).trans ((Store.set_ne ne).trans hx)) hrs
  refine ss_cons (st_assign (ev_none (as_attr (ev_local (by rfl) (by rfl) (op_set (by walk_at "st") (by walk_at "st") (by kernel_rfl) (Nat.le_of_ble_eq_true rfl) ?_)))))
  refine ss_nil (φ rs _ (by walk_at "st") (Store.set_same _ _ _) (fun b hb nb => ?_) fun b hb => Store.set_some (Store.set_some (Store.set_some (Store.set_some (Store.set_some hb)))))
  have nb' : b ≠ dx := nb
  have nbr : b ≠ rs := by rintro rfl; exact hb (((Store.set_ne nb').trans (Store.set_ne nb')).symm.trans hrs)
  rw [Store.set_ne nb', Store.set_ne nb', Store.set_ne nbr, Store.set_ne nb', Store.set_ne nb']
theorem Status_add {x dx rs : Addr} {st s' r : Str} {er v : AV} {Φ : AV → Store → Prop} (hx : σ x = some (.inst cDependencyStatus dx)) (hd : σ dx = some (.dict (dsEs st rs er))) (ne : x ≠ dx)
    (φ : Φ (.bool true) (σ.set dx (.dict (dsEs s' rs er)))) (as : List AV) (has : (as = [.ref x, .str r, v] ∧ s' = "run") ∨ as = [.ref x, .str r, v, .str s']) :
    Ca (cx w mg mb h₀ stk) (d + 1) hf σ (.val (.ref aDependencyStatus_add_reason)) as [] Φ := by
  refine ca_def (isD_DependencyStatus_add_reason w.params) (ab := [("self", .ref x), ("reason", .str r), ("arg", v), ("status", .str s')]) ?_ (by kernel_rfl) fun stk' => ?_
  · intro s xs ks ok kb va vk
    have X := Frag.In.keeps ok.X kb
    cases vk
    rcases has with ⟨rfl, rfl⟩ | rfl
    · rcases va with _ | ⟨a1, va⟩; rcases va with _ | ⟨a2, va⟩; rcases va with _ | ⟨a3, va⟩; cases va
      exact ⟨_, kp_binds X (fun S => by kernel_rfl), .cons a1 (.cons a2 (.cons a3 (.cons (.str _ 467) .nil)))⟩
    · rcases va with _ | ⟨a1, va⟩; rcases va with _ | ⟨a2, va⟩; rcases va with _ | ⟨a3, va⟩; rcases va with _ | ⟨a4, va⟩; cases va
      exact ⟨_, kp_binds X (fun S => by rfl), .cons a1 (.cons a2 (.cons a3 (.cons a4 .nil)))⟩
  · refine ss_cons (st_assign (ev_local (by rfl) (by rfl) (as_attr (ev_local (by rfl) (by rfl) (op_set hx hd (by kernel_rfl) (Nat.le_of_ble_eq_true rfl) ?_)))))
    refine ss_cons (st_if (te_val (ev_attr (ev_local (by rfl) (by rfl) (op_at (v := .bool false) (by walk_at "st") (Store.set_same _ _ _) (by rfl) (by kernel_rfl) (by rfl) (tr_bool ?_))))))
    refine ss_nil ?_
    exact ss_cons (st_return (ev_not (ev_attr (ev_local (by rfl) (by rfl) (op_at (v := .bool false) (by walk_at "st") (Store.set_same _ _ _) (by rfl) (by kernel_rfl) (by rfl) (tr_bool φ))))))
theorem Status_set {x dx rs : Addr} {st r : Str} {er v : AV} {Φ : AV → Store → Prop} (hx : σ x = some (.inst cDependencyStatus dx)) (hd : σ dx = some (.dict (dsEs st rs er))) (ne : x ≠ dx)
    (φ : Φ (.bool true) (σ.set dx (.dict (dsEs "run" rs er)))) :
    Ca (cx w mg mb h₀ stk) (d + 1) hf σ (.val (.ref aDependencyStatus_set_reason)) [.ref x, .str r, v] [] Φ := by
  refine ca_def (isD_DependencyStatus_set_reason w.params) (ab := [("self", .ref x), ("reason", .str r), ("arg", v)]) (by walk_at "b3") (by kernel_rfl) fun stk' => ?_
  refine ss_cons (st_assign (ev_str (as_attr (ev_local (by rfl) (by rfl) (op_set hx hd (by kernel_rfl) (Nat.le_of_ble_eq_true rfl) ?_)))))
  refine ss_cons (st_if (te_val (ev_attr (ev_local (by rfl) (by rfl) (op_at (v := .bool false) (by walk_at "st") (Store.set_same _ _ _) (by rfl) (by kernel_rfl) (by rfl) (tr_bool ?_))))))
  refine ss_nil ?_
  exact ss_cons (st_return (ev_not (ev_attr (ev_local (by rfl) (by rfl) (op_at (v := .bool false) (by walk_at "st") (Store.set_same _ _ _) (by rfl) (by kernel_rfl) (by rfl) (tr_bool φ))))))
end

theorem not_mem_take {x : Str} : ∀ {l : List Str} {i : Nat}, l.Nodup → l[i]? = some x → x ∉ l.take i
  | [], _, _, e => by simp at e
  | y :: r, 0, _, _ => by simp
  | y :: r, i + 1, h, e => by
    rw [List.nodup_cons] at h
    simp only [List.getElem?_cons_succ] at e
    rw [List.take_succ_cons, List.mem_cons]
    rintro (rfl | m)
    · exact h.1 (List.mem_of_getElem? e)
    · exact not_mem_take h.2 e m
theorem any_false {x : Str} {l : List Str} (h : x ∉ l) : l.any (· == x) = false := by
  rw [List.any_eq_false]
  rintro y hy e
  rw [beq_iff_eq] at e
  exact h (e ▸ hy)
theorem strs_at {ss : List Str} {i : Nat} {v : AV} (e : (strsA ss)[i]? = some v) : ∃ s, v = .str s ∧ ss[i]? = some s := by
  rw [List.getElem?_map] at e
  cases h : ss[i]? with
  | none => rw [h] at e; cases e
  | some s => rw [h] at e; cases e; exact ⟨s, rfl, rfl⟩
theorem strs_take {ss : List Str} {i : Nat} {s : Str} (e : ss[i]? = some s) : strsA (ss.take i) ++ [.str s] = strsA (ss.take (i + 1)) := by
  simp only [strsA, List.take_add_one, e, List.map_append]; rfl
theorem Store.set_set {σ : Store} {a : Addr} {o o' : AO} : (σ.set a o).set a o' = σ.set a o' := by
  funext b; unfold Store.set; split <;> rfl
theorem Store.set_self {σ : Store} {a : Addr} {o : AO} (h : σ a = some o) : σ.set a o = σ := by
  funext b; unfold Store.set; split
  · rename_i e; rw [e, h]
  · rfl
/-- a list of the heap that stood before -/
noncomputable def BaseL (h₀ : Heap) (l : Addr) (vs : List AV) : Prop := ∃ xs n, h₀.get? l = some (listObj xs n) ∧ ∀ h, (∀ b o, h₀.get? b = some o → h.get? b = some o) → VRs h vs xs.toList
section
variable {w : World} {mg mb : Str → Option Value} {h₀ : Heap} {stk : List Env} {σ : Store} {d : Nat} {hf : Bool}
theorem BaseL.is {l : Addr} {vs : List AV} (b : BaseL h₀ l vs) : ListIs (cx w mg mb h₀ stk) σ l vs := .inr b
theorem glob_str_type : bootBuiltins "str" = some (.type "str") := by decide +kernel
theorem glob_isinstance : bootBuiltins "isinstance" = some (.builtin "isinstance") := by decide +kernel
theorem glob_list : bootBuiltins "list" = some (.type "list") := by decide +kernel
theorem glob_tuple : bootBuiltins "tuple" = some (.type "tuple") := by decide +kernel
theorem glob_set : bootBuiltins "set" = some (.type "set") := by decide +kernel
theorem glob_dict : bootBuiltins "dict" = some (.type "dict") := by decide +kernel
theorem glob_len : bootBuiltins "len" = some (.builtin "len") := by decide +kernel
theorem Task_expand {x dx fl l : Addr} {es : Es} {deps : List Str} {Φ : AV → Store → Prop} (hx : σ x = some (.inst cTask dx)) (hd : σ dx = some (.dict es)) (hfl : es.get "file_dep" = some (.ref fl)) (hl : BaseL h₀ l (strsA deps)) (hσ : σ fl = some (.list []))
    (nd : deps.Nodup) (hz : deps.length ≤ 900) (φ : Φ .none (σ.set fl (.list (strsA deps)))) :
    Ca (cx w mg mb h₀ stk) (d + 1) true σ (.val (.ref aTask__expand_file_dep)) [.ref x, .ref l] [] Φ := by
  have nx : x ≠ fl := by rintro rfl; rw [hx] at hσ; cases hσ
  have ndx : dx ≠ fl := by rintro rfl; rw [hd] at hσ; cases hσ
  refine ca_def (isD_Task__expand_file_dep w.params) (ab := [("self", .ref x), ("file_dep", .ref l)]) (by walk_at "b2") (by kernel_rfl) fun stk' => ?_
  refine ss_cons (st_for rfl (itr_list (ev_local (by rfl) (by rfl) ⟨l, _, rfl, hl.is, quiet_name _ _ _,
    fun i ℓ σ' => ℓ "self" = some (.ref x) ∧ σ' = σ.set fl (.list (strsA (deps.take i))), ⟨by rfl, by rw [List.take_zero]; exact (Store.set_self hσ).symm⟩, fun _ _ _ _ => hl.is, ?_, ?_⟩)))
  · rintro i v ℓ _ hv ⟨l1, rfl⟩
    obtain ⟨s, rfl, hs⟩ := strs_at hv
    refine as_local (by rfl) ?_
    have hx' : (σ.set fl (.list (strsA (deps.take i)))) x = some (.inst cTask dx) := (Store.set_ne nx).trans hx
    have hd' : (σ.set fl (.list (strsA (deps.take i)))) dx = some (.dict es) := (Store.set_ne ndx).trans hd
    have hl' : (σ.set fl (.list (strsA (deps.take i)))) fl = some (.list (strsA (deps.take i))) := Store.set_same ..
    refine ss_cons (st_if (te_val (ev_call (ev_builtin (by rfl) (by kernel_rfl) glob_isinstance ⟨_, rfl, cok, ev_local (by rfl) (by rfl) (ev_builtin (by rfl) (by kernel_rfl) glob_str_type (cw_isi_str (tr_bool ?_)))⟩))))
    refine ss_cons (st_if (te_cmp (ev_local (by rfl) (by rfl) (ev_attr (ev_local (by rfl) l1 (op_at hx' hd' hfl (by kernel_rfl) (by rfl) (op_notin_list (.inl hl') ⟨_, rfl, ?_⟩)))))))
    rw [any_false (not_mem_take nd hs)]
    refine ss_cons (st_expr (ev_meth (ev_attr (ev_local (by rfl) l1 (op_at hx' hd' hfl (by kernel_rfl) (by rfl) ⟨_, meth_list (.inl hl') PySem.F.slot_list_append PySem.F.type_list_append, cok, ev_local (by rfl) (by rfl) (cw_append hl' (by simp; omega) ?_)⟩)))))
    refine ss_nil (ss_nil (ss_nil ⟨l1, ?_⟩))
    rw [Store.set_set, strs_take hs]
  · rintro ℓ _ ⟨-, rfl⟩
    refine ss_nil ?_
    rw [show (strsA deps).length = deps.length by simp, List.take_length]
    exact φ
theorem Task_targets {x l : Addr} {ts : List Str} {Φ : AV → Store → Prop} (hl : BaseL h₀ l (strsA ts)) (hz : ts.length ≤ 900) (φ : ∀ a, σ a = none → Φ (.ref a) (σ.set a (.list (strsA ts)))) :
    Ca (cx w mg mb h₀ stk) (d + 1) true σ (.val (.ref aTask__init_targets)) [.ref x, .ref l] [] Φ := by
  refine ca_def (isD_Task__init_targets w.params) (ab := [("self", .ref x), ("items", .ref l)]) (by walk_at "b2") (by kernel_rfl) fun stk' => ?_
  refine ss_cons (st_assign (ev_list ⟨by simp, fun a ha => as_local (by rfl) ?_⟩))
  refine ss_cons (st_for rfl (itr_list (ev_local (by rfl) (by rfl) ⟨l, _, rfl, hl.is, quiet_name _ _ _,
    fun i ℓ σ' => ℓ "targets" = some (.ref a) ∧ σ' = σ.set a (.list (strsA (ts.take i))), ⟨by rfl, by rw [List.take_zero]; rfl⟩, fun _ _ _ _ => hl.is, ?_, ?_⟩)))
  · rintro i v ℓ _ hv ⟨l1, rfl⟩
    obtain ⟨s, rfl, hs⟩ := strs_at hv
    refine as_local (by rfl) ?_
    have hl' : (σ.set a (.list (strsA (ts.take i)))) a = some (.list (strsA (ts.take i))) := Store.set_same ..
    refine ss_cons (st_if (te_val (ev_call (ev_builtin (by rfl) (by kernel_rfl) glob_isinstance ⟨_, rfl, cok, ev_local (by rfl) (by rfl) (ev_builtin (by rfl) (by kernel_rfl) glob_str_type (cw_isi_str (tr_bool ?_)))⟩))))
    refine ss_cons (st_expr (ev_meth (ev_local (by rfl) l1 ⟨_, meth_list (.inl hl') PySem.F.slot_list_append PySem.F.type_list_append, cok, ev_local (by rfl) (by rfl) (cw_append hl' (by simp; omega) ?_)⟩)))
    refine ss_nil (ss_nil ⟨l1, ?_⟩)
    rw [Store.set_set, strs_take hs]
  · rintro ℓ _ ⟨l1, rfl⟩
    refine ss_cons (st_return (ev_local (by rfl) l1 ?_))
    rw [show (strsA ts).length = ts.length by simp, List.take_length]
    exact φ a ha
theorem Task_uptodate {x l : Addr} {Φ : AV → Store → Prop} (hl : σ l = some (.list [])) (φ : ∀ a, σ a = none → Φ (.ref a) (σ.set a (.list []))) :
    Ca (cx w mg mb h₀ stk) (d + 1) true σ (.val (.ref aTask__init_uptodate)) [.ref x, .ref l] [] Φ := by
  refine ca_def (isD_Task__init_uptodate w.params) (ab := [("self", .ref x), ("items", .ref l)]) (by walk_at "b2") (by kernel_rfl) fun stk' => ?_
  refine ss_cons (st_assign (ev_list ⟨by simp, fun a ha => as_local (by rfl) ?_⟩))
  have hl' : (σ.set a (.list [])) l = some (.list []) := Store.set_old hl ha
  refine ss_cons (st_for rfl (itr_list (ev_local (by rfl) (by rfl) ⟨l, [], rfl, .inl hl', quiet_name _ _ _,
    fun i ℓ σ' => ℓ "uptodate" = some (.ref a) ∧ σ' = σ.set a (.list []), ⟨by rfl, rfl⟩, fun _ _ _ h => by rw [h.2]; exact .inl hl', fun _ _ _ _ h => by simp at h, ?_⟩)))
  rintro ℓ _ ⟨l1, rfl⟩
  exact ss_cons (st_return (ev_local (by rfl) l1 (φ a ha)))
end

structure Ext (F : Addr → Prop) (σ σ' : Store) : Prop where
  keep : Keep F σ σ'
  live : ∀ b, σ b ≠ none → σ' b ≠ none
section
variable {F F' : Addr → Prop} {σ σ' σ'' : Store} {a b : Addr} {o : AO}
theorem Ext.refl : Ext F σ σ := ⟨.refl, fun _ h => h⟩
theorem Ext.back (e : Ext F σ σ') (h : σ' a = none) : σ a = none := Classical.byContradiction fun n => e.live a n h
theorem Ext.own (e : Ext F σ σ') (h : F a) : Ext F σ (σ'.set a o) := ⟨fun b hb nb => by
    have : b ≠ a := by rintro rfl; exact nb h
    rw [Store.set_ne this]; exact e.keep b hb nb, fun b hb => Store.set_some (e.live b hb)⟩
theorem Ext.new (e : Ext F σ σ') (h : σ a = none) : Ext F σ (σ'.set a o) := ⟨fun b hb nb => by
    have : b ≠ a := by rintro rfl; exact hb h
    rw [Store.set_ne this]; exact e.keep b hb nb, fun b hb => Store.set_some (e.live b hb)⟩
theorem Ext.alloc (e : Ext F σ σ') (h : σ' a = none) : Ext F σ (σ'.set a o) := e.new (e.back h)
theorem Ext.get (e : Ext F σ σ') (h : σ b = some o) (n : ¬ F b) : σ' b = some o := e.keep.get h n
theorem Ext.trans (x : Ext F σ σ') (y : Ext F' σ' σ'') (h : ∀ b, F' b → F b ∨ σ b = none) : Ext F σ σ'' := by
  refine ⟨fun b hb nb => ?_, fun b hb => y.live b (x.live b hb)⟩
  cases q : σ b with
  | none => exact absurd q hb
  | some o =>
    refine y.get (x.get q nb) fun f => ?_
    rcases h b f with k | k
    · exact nb k
    · rw [q] at k; cases k
end
section
variable {w : World} {mg mb : Str → Option Value} {h₀ : Heap} {stk : List Env} {σ : Store} {d : Nat} {hf : Bool}
theorem Task_deps {x dx l : Addr} {nm : Str} {sl al : Addr} {deps : List Str} {Φ : AV → Store → Prop} (hx : σ x = some (.inst cTask dx)) (hd : σ dx = some (.dict [("name", .str nm), ("options", .none), ("setup_tasks", .ref sl), ("actions", .ref al)])) (ne : x ≠ dx)
    (hl : BaseL h₀ l (strsA deps)) (nd : deps.Nodup) (hz : deps.length ≤ 900)
    (φ : ∀ σ' fl tdl wl cl, σ' x = some (.inst cTask dx) → σ' dx = some (.dict [("name", .str nm), ("options", .none), ("setup_tasks", .ref sl), ("actions", .ref al), ("dep_changed", .none), ("file_dep", .ref fl), ("task_dep", .ref tdl), ("wild_dep", .ref wl), ("calc_dep", .ref cl)]) →
      σ' fl = some (.list (strsA deps)) → σ fl = none → Ext (· = dx) σ σ' → Φ .none σ') :
    Ca (cx w mg mb h₀ stk) (d + 2) true σ (.val (.ref aTask__init_deps)) [.ref x, .ref l, .tup [], .tup []] [] Φ := by
  refine ca_def (isD_Task__init_deps w.params) (ab := [("self", .ref x), ("file_dep", .ref l), ("task_dep", .tup []), ("calc_dep", .tup [])]) (by walk_at "b4") (by kernel_rfl) fun stk' => ?_
  refine ss_cons (st_assign (ev_none (as_attr (ev_local (by rfl) (by rfl) (op_set hx hd (by kernel_rfl) (Nat.le_of_ble_eq_true rfl) ?_)))))
  have E : Ext (· = dx) σ _ := (Ext.refl (σ := σ)).own (a := dx) (o := .dict [("name", .str nm), ("options", .none), ("setup_tasks", .ref sl), ("actions", .ref al), ("dep_changed", .none)]) rfl
  refine ss_cons (st_assign (ev_list ⟨by simp, fun fl hfl => as_attr (ev_local (by rfl) (by rfl) (op_set (by walk_at "st") (by walk_at "st") (by kernel_rfl) (Nat.le_of_ble_eq_true rfl) ?_))⟩))
  have nfl : fl ≠ dx := ne_of (Store.set_same _ _ _) hfl
  have nfx : x ≠ fl := (ne_of ((Store.set_ne ne).trans hx) hfl).symm
  have hfl0 := E.back hfl
  have E := (E.alloc hfl (o := .list [])).own (a := dx) (o := .dict [("name", .str nm), ("options", .none), ("setup_tasks", .ref sl), ("actions", .ref al), ("dep_changed", .none), ("file_dep", .ref fl)]) rfl
  refine ss_cons (st_expr (ev_meth (ev_local (by rfl) (by rfl) (meth_at (fm := aTask__expand_file_dep) (by walk_at "st") (Store.set_same _ _ _) (by rfl) (by kernel_rfl) ?_))))
  refine ev_local (by rfl) (by rfl) (Ca.cw (Task_expand (fl := fl) (by walk_at "st") (Store.set_same _ _ _) (by rfl) hl (by walk_at "st") nd hz ?_))
  have E := E.new (a := fl) (o := .list (strsA deps)) hfl0
  refine ss_cons (st_assign (ev_list ⟨by simp, fun tdl htd => as_attr (ev_local (by rfl) (by rfl) (op_set (by walk_at "st") (by walk_at "st") (by kernel_rfl) (Nat.le_of_ble_eq_true rfl) ?_))⟩))
  have ntd : tdl ≠ dx := ne_of (o := .dict [("name", .str nm), ("options", .none), ("setup_tasks", .ref sl), ("actions", .ref al), ("dep_changed", .none), ("file_dep", .ref fl)]) (by walk_at "st") htd
  have ntx : x ≠ tdl := (ne_of (o := .inst cTask dx) (by walk_at "st") htd).symm
  have ntf : tdl ≠ fl := ne_of (o := .list (strsA deps)) (by walk_at "st") htd
  have E := (E.alloc htd (o := .list [])).own (a := dx) (o := .dict [("name", .str nm), ("options", .none), ("setup_tasks", .ref sl), ("actions", .ref al), ("dep_changed", .none), ("file_dep", .ref fl), ("task_dep", .ref tdl)]) rfl
  refine ss_cons (st_assign (ev_list ⟨by simp, fun wl hwl => as_attr (ev_local (by rfl) (by rfl) (op_set (by walk_at "st") (by walk_at "st") (by kernel_rfl) (Nat.le_of_ble_eq_true rfl) ?_))⟩))
  have nwd : wl ≠ dx := ne_of (o := .dict [("name", .str nm), ("options", .none), ("setup_tasks", .ref sl), ("actions", .ref al), ("dep_changed", .none), ("file_dep", .ref fl), ("task_dep", .ref tdl)]) (Store.set_same _ _ _) hwl
  have nwx : x ≠ wl := (ne_of (o := .inst cTask dx) (by walk_at "st") hwl).symm
  have nwf : wl ≠ fl := ne_of (o := .list (strsA deps)) (by walk_at "st") hwl
  have E := (E.alloc hwl (o := .list [])).own (a := dx) (o := .dict [("name", .str nm), ("options", .none), ("setup_tasks", .ref sl), ("actions", .ref al), ("dep_changed", .none), ("file_dep", .ref fl), ("task_dep", .ref tdl), ("wild_dep", .ref wl)]) rfl
  refine ss_cons (st_if (te_val (ev_local (by rfl) (by rfl) (tr_tup (by simp) ?_))))
  refine ss_nil ?_
  refine ss_cons (st_assign (ev_list ⟨by simp, fun cl hcl => as_attr (ev_local (by rfl) (by rfl) (op_set (by walk_at "st") (by walk_at "st") (by kernel_rfl) (Nat.le_of_ble_eq_true rfl) ?_))⟩))
  have ncd : cl ≠ dx := ne_of (o := .dict [("name", .str nm), ("options", .none), ("setup_tasks", .ref sl), ("actions", .ref al), ("dep_changed", .none), ("file_dep", .ref fl), ("task_dep", .ref tdl), ("wild_dep", .ref wl)]) (Store.set_same _ _ _) hcl
  have ncx : x ≠ cl := (ne_of (o := .inst cTask dx) (by walk_at "st") hcl).symm
  have ncf : cl ≠ fl := ne_of (o := .list (strsA deps)) (by walk_at "st") hcl
  have E := (E.alloc hcl (o := .list [])).own (a := dx) (o := .dict [("name", .str nm), ("options", .none), ("setup_tasks", .ref sl), ("actions", .ref al), ("dep_changed", .none), ("file_dep", .ref fl), ("task_dep", .ref tdl), ("wild_dep", .ref wl), ("calc_dep", .ref cl)]) rfl
  refine ss_cons (st_if (te_val (ev_local (by rfl) (by rfl) (tr_tup (by simp) ?_))))
  exact ss_nil (ss_nil (φ _ fl tdl wl cl (by walk_at "st") (Store.set_same _ _ _) (by walk_at "st") hfl0 E))
end

section
variable {c : Cx} {f : Fn} {ℓ : Locs} {σ : Store}
theorem op_setK {x C dx : Addr} {es : Es} {name : Str} {v : AV} {Φ : Store → Prop} (hx : σ x = some (.inst C dx)) (hd : σ dx = some (.dict es))
    (k : okSet c.K C name = true) (hz : es.length ≤ 1000) (ne : x ≠ dx)
    (q : ∀ σ', σ' x = some (.inst C dx) → σ' dx = some (.dict (es.put name v)) → Ext (· = dx) σ σ' → Φ σ') : OpU c f ℓ σ [.ref x, v] (ap2 fun o v => setAttr o name v) Φ :=
  op_set hx hd k hz (q _ ((Store.set_ne ne).trans hx) (Store.set_same _ _ _) (Ext.refl.own rfl))
end
noncomputable def tkEs (nm : Str) (op : AV) (sl al : Addr) (dc : AV) (fl tdl wl cl ga vs ul tl vd : Addr) (ex : Bool) : Es :=
  [("name", .str nm), ("options", op), ("setup_tasks", .ref sl), ("actions", .ref al), ("dep_changed", dc), ("file_dep", .ref fl), ("task_dep", .ref tdl), ("wild_dep", .ref wl), ("calc_dep", .ref cl), ("getargs", .ref ga), ("value_savers", .ref vs), ("uptodate", .ref ul), ("targets", .ref tl), ("subtask_of", .none), ("has_subtask", .bool false), ("result", .none), ("values", .ref vd), ("executed", .bool ex)]
section
variable {w : World} {mg mb : Str → Option Value} {h₀ : Heap} {stk : List Env} {σ : Store} {d : Nat} {hf : Bool}
theorem Task_init {x dx a0 l t : Addr} {nm : Str} {acts : List AV} {deps ts : List Str} {Φ : AV → Store → Prop} (hx : σ x = some (.inst cTask dx)) (hd : σ dx = some (.dict [])) (ne : x ≠ dx) (h_a0 : σ a0 = some (.list acts)) (hz0 : acts.length ≤ 900)
    (hn : (!(Builtin.Str.occurrences nm "=" 0 nm.length 1).isEmpty) = false) (hl : BaseL h₀ l (strsA deps)) (nd : deps.Nodup) (hz : deps.length ≤ 900) (ht : BaseL h₀ t (strsA ts)) (hzt : ts.length ≤ 900)
    (φ : ∀ σ' sl al fl tdl wl cl ga vs ul tl vd, σ' x = some (.inst cTask dx) → σ' dx = some (.dict (tkEs nm .none sl al .none fl tdl wl cl ga vs ul tl vd false)) →
      σ' al = some (.list acts) → σ' fl = some (.list (strsA deps)) → σ' ul = some (.list []) → σ' tl = some (.list (strsA ts)) → σ' vd = some (.dict []) → (σ al = none ∧ σ fl = none ∧ σ ul = none ∧ σ tl = none ∧ σ vd = none) → Ext (· = dx) σ σ' → Φ .none σ') :
    Ca (cx w mg mb h₀ stk) (d + 3) true σ (.val (.ref aTask___init__)) [.ref x, .str nm, .ref a0] [("file_dep", .ref l), ("targets", .ref t)] Φ := by
  have na0 : a0 ≠ dx := by rintro rfl; rw [hd] at h_a0; cases h_a0
  refine ca_def (isD_Task___init__ w.params) (ab := [("self", .ref x), ("name", .str nm), ("actions", .ref a0), ("file_dep", .ref l), ("targets", .ref t), ("task_dep", .tup []), ("uptodate", .tup []), ("calc_dep", .tup []), ("setup", .tup []), ("subtask_of", .none), ("has_subtask", .bool false), ("getargs", .none)]) ?_ (by kernel_rfl) fun stk' => ?_
  · intro s xs ks ok kb va vk
    have X := Frag.In.keeps ok.X kb
    rcases va with _ | ⟨a1, va⟩; rcases va with _ | ⟨a2, va⟩; rcases va with _ | ⟨a3, va⟩; cases va
    rcases vk with _ | ⟨a4, vk⟩; rcases vk with _ | ⟨a5, vk⟩; cases vk
    refine ⟨_, ?_, .cons a1 (.cons a2 (.cons a3 (.cons a4 (.cons a5 (.cons (.tup (a := 489) (xs := #[]) (X _ _ (by kernel_rfl)) .nil) (.cons (.tup (a := 490) (xs := #[]) (X _ _ (by kernel_rfl)) .nil) (.cons (.tup (a := 491) (xs := #[]) (X _ _ (by kernel_rfl)) .nil) (.cons (.tup (a := 492) (xs := #[]) (X _ _ (by kernel_rfl)) .nil) (.cons .none (.cons (.bool false) (.cons .none .nil)))))))))))⟩
    exact kp_binds X fun S => by kernel_rfl
  have E : Ext (· = dx) σ σ := .refl
  refine ss_cons (st_assign (ev_or2 (ev_local (by rfl) (by rfl) (tr_none (ev_dict_nil fun ga hga => as_local (by rfl) ?_)))))
  have nga : ga ≠ dx := ne_of hd hga
  replace h_a0 := Store.set_old (o := .dict []) h_a0 hga
  replace hx := Store.set_old (o := .dict []) hx hga
  replace hd := Store.set_old (o := .dict []) hd hga
  have h_ga : (σ.set ga (.dict [])) ga = _ := Store.set_same _ _ _
  replace E := E.alloc hga (o := .dict [])
  generalize σ.set ga (.dict []) = s0 at *
  refine ss_cons (st_if (te_cmp (ev_str (ev_local (by rfl) (by rfl) (op_in_str hn ⟨_, rfl, ?_⟩)))))
  refine ss_nil ?_
  refine ss_cons (st_assign (ev_local (by rfl) (by rfl) (as_attr (ev_local (by rfl) (by rfl) (op_setK hx hd (by kernel_rfl) (Nat.le_of_ble_eq_true rfl) ne fun s1 hx1 hd1 E1 => ?_)))))
  replace h_a0 := E1.get h_a0 na0
  replace h_ga := E1.get h_ga nga
  replace E := E.trans E1 fun _ h => .inl h
  replace hx := hx1
  replace hd : s1 dx = some (.dict [("name", .str nm)]) := hd1
  clear hx1 hd1 E1
  refine ss_cons (st_assign (ev_none (as_attr (ev_local (by rfl) (by rfl) (op_setK hx hd (by kernel_rfl) (Nat.le_of_ble_eq_true rfl) ne fun s2 hx1 hd1 E1 => ?_)))))
  replace h_a0 := E1.get h_a0 na0
  replace h_ga := E1.get h_ga nga
  replace E := E.trans E1 fun _ h => .inl h
  replace hx := hx1
  replace hd : s2 dx = some (.dict [("name", .str nm), ("options", .none)]) := hd1
  clear hx1 hd1 E1
  refine ss_cons (st_assign (ev_call (ev_builtin (by rfl) (by kernel_rfl) glob_list ⟨_, rfl, cok_type, ev_local (by rfl) (by rfl) (cw_list_tup (by simp) fun sl hsl => (as_attr (ev_local (by rfl) (by rfl) (op_setK (Store.set_old hx hsl) (Store.set_old hd hsl) (by kernel_rfl) (Nat.le_of_ble_eq_true rfl) ne fun s3 hx1 hd1 E1 => ?_)))  )⟩)))
  have nsl : sl ≠ dx := ne_of hd hsl
  have zsl : σ sl = none := E.back hsl
  replace h_a0 := E1.get (Store.set_old h_a0 hsl) na0
  replace h_ga := E1.get (Store.set_old h_ga hsl) nga
  have h_sl := E1.get (Store.set_same _ _ _) nsl
  replace E := (E.alloc hsl (o := .list [])).trans E1 fun _ h => .inl h
  replace hx := hx1
  replace hd : s3 dx = some (.dict [("name", .str nm), ("options", .none), ("setup_tasks", .ref sl)]) := hd1
  clear hx1 hd1 E1
  clear h_sl
  refine ss_cons (st_if (te_cmp (ev_local (by rfl) (by rfl) (ev_none (op_is_none ⟨_, rfl, ?_⟩)))))
  refine ss_cons (st_assign (ev_call (ev_builtin (by rfl) (by kernel_rfl) glob_list ⟨_, rfl, cok_type, ev_slice_list .none .none (ev_local (by rfl) (by rfl) ⟨a0, _, rfl, .inl h_a0, by omega, fun t1 ht1 => ?_⟩)⟩)))
  have ep : pick acts none none = acts := by simp [pick]
  rw [ep]
  replace hx := Store.set_old (o := .list acts) hx ht1
  replace hd := Store.set_old (o := .list acts) hd ht1
  replace E := E.alloc ht1 (o := .list acts)
  have h_t1 : _ = some (AO.list acts) := Store.set_same s3 t1 (.list acts)
  replace h_a0 := Store.set_old (o := .list acts) h_a0 ht1
  replace h_ga := Store.set_old (o := .list acts) h_ga ht1
  generalize s3.set t1 (.list acts) = s3b at *
  refine cw_list (.inl h_t1) (by omega) fun al hal => as_attr (ev_local (by rfl) (by rfl) (op_setK (Store.set_old hx hal) (Store.set_old hd hal) (by kernel_rfl) (Nat.le_of_ble_eq_true rfl) ne fun s4 hx1 hd1 E1 => ?_))
  have nal : al ≠ dx := ne_of hd hal
  have zal : σ al = none := E.back hal
  replace h_a0 := E1.get (Store.set_old h_a0 hal) na0
  replace h_ga := E1.get (Store.set_old h_ga hal) nga
  have h_al := E1.get (Store.set_same _ _ _) nal
  replace E := (E.alloc hal (o := .list acts)).trans E1 fun _ h => .inl h
  replace hx := hx1
  replace hd : s4 dx = some (.dict [("name", .str nm), ("options", .none), ("setup_tasks", .ref sl), ("actions", .ref al)]) := hd1
  clear hx1 hd1 E1
  refine ss_nil ?_
  clear h_a0
  refine ss_cons (st_expr (ev_meth (ev_local (by rfl) (by rfl) (meth_at (fm := aTask__init_deps) hx hd (by rfl) (by kernel_rfl) (ev_local (by rfl) (by rfl) (ev_local (by rfl) (by rfl) (ev_local (by rfl) (by rfl) (Ca.cw (Task_deps hx hd ne hl nd hz fun s5 fl tdl wl cl hx1 hd1 h_fl hfl0 E1 => ?_)))))))))
  have nfl : fl ≠ dx := ne_of hd hfl0
  have zfl : σ fl = none := E.back hfl0
  replace h_ga := E1.get h_ga nga
  replace h_al := E1.get h_al nal
  replace E := E.trans E1 fun _ h => .inl h
  replace hx := hx1
  replace hd : s5 dx = some (.dict [("name", .str nm), ("options", .none), ("setup_tasks", .ref sl), ("actions", .ref al), ("dep_changed", .none), ("file_dep", .ref fl), ("task_dep", .ref tdl), ("wild_dep", .ref wl), ("calc_dep", .ref cl)]) := hd1
  clear hx1 hd1 E1
  refine ss_cons (st_assign (ev_ifexp (te_val (ev_local (by rfl) (by rfl) (tr_tup (by simp) ?_)))))
  refine ev_list ⟨by simp, fun u0 hu0 => as_local (by rfl) ?_⟩
  have nu0 : u0 ≠ dx := ne_of hd hu0
  replace hx := Store.set_old (o := .list []) hx hu0
  replace hd := Store.set_old (o := .list []) hd hu0
  replace E := E.alloc hu0 (o := .list [])
  replace h_ga := Store.set_old (o := .list []) h_ga hu0
  replace h_al := Store.set_old (o := .list []) h_al hu0
  replace h_fl := Store.set_old (o := .list []) h_fl hu0
  have h_u0 : _ = some (AO.list []) := Store.set_same s5 u0 (.list [])
  generalize s5.set u0 (.list []) = s5b at *
  refine ss_cons (st_assign (ev_local (by rfl) (by rfl) (as_attr (ev_local (by rfl) (by rfl) (op_setK hx hd (by kernel_rfl) (Nat.le_of_ble_eq_true rfl) ne fun s6 hx1 hd1 E1 => ?_)))))
  replace h_ga := E1.get h_ga nga
  replace h_al := E1.get h_al nal
  replace h_fl := E1.get h_fl nfl
  replace h_u0 := E1.get h_u0 nu0
  replace E := E.trans E1 fun _ h => .inl h
  replace hx := hx1
  replace hd : s6 dx = some (.dict [("name", .str nm), ("options", .none), ("setup_tasks", .ref sl), ("actions", .ref al), ("dep_changed", .none), ("file_dep", .ref fl), ("task_dep", .ref tdl), ("wild_dep", .ref wl), ("calc_dep", .ref cl), ("getargs", .ref ga)]) := hd1
  clear hx1 hd1 E1
  refine ss_cons (st_if (te_val (ev_attr (ev_local (by rfl) (by rfl) (op_at hx hd (by rfl) (by kernel_rfl) (by rfl) (tr_dict h_ga (by simp) ?_))))))
  refine ss_nil ?_
  clear h_ga
  refine ss_cons (st_assign (ev_list ⟨by simp, fun vs hvs => (as_attr (ev_local (by rfl) (by rfl) (op_setK (Store.set_old hx hvs) (Store.set_old hd hvs) (by kernel_rfl) (Nat.le_of_ble_eq_true rfl) ne fun s7 hx1 hd1 E1 => ?_)))⟩))
  have nvs : vs ≠ dx := ne_of hd hvs
  have zvs : σ vs = none := E.back hvs
  replace h_al := E1.get (Store.set_old h_al hvs) nal
  replace h_fl := E1.get (Store.set_old h_fl hvs) nfl
  replace h_u0 := E1.get (Store.set_old h_u0 hvs) nu0
  have h_vs := E1.get (Store.set_same _ _ _) nvs
  replace E := (E.alloc hvs (o := .list [])).trans E1 fun _ h => .inl h
  replace hx := hx1
  replace hd : s7 dx = some (.dict [("name", .str nm), ("options", .none), ("setup_tasks", .ref sl), ("actions", .ref al), ("dep_changed", .none), ("file_dep", .ref fl), ("task_dep", .ref tdl), ("wild_dep", .ref wl), ("calc_dep", .ref cl), ("getargs", .ref ga), ("value_savers", .ref vs)]) := hd1
  clear hx1 hd1 E1
  clear h_vs
  refine ss_cons (st_assign (ev_meth (ev_local (by rfl) (by rfl) (meth_at (fm := aTask__init_uptodate) hx hd (by rfl) (by kernel_rfl) (ev_local (by rfl) (by rfl) (Ca.cw (Task_uptodate h_u0 fun ul hul => (as_attr (ev_local (by rfl) (by rfl) (op_setK (Store.set_old hx hul) (Store.set_old hd hul) (by kernel_rfl) (Nat.le_of_ble_eq_true rfl) ne fun s8 hx1 hd1 E1 => ?_)))))))) ))
  have nul : ul ≠ dx := ne_of hd hul
  have zul : σ ul = none := E.back hul
  replace h_al := E1.get (Store.set_old h_al hul) nal
  replace h_fl := E1.get (Store.set_old h_fl hul) nfl
  replace h_u0 := E1.get (Store.set_old h_u0 hul) nu0
  have h_ul := E1.get (Store.set_same _ _ _) nul
  replace E := (E.alloc hul (o := .list [])).trans E1 fun _ h => .inl h
  replace hx := hx1
  replace hd : s8 dx = some (.dict [("name", .str nm), ("options", .none), ("setup_tasks", .ref sl), ("actions", .ref al), ("dep_changed", .none), ("file_dep", .ref fl), ("task_dep", .ref tdl), ("wild_dep", .ref wl), ("calc_dep", .ref cl), ("getargs", .ref ga), ("value_savers", .ref vs), ("uptodate", .ref ul)]) := hd1
  clear hx1 hd1 E1
  clear h_u0
  refine ss_cons (st_assign (ev_meth (ev_local (by rfl) (by rfl) (meth_at (fm := aTask__init_targets) hx hd (by rfl) (by kernel_rfl) (ev_local (by rfl) (by rfl) (Ca.cw (Task_targets ht hzt fun tl htl => (as_attr (ev_local (by rfl) (by rfl) (op_setK (Store.set_old hx htl) (Store.set_old hd htl) (by kernel_rfl) (Nat.le_of_ble_eq_true rfl) ne fun s9 hx1 hd1 E1 => ?_)))))))) ))
  have ntl : tl ≠ dx := ne_of hd htl
  have ztl : σ tl = none := E.back htl
  replace h_al := E1.get (Store.set_old h_al htl) nal
  replace h_fl := E1.get (Store.set_old h_fl htl) nfl
  replace h_ul := E1.get (Store.set_old h_ul htl) nul
  have h_tl := E1.get (Store.set_same _ _ _) ntl
  replace E := (E.alloc htl (o := .list (strsA ts))).trans E1 fun _ h => .inl h
  replace hx := hx1
  replace hd : s9 dx = some (.dict [("name", .str nm), ("options", .none), ("setup_tasks", .ref sl), ("actions", .ref al), ("dep_changed", .none), ("file_dep", .ref fl), ("task_dep", .ref tdl), ("wild_dep", .ref wl), ("calc_dep", .ref cl), ("getargs", .ref ga), ("value_savers", .ref vs), ("uptodate", .ref ul), ("targets", .ref tl)]) := hd1
  clear hx1 hd1 E1
  refine ss_cons (st_assign (ev_local (by rfl) (by rfl) (as_attr (ev_local (by rfl) (by rfl) (op_setK hx hd (by kernel_rfl) (Nat.le_of_ble_eq_true rfl) ne fun s10 hx1 hd1 E1 => ?_)))))
  replace h_al := E1.get h_al nal
  replace h_fl := E1.get h_fl nfl
  replace h_ul := E1.get h_ul nul
  replace h_tl := E1.get h_tl ntl
  replace E := E.trans E1 fun _ h => .inl h
  replace hx := hx1
  replace hd : s10 dx = some (.dict [("name", .str nm), ("options", .none), ("setup_tasks", .ref sl), ("actions", .ref al), ("dep_changed", .none), ("file_dep", .ref fl), ("task_dep", .ref tdl), ("wild_dep", .ref wl), ("calc_dep", .ref cl), ("getargs", .ref ga), ("value_savers", .ref vs), ("uptodate", .ref ul), ("targets", .ref tl), ("subtask_of", .none)]) := hd1
  clear hx1 hd1 E1
  refine ss_cons (st_assign (ev_local (by rfl) (by rfl) (as_attr (ev_local (by rfl) (by rfl) (op_setK hx hd (by kernel_rfl) (Nat.le_of_ble_eq_true rfl) ne fun s11 hx1 hd1 E1 => ?_)))))
  replace h_al := E1.get h_al nal
  replace h_fl := E1.get h_fl nfl
  replace h_ul := E1.get h_ul nul
  replace h_tl := E1.get h_tl ntl
  replace E := E.trans E1 fun _ h => .inl h
  replace hx := hx1
  replace hd : s11 dx = some (.dict [("name", .str nm), ("options", .none), ("setup_tasks", .ref sl), ("actions", .ref al), ("dep_changed", .none), ("file_dep", .ref fl), ("task_dep", .ref tdl), ("wild_dep", .ref wl), ("calc_dep", .ref cl), ("getargs", .ref ga), ("value_savers", .ref vs), ("uptodate", .ref ul), ("targets", .ref tl), ("subtask_of", .none), ("has_subtask", .bool false)]) := hd1
  clear hx1 hd1 E1
  refine ss_cons (st_assign (ev_none (as_attr (ev_local (by rfl) (by rfl) (op_setK hx hd (by kernel_rfl) (Nat.le_of_ble_eq_true rfl) ne fun s12 hx1 hd1 E1 => ?_)))))
  replace h_al := E1.get h_al nal
  replace h_fl := E1.get h_fl nfl
  replace h_ul := E1.get h_ul nul
  replace h_tl := E1.get h_tl ntl
  replace E := E.trans E1 fun _ h => .inl h
  replace hx := hx1
  replace hd : s12 dx = some (.dict [("name", .str nm), ("options", .none), ("setup_tasks", .ref sl), ("actions", .ref al), ("dep_changed", .none), ("file_dep", .ref fl), ("task_dep", .ref tdl), ("wild_dep", .ref wl), ("calc_dep", .ref cl), ("getargs", .ref ga), ("value_savers", .ref vs), ("uptodate", .ref ul), ("targets", .ref tl), ("subtask_of", .none), ("has_subtask", .bool false), ("result", .none)]) := hd1
  clear hx1 hd1 E1
  refine ss_cons (st_assign (ev_dict_nil fun vd hvd => (as_attr (ev_local (by rfl) (by rfl) (op_setK (Store.set_old hx hvd) (Store.set_old hd hvd) (by kernel_rfl) (Nat.le_of_ble_eq_true rfl) ne fun s13 hx1 hd1 E1 => ?_)))))
  have nvd : vd ≠ dx := ne_of hd hvd
  have zvd : σ vd = none := E.back hvd
  replace h_al := E1.get (Store.set_old h_al hvd) nal
  replace h_fl := E1.get (Store.set_old h_fl hvd) nfl
  replace h_ul := E1.get (Store.set_old h_ul hvd) nul
  replace h_tl := E1.get (Store.set_old h_tl hvd) ntl
  have h_vd := E1.get (Store.set_same _ _ _) nvd
  replace E := (E.alloc hvd (o := .dict [])).trans E1 fun _ h => .inl h
  replace hx := hx1
  replace hd : s13 dx = some (.dict [("name", .str nm), ("options", .none), ("setup_tasks", .ref sl), ("actions", .ref al), ("dep_changed", .none), ("file_dep", .ref fl), ("task_dep", .ref tdl), ("wild_dep", .ref wl), ("calc_dep", .ref cl), ("getargs", .ref ga), ("value_savers", .ref vs), ("uptodate", .ref ul), ("targets", .ref tl), ("subtask_of", .none), ("has_subtask", .bool false), ("result", .none), ("values", .ref vd)]) := hd1
  clear hx1 hd1 E1
  refine ss_cons (st_assign (ev_bool (as_attr (ev_local (by rfl) (by rfl) (op_setK hx hd (by kernel_rfl) (Nat.le_of_ble_eq_true rfl) ne fun s14 hx1 hd1 E1 => ?_)))))
  replace h_al := E1.get h_al nal
  replace h_fl := E1.get h_fl nfl
  replace h_ul := E1.get h_ul nul
  replace h_tl := E1.get h_tl ntl
  replace h_vd := E1.get h_vd nvd
  replace E := E.trans E1 fun _ h => .inl h
  replace hx := hx1
  replace hd : s14 dx = some (.dict [("name", .str nm), ("options", .none), ("setup_tasks", .ref sl), ("actions", .ref al), ("dep_changed", .none), ("file_dep", .ref fl), ("task_dep", .ref tdl), ("wild_dep", .ref wl), ("calc_dep", .ref cl), ("getargs", .ref ga), ("value_savers", .ref vs), ("uptodate", .ref ul), ("targets", .ref tl), ("subtask_of", .none), ("has_subtask", .bool false), ("result", .none), ("values", .ref vd), ("executed", .bool false)]) := hd1
  clear hx1 hd1 E1
  exact ss_nil (φ s14 sl al fl tdl wl cl ga vs ul tl vd hx hd h_al h_fl h_ul h_tl h_vd ⟨zal, zfl, zul, ztl, zvd⟩ E)
end

structure Tk where
  nm : Str
  op : AV
  sl : Addr
  al : Addr
  dc : AV
  fl : Addr
  tdl : Addr
  wl : Addr
  cl : Addr
  ga : Addr
  vs : Addr
  ul : Addr
  tl : Addr
  vd : Addr
  ex : Bool
noncomputable def Tk.es (k : Tk) : Es := tkEs k.nm k.op k.sl k.al k.dc k.fl k.tdl k.wl k.cl k.ga k.vs k.ul k.tl k.vd k.ex
structure TaskAt (σ : Store) (x dx : Addr) (k : Tk) (e0 : Addr) (deps ts : List Str) : Prop where
  hx : σ x = some (.inst cTask dx)
  hdx : σ dx = some (.dict k.es)
  hal : σ k.al = some (.list [.tup [.str "ok", .none, .ref e0]])
  he0 : σ e0 = some (.dict [])
  hfl : σ k.fl = some (.list (strsA deps))
  hul : σ k.ul = some (.list [])
  htl : σ k.tl = some (.list (strsA ts))
  hvd : σ k.vd = some (.dict [])
  hne : k.vd ≠ e0
section
variable {w : World} {mg mb : Str → Option Value} {h₀ : Heap} {stk : List Env} {σ : Store} {d : Nat} {hf : Bool}
theorem TaskAt.nx {x dx e0 : Addr} {k : Tk} {deps ts : List Str} (T : TaskAt σ x dx k e0 deps ts) : x ≠ dx := by
  rintro rfl; have := T.hx; rw [T.hdx] at this; cases this
theorem TaskAt.off {x dx e0 b : Addr} {k : Tk} {deps ts : List Str} (T : TaskAt σ x dx k e0 deps ts) {o : AO} (h : σ b = some o) (n : o ≠ .dict k.es) : b ≠ dx := by
  rintro rfl; rw [T.hdx] at h; cases h; exact n rfl
/-- its own dict turns -/
theorem TaskAt.turn {σ' : Store} {x dx e0 : Addr} {k k' : Tk} {deps ts : List Str} (T : TaskAt σ x dx k e0 deps ts) (E : Ext (· = dx) σ σ') (hd : σ' dx = some (.dict k'.es))
    (hk : k'.al = k.al ∧ k'.fl = k.fl ∧ k'.ul = k.ul ∧ k'.tl = k.tl ∧ k'.vd = k.vd) : TaskAt σ' x dx k' e0 deps ts := by
  obtain ⟨h1, h2, h3, h4, h5⟩ := hk
  refine ⟨E.get T.hx T.nx, hd, ?_, E.get T.he0 (T.off T.he0 (by simp [Tk.es, tkEs])), ?_, ?_, ?_, ?_, by rw [h5]; exact T.hne⟩
  · rw [h1]; exact E.get T.hal (T.off T.hal (by simp))
  · rw [h2]; exact E.get T.hfl (T.off T.hfl (by simp))
  · rw [h3]; exact E.get T.hul (T.off T.hul (by simp))
  · rw [h4]; exact E.get T.htl (T.off T.htl (by simp))
  · rw [h5]; exact E.get T.hvd (T.off T.hvd (by simp [Tk.es, tkEs]))
theorem Task_opts {x dx e0 : Addr} {k : Tk} {deps ts : List Str} {Φ : AV → Store → Prop} (T : TaskAt σ x dx k e0 deps ts) (ho : k.op = .none)
    (φ : ∀ σ' o, TaskAt σ' x dx { k with op := .ref o } e0 deps ts → Ext (· = dx) σ σ' → Φ .none σ') :
    Ca (cx w mg mb h₀ stk) (d + 1) hf σ (.val (.ref aTask_init_options)) [.ref x] [] Φ := by
  refine ca_def (isD_Task_init_options w.params) (ab := [("self", .ref x), ("args", .none)]) ?_ (by kernel_rfl) fun stk' => ?_
  · intro s xs ks ok kb va vk
    have X := Frag.In.keeps ok.X kb
    rcases va with _ | ⟨a1, va⟩; cases va; cases vk
    refine ⟨_, ?_, .cons a1 (.cons .none .nil)⟩
    exact kp_binds X fun S => by kernel_rfl
  refine ss_cons (st_if (te_cmp (ev_attr (ev_local (by rfl) (by rfl) (op_at T.hx T.hdx (by rfl) (by kernel_rfl) (by show handedA k.op = true; rw [ho]; rfl) (ev_none (op_is_none ⟨_, rfl, ?_⟩)))))))
  rw [show (k.op).isNone = true by rw [ho]; rfl]
  refine ss_cons (st_assign (ev_dict_nil fun o hon => as_attr (ev_local (by rfl) (by rfl) (op_setK (Store.set_old T.hx hon) (Store.set_old T.hdx hon) (by kernel_rfl) (Nat.le_of_ble_eq_true rfl) T.nx fun σ' hx hd E => ?_))))
  refine ss_cons (st_return (ev_local (by rfl) (by rfl) ?_))
  have E' := (Ext.refl (F := (· = dx)).alloc hon (o := .dict [])).trans E fun _ h => .inl h
  exact φ σ' o (T.turn E' hd ⟨rfl, rfl, rfl, rfl, rfl⟩) E'
theorem Task_execute {x dx e0 : Addr} {k : Tk} {deps ts : List Str} {Φ : AV → Store → Prop} (T : TaskAt σ x dx k e0 deps ts) (ho : k.op = .none)
    (φ : ∀ σ' o, TaskAt σ' x dx { k with op := .ref o, ex := true } e0 deps ts → Ext (· = dx) σ σ' → Φ .none σ') :
    Ca (cx w mg mb h₀ stk) (d + 2) true σ (.val (.ref aTask_execute)) [.ref x, .none] [] Φ := by
  refine ca_def (isD_Task_execute w.params) (ab := [("self", .ref x), ("stream", .none)]) (by walk_at "b2") (by kernel_rfl) fun stk' => ?_
  refine ss_cons (st_assign (ev_bool (as_attr (ev_local (by rfl) (by rfl) (op_setK T.hx T.hdx (by kernel_rfl) (Nat.le_of_ble_eq_true rfl) T.nx fun σ₁ hx hd E => ?_)))))
  have T₁ : TaskAt σ₁ x dx { k with ex := true } e0 deps ts := T.turn E hd ⟨rfl, rfl, rfl, rfl, rfl⟩
  refine ss_cons (st_expr (ev_meth (ev_local (by rfl) (by rfl) (meth_at (fm := aTask_init_options) T₁.hx T₁.hdx (by rfl) (by kernel_rfl) (Ca.cw (Task_opts T₁ ho fun σ₂ o T₂ E₂ => ?_))))))
  refine ss_cons (st_for rfl (itr_list (ev_attr (ev_local (by rfl) (by rfl) (op_at T₂.hx T₂.hdx (by rfl) (by kernel_rfl) (by rfl) ⟨k.al, _, rfl, .inl T₂.hal, .inr ⟨⟨_, _, _, rfl⟩, by simp⟩,
    fun _ ℓ σ' => ℓ "self" = some (.ref x) ∧ TaskAt σ' x dx { k with op := .ref o, ex := true } e0 deps ts ∧ Ext (· = dx) σ₂ σ', ⟨by rfl, T₂, .refl⟩, fun _ _ _ h => .inl h.2.1.hal, ?_, ?_⟩)))))
  · rintro i v ℓ σ₃ hv ⟨l1, T₃, E₃⟩
    obtain rfl : v = .tup [.str "ok", .none, .ref e0] := by
      cases i with
      | zero => simpa using hv.symm
      | succ i => simp at hv
    refine as_tuple rfl (by rfl) (as_local (by rfl) (as_local (by rfl) (as_local (by rfl) ?_)))
    refine ss_cons (st_if (te_cmp (ev_local (by rfl) (by rfl) (ev_str (op_eq_str ⟨_, rfl, ?_⟩)))))
    refine ss_nil ?_
    refine ss_cons (st_if (te_cmp (ev_local (by rfl) (by rfl) (ev_str (op_eq_str ⟨_, rfl, ?_⟩)))))
    refine ss_nil ?_
    refine ss_cons (st_assign (ev_local (by rfl) (by rfl) (as_attr (ev_local (by rfl) l1 (op_setK T₃.hx T₃.hdx (by kernel_rfl) (Nat.le_of_ble_eq_true rfl) T₃.nx fun σ₄ hx hd E₄ => ?_)))))
    have T₄ : TaskAt σ₄ x dx { k with op := .ref o, ex := true } e0 deps ts := T₃.turn E₄ hd ⟨rfl, rfl, rfl, rfl, rfl⟩
    refine ss_cons (st_expr (ev_meth (ev_attr (ev_local (by rfl) l1 (op_at T₄.hx T₄.hdx (by rfl) (by kernel_rfl) (by rfl) ⟨_, meth_dict T₄.hvd PySem.F.slot_dict_update PySem.F.type_dict_update, cok, ev_local (by rfl) (by rfl) (cw_update_nil T₄.hvd T₄.he0 T₄.hne (by simp) ?_)⟩)))))
    rw [Store.set_self T₄.hvd]
    exact ss_nil ⟨l1, T₄, E₃.trans E₄ fun _ h => .inl h⟩
  · rintro ℓ σ₃ ⟨-, T₃, E₃⟩
    exact ss_nil (φ σ₃ o T₃ ((E.trans E₂ fun _ h => .inl h).trans E₃ fun _ h => .inl h))
end

noncomputable def okCls (K : Frag) (C : Addr) (n s : Str) : Bool := plainGet K C n && hasDictIn K C && !copiedNames.contains n && (match findIn K (.ref C) n with | some (some (.str s' t)) => (s' == s) && (match specialIn K (.str s' t) "__get__" with | some none => true | _ => false) | _ => false)
section
variable {c : Cx} {f : Fn} {ℓ : Locs} {σ : Store}
theorem op_cls {x C dx : Addr} {es : Es} {name s : Str} {Φ : AV → Store → Prop} (hx : σ x = some (.inst C dx)) (hd : σ dx = some (.dict es)) (hv : es.get name = none)
    (k : okCls c.K C name s = true) (q : Φ (.str s) σ) : Op c f ℓ σ [.ref x] (ap1 fun o => getAttr o name true) Φ := by
  unfold okCls at k
  simp only [Bool.and_eq_true, Bool.not_eq_true'] at k
  obtain ⟨⟨⟨k1, k2⟩, k3⟩, k4⟩ := k
  split at k4
  · rename_i s' t e
    simp only [Bool.and_eq_true, beq_iff_eq] at k4
    obtain ⟨rfl, k5⟩ := k4
    split at k5
    · rename_i e'
      exact op_attr_cls hx hd hv k1 k2 e e' (by rfl) k3 (fun h => .str _ t) q
    · cases k5
  · cases k4
end
structure DS (F F' : Addr → Prop) (σ σ' : Store) : Prop where
  grow : Grow σ F F'
  keep : Keep F σ σ'
  live : ∀ b, σ b ≠ none → σ' b ≠ none
theorem DS.refl {F : Addr → Prop} {σ : Store} : DS F F σ σ := ⟨.refl, .refl, fun _ h => h⟩
theorem DS.trans {F F' F'' : Addr → Prop} {σ σ' σ'' : Store} (x : DS F F' σ σ') (y : DS F' F'' σ' σ'') : DS F F'' σ σ'' := ⟨x.grow.trans y.grow x.live, x.keep.trans x.grow y.keep, fun b h => y.live b (x.live b h)⟩
noncomputable def Out (F : Addr → Prop) (σ : Store) (bs : List Addr) : Prop := ∀ b ∈ bs, σ b ≠ none ∧ ¬ F b
theorem Out.step {F F' : Addr → Prop} {σ σ' : Store} {bs : List Addr} (o : Out F σ bs) (s : DS F F' σ σ') : Out F' σ' bs ∧ ∀ b ∈ bs, σ' b = σ b := by
  refine ⟨fun b hb => ⟨s.live b (o b hb).1, fun x => ?_⟩, fun b hb => s.keep b (o b hb).1 (o b hb).2⟩
  rcases s.grow.2 b x with y | y
  · exact (o b hb).2 y
  · exact (o b hb).1 y
theorem Db.get_put (D : Db) (t k t' k' : Str) (v : AV) : (D.put t k v).get t' k' = if t' = t ∧ k' = k then some v else D.get t' k' := by
  unfold Db.get Db.put
  by_cases h : t' = t
  · subst h
    simp only [if_true, true_and, Option.bind_some]
    rw [Es.get_put]
    split
    · rfl
    · cases D t' <;> rfl
  · rw [if_neg h, if_neg fun q => h q.1]
theorem Db.put_ne (D : Db) {t t' : Str} (k : Str) (v : AV) (h : t' ≠ t) : (D.put t k v) t' = D t' := if_neg h
structure Nm where
  x : Addr
  dx : Addr
  y : Addr
  dy : Addr
  a : Addr
  ch : Addr
  dch : Addr
  aw : Addr
  tx : Addr
  tdx : Addr
  e0 : Addr
noncomputable def bs (n : Nm) (k : Tk) : List Addr := [n.x, n.dx, n.y, n.dy, n.ch, n.dch, n.aw, n.tx, n.tdx, n.e0, k.al, k.fl, k.ul, k.tl, k.vd]
noncomputable def Cm (m : Bool) : Addr := if m then cMD5Checker else cTimestampChecker
noncomputable def cnm (m : Bool) : Str := if m then "MD5Checker" else "TimestampChecker"
noncomputable def sv (m : Bool) (e : We) : AV := if m then e.av else .int e.ts
structure Rd (σ : Store) (m : Bool) (n : Nm) (k : Tk) (cl : Bool) (wes : Es) (deps ts : List Str) : Prop where
  d : DepAt σ n.x [("_closed", .bool cl), ("checker", .ref n.ch), ("backend", .ref n.y)] n.dx n.y n.dy n.a n.ch
  c : ChkAt σ n.ch (Cm m) n.dch n.aw wes
  t : TaskAt σ n.tx n.tdx k n.e0 deps ts
  ne : n.aw ≠ n.tdx
theorem Rd.keep {σ σ' : Store} {m : Bool} {n : Nm} {k : Tk} {cl : Bool} {wes : Es} {deps ts : List Str} (R : Rd σ m n k cl wes deps ts) (h : ∀ b ∈ bs n k, σ' b = σ b) : Rd σ' m n k cl wes deps ts := by
  have g : ∀ b, b ∈ bs n k → ∀ {o : AO}, σ b = some o → σ' b = some o := fun b hb o e => (h b hb).trans e
  refine ⟨⟨g _ (by simp [bs]) R.d.x, g _ (by simp [bs]) R.d.dx, R.d.back, R.d.chk, R.d.set, R.d.get, g _ (by simp [bs]) R.d.y, g _ (by simp [bs]) R.d.dy⟩,
    ⟨g _ (by simp [bs]) R.c.x, g _ (by simp [bs]) R.c.dx, g _ (by simp [bs]) R.c.aw⟩,
    ⟨g _ (by simp [bs]) R.t.hx, g _ (by simp [bs]) R.t.hdx, g _ (by simp [bs]) R.t.hal, g _ (by simp [bs]) R.t.he0, g _ (by simp [bs]) R.t.hfl, g _ (by simp [bs]) R.t.hul, g _ (by simp [bs]) R.t.htl, g _ (by simp [bs]) R.t.hvd, R.t.hne⟩, R.ne⟩
theorem Out.four {F : Addr → Prop} {σ : Store} {n : Nm} {k : Tk} (o : Out F σ (bs n k)) : ¬ F n.x ∧ ¬ F n.dx ∧ ¬ F n.y ∧ ¬ F n.dy :=
  ⟨(o _ (by simp [bs])).2, (o _ (by simp [bs])).2, (o _ (by simp [bs])).2, (o _ (by simp [bs])).2⟩
theorem Cm_is (m : Bool) : isChk (Cm m) := by cases m; exact .inr rfl; exact .inl rfl
noncomputable def aState (m : Bool) : Addr := if m then aMD5Checker_get_state else aTimestampChecker_get_state
noncomputable def aMod (m : Bool) : Addr := if m then aMD5Checker_check_modified else aTimestampChecker_check_modified
section
variable {w : World} {mg mb : Str → Option Value} {h₀ : Heap} {stk : List Env} {σ : Store} {d : Nat} {hf : Bool}
theorem Chk_state {m : Bool} {x dx aw : Addr} {wes : Es} {p : Str} {e : We} {s : Option We} {Φ : AV → Store → Prop} (hx : ChkAt σ x (Cm m) dx aw wes) (hp : wes.get p = some e.av) (φ : Φ (if m = true ∧ s.map We.ts = some e.ts then .none else sv m e) σ) :
    Ca (cx w mg mb h₀ stk) (d + 2) hf σ (.val (.ref (aState m))) [.ref x, .str p, (s.map (sv m)).getD .none] [] Φ := by
  cases m with
  | true =>
    have : (s.map (sv true)).getD .none = stAV s := by cases s <;> rfl
    rw [this]
    refine MD5_state hx hp ?_
    split at φ
    · rename_i h; rw [if_pos h.2]; exact φ
    · rename_i h; rw [if_neg fun q => h ⟨rfl, q⟩]; exact φ
  | false =>
    refine TS_state hx hp ?_
    rw [if_neg (by simp)] at φ
    exact φ
theorem Dep_save {m : Bool} {n : Nm} {k : Tk} {cl : Bool} {wes : Es} {deps ts : List Str} {D : Db} {N : Nat} {F : Addr → Prop} {W : Str → Option We} {Φ : AV → Store → Prop} (R : Rd σ m n k cl wes deps ts) (hD : DbAt σ n.a D N F) (O : Out F σ (bs n k))
    (hN : N + deps.length + 10 ≤ 900) (hz : deps.length ≤ 900) (nd : deps.Nodup) (hr : ∀ dep ∈ deps, dep ≠ "_values_:" ∧ dep ≠ "checker:" ∧ dep ≠ "deps:") (hW : ∀ dep ∈ deps, ∃ e : We, W dep = some e ∧ wes.get dep = some e.av)
    (hS : ∀ dep ∈ deps, ∃ s : Option We, D.get k.nm dep = s.map (sv m) ∧ (m = true → ∀ s', s = some s' → ∀ e, W dep = some e → s'.ts = e.ts → s' = e))
    (φ : ∀ σ' D' N' F', DbAt σ' n.a D' N' F' → DS F F' σ σ' → N' ≤ N + deps.length + 4 → (∀ t, t ≠ k.nm → D' t = D t) → D'.get k.nm "checker:" = some (.str (cnm m)) → D'.get k.nm "deps:" = some (.tup (strsA deps)) →
      (∀ dep ∈ deps, ∀ e, W dep = some e → D'.get k.nm dep = some (sv m e)) → Φ .none σ') :
    Ca (cx w mg mb h₀ stk) (d + 3) true σ (.val (.ref aDependency_save_success)) [.ref n.x, .ref n.tx] [] Φ := by
  refine ca_def (isD_Dependency_save_success w.params) (ab := [("self", .ref n.x), ("task", .ref n.tx), ("result_hash", .none)]) ?_ (by kernel_rfl) fun stk' => ?_
  · intro s xs ks ok kb va vk
    have X := Frag.In.keeps ok.X kb
    rcases va with _ | ⟨a1, va⟩; rcases va with _ | ⟨a2, va⟩; cases va; cases vk
    refine ⟨_, ?_, .cons a1 (.cons a2 (.cons .none .nil))⟩
    exact kp_binds X fun S => by kernel_rfl
  refine ss_cons (st_expr (ev_meth (ev_local (by rfl) (by rfl) (meth_at (fm := aDependency__set) R.d.x R.d.dx (by rfl) (by kernel_rfl) ?_))))
  refine ev_attr (ev_local (by rfl) (by rfl) (op_at R.t.hx R.t.hdx (by rfl) (by kernel_rfl) (by rfl) (ev_str (ev_attr (ev_local (by rfl) (by rfl) (op_at R.t.hx R.t.hdx (by rfl) (by kernel_rfl) (by rfl) ?_))))))
  refine Ca.cw (Dependency_set R.d hD O.four (by omega) fun σ₁ F₁ hD₁ g₁ k₁ s₁ => ?_)
  have S₁ : DS F F₁ σ σ₁ := ⟨g₁, k₁, s₁⟩
  obtain ⟨O₁, e₁⟩ := O.step S₁
  have R₁ := R.keep e₁
  refine ss_cons (st_if (te_cmp (ev_local (by rfl) (by rfl) (ev_none (op_isnot_none ⟨_, rfl, ?_⟩)))))
  refine ss_cons (st_if (te_val (ev_attr (ev_local (by rfl) (by rfl) (op_at R₁.t.hx R₁.t.hdx (by rfl) (by kernel_rfl) (by rfl) (tr_none ?_))))))
  refine ss_nil (ss_nil ?_)
  refine ss_cons (st_expr (ev_meth (ev_local (by rfl) (by rfl) (meth_at (fm := aDependency__set) R₁.d.x R₁.d.dx (by rfl) (by kernel_rfl) ?_))))
  refine ev_attr (ev_local (by rfl) (by rfl) (op_at R₁.t.hx R₁.t.hdx (by rfl) (by kernel_rfl) (by rfl) (ev_str (ev_attr (ev_attr (ev_local (by rfl) (by rfl) (op_at R₁.d.x R₁.d.dx (by rfl) (by kernel_rfl) (by rfl) (op_cls (s := cnm m) R₁.c.x R₁.c.dx (by rfl) (by cases m <;> kernel_rfl) ?_))))))))
  refine Ca.cw (Dependency_set R₁.d hD₁ O₁.four (by omega) fun σ₂ F₂ hD₂ g₂ k₂ s₂ => ?_)
  have S₂ : DS F₁ F₂ σ₁ σ₂ := ⟨g₂, k₂, s₂⟩
  obtain ⟨O₂, e₂⟩ := O₁.step S₂
  have R₂ := R₁.keep e₂
  refine ss_cons (st_for rfl (itr_list (ev_attr (ev_local (by rfl) (by rfl) (op_at R₂.t.hx R₂.t.hdx (by rfl) (by kernel_rfl) (by rfl) ⟨k.fl, _, rfl, .inl R₂.t.hfl, quiet_name _ _ _,
    fun i ℓ σ' => ℓ "self" = some (.ref n.x) ∧ ℓ "task" = some (.ref n.tx) ∧ ∃ D' N' F', DbAt σ' n.a D' N' F' ∧ Rd σ' m n k cl wes deps ts ∧ Out F' σ' (bs n k) ∧ DS F F' σ σ' ∧ N' ≤ N + 2 + i ∧ (∀ t, t ≠ k.nm → D' t = D t) ∧
      (∀ q, q ∉ deps.take i → D'.get k.nm q = ((D.put k.nm "_values_:" (.ref k.vd)).put k.nm "checker:" (.str (cnm m))).get k.nm q) ∧ (∀ dep ∈ deps.take i, ∀ e, W dep = some e → D'.get k.nm dep = some (sv m e)),
    ⟨by rfl, by rfl, _, _, _, hD₂, R₂, O₂, S₁.trans S₂, by omega, fun t ht => by rw [Db.put_ne _ _ _ ht, Db.put_ne _ _ _ ht], fun _ _ => rfl, fun dep hd => by simp at hd⟩, fun _ _ _ ⟨_, _, _, _, _, _, R', _⟩ => .inl R'.t.hfl, ?_, ?_⟩)))))
  · rintro i v ℓ σ₃ hv ⟨l1, l2, D₃, N₃, F₃, hD₃, R₃, O₃, S₃, hN₃, ho₃, hq₃, hd₃⟩
    obtain ⟨p, rfl, hp⟩ := strs_at hv
    have hm : p ∈ deps := List.mem_of_getElem? hp
    obtain ⟨e, hWe, hwe⟩ := hW p hm
    obtain ⟨s, hs, hsame⟩ := hS p hm
    obtain ⟨r1, r2, r3⟩ := hr p hm
    have hi : i < deps.length := by
      rcases Nat.lt_or_ge i deps.length with h | h
      · exact h
      · rw [List.getElem?_eq_none h] at hp; cases hp
    have cur : D₃.get k.nm p = s.map (sv m) := by
      rw [hq₃ p (not_mem_take nd hp), Db.get_put, if_neg (fun q => r2 q.2), Db.get_put, if_neg (fun q => r1 q.2)]; exact hs
    refine as_local (by rfl) ?_
    refine ss_cons (st_assign (ev_meth (ev_attr (ev_local (by rfl) l1 (op_at R₃.d.x R₃.d.dx (by rfl) (by kernel_rfl) (by rfl) (meth_at (fm := aState m) R₃.c.x R₃.c.dx (by rfl) (by cases m <;> kernel_rfl) ?_))))))
    refine ev_local (by rfl) (by rfl) (ev_meth (ev_local (by rfl) l1 (meth_at (fm := aDependency__get) R₃.d.x R₃.d.dx (by rfl) (by kernel_rfl) ?_)))
    refine ev_attr (ev_local (by rfl) l2 (op_at R₃.t.hx R₃.t.hdx (by rfl) (by kernel_rfl) (by rfl) (ev_local (by rfl) (by rfl) (Ca.cw (Dependency_get R₃.d hD₃ ?_)))))
    rw [show (D₃.get (k.nm) p).getD .none = (s.map (sv m)).getD .none by rw [cur]]
    refine Ca.cw (Chk_state (e := e) R₃.c hwe (as_local (by rfl) ?_))
    refine ss_cons (st_if (te_cmp (ev_local (by rfl) (by rfl) (ev_none (op_isnot_none ⟨_, rfl, ?_⟩)))))
    by_cases hc : m = true ∧ s.map We.ts = some e.ts
    · rw [if_pos hc]
      refine ss_nil (ss_nil ⟨l1, l2, D₃, N₃, F₃, hD₃, R₃, O₃, S₃, by omega, ho₃, fun q hq => hq₃ q fun x => hq ?_, fun dep hdep e' he' => ?_⟩)
      · rw [List.take_add_one]; exact List.mem_append_left _ x
      · rw [List.take_add_one, hp, List.mem_append] at hdep
        rcases hdep with h | h
        · exact hd₃ dep h e' he'
        · obtain rfl : dep = p := by simpa using h
          rw [hWe] at he'; cases he'
          rw [cur]
          obtain ⟨hm1, hts⟩ := hc
          cases hs' : s with
          | none => rw [hs'] at hts; cases hts
          | some s' =>
            rw [hs'] at hts
            have := hsame hm1 s' hs' e hWe (by simpa using hts)
            rw [this]; rfl
    · rw [if_neg hc]
      have hnn : (!(sv m e).isNone) = true := by cases m <;> rfl
      rw [hnn]
      refine ss_cons (st_expr (ev_meth (ev_local (by rfl) l1 (meth_at (fm := aDependency__set) R₃.d.x R₃.d.dx (by rfl) (by kernel_rfl) ?_))))
      refine ev_attr (ev_local (by rfl) l2 (op_at R₃.t.hx R₃.t.hdx (by rfl) (by kernel_rfl) (by rfl) (ev_local (by rfl) (by rfl) (ev_local (by rfl) (by rfl) (Ca.cw (Dependency_set R₃.d hD₃ O₃.four (by omega) fun σ₄ F₄ hD₄ g₄ k₄ s₄ => ?_))))))
      have S₄ : DS F₃ F₄ σ₃ σ₄ := ⟨g₄, k₄, s₄⟩
      obtain ⟨O₄, e₄⟩ := O₃.step S₄
      refine ss_nil (ss_nil ⟨l1, l2, _, _, F₄, hD₄, R₃.keep e₄, O₄, S₃.trans S₄, by omega, fun t ht => by rw [Db.put_ne _ _ _ ht]; exact ho₃ t ht, fun q hq => ?_, fun dep hdep e' he' => ?_⟩)
      · rw [List.take_add_one, hp, List.mem_append, not_or] at hq
        rw [Db.get_put, if_neg fun h => hq.2 (by simp [h.2]), hq₃ q hq.1]
      · rw [Db.get_put]
        rw [List.take_add_one, hp, List.mem_append] at hdep
        split
        · rename_i h
          rw [h.2, hWe] at he'; cases he'; rfl
        · rename_i h
          rcases hdep with h' | h'
          · exact hd₃ dep h' e' he'
          · exact absurd ⟨rfl, by simpa using h'⟩ h
  · rintro ℓ σ₃ ⟨l1, l2, D₃, N₃, F₃, hD₃, R₃, O₃, S₃, hN₃, ho₃, hq₃, hd₃⟩
    rw [show (strsA deps).length = deps.length by simp] at hN₃ hq₃ hd₃
    rw [List.take_length] at hq₃ hd₃
    refine ss_cons (st_expr (ev_meth (ev_local (by rfl) l1 (meth_at (fm := aDependency__set) R₃.d.x R₃.d.dx (by rfl) (by kernel_rfl) ?_))))
    refine ev_attr (ev_local (by rfl) l2 (op_at R₃.t.hx R₃.t.hdx (by rfl) (by kernel_rfl) (by rfl) (ev_str (ev_call (ev_builtin (by rfl) (by kernel_rfl) glob_tuple ⟨_, rfl, cok_type, ev_attr (ev_local (by rfl) l2 (op_at R₃.t.hx R₃.t.hdx (by rfl) (by kernel_rfl) (by rfl) (cw_tuple (.inl R₃.t.hfl) (by simp; omega) ?_)))⟩)))))
    refine Ca.cw (Dependency_set R₃.d hD₃ O₃.four (by omega) fun σ₄ F₄ hD₄ g₄ k₄ s₄ => ?_)
    refine ss_nil (φ _ _ _ _ hD₄ (S₃.trans ⟨g₄, k₄, s₄⟩) (by omega) (fun t ht => by rw [Db.put_ne _ _ _ ht]; exact ho₃ t ht) ?_ ?_ fun dep hdep e he => ?_)
    · rw [Db.get_put, if_neg (fun h => absurd h.2 (by decide)), hq₃ _ fun h => (hr _ h).2.1 rfl, Db.get_put, if_pos ⟨rfl, rfl⟩]
    · rw [Db.get_put, if_pos ⟨rfl, rfl⟩]
    · rw [Db.get_put, if_neg fun h => (hr _ hdep).2.2 h.2]; exact hd₃ dep hdep e he
end

noncomputable def modified (m : Bool) (e : We) : Option We → Bool
  | none => true
  | some s => if m = true then (if e.ts = s.ts then false else if e.sz = s.sz then s.tx != e.tx else true) else e.ts != s.ts
noncomputable def modf (m : Bool) (W S : Str → Option We) (p : Str) : Bool := match W p with
  | none => false
  | some e => modified m e (S p)
noncomputable def statOf (m : Bool) (W S : Str → Option We) (deps ts : List Str) : Str × List Str :=
  if ts.any (fun t => (W t).isNone) = true then ("run", deps) else if deps.any (fun p => (W p).isNone) = true then ("error", []) else
    (if deps.filter (modf m W S) = [] then "up-to-date" else "run", deps.filter (modf m W S))
theorem DbAt.keep {σ σ' : Store} {a : Addr} {D : Db} {N : Nat} {F : Addr → Prop} (h : DbAt σ a D N F) (k : ∀ b, F b → σ b ≠ none → σ' b = σ b) : DbAt σ' a D N F := by
  obtain ⟨fa, es, hda, hlen, hnone, hsome, hinj⟩ := h
  refine ⟨fa, es, (k a fa (by rw [hda]; simp)).trans hda, hlen, hnone, fun t d hd => ?_, hinj⟩
  obtain ⟨i, h1, h2, h3, h4, h5⟩ := hsome t d hd
  exact ⟨i, h1, h2, h3, (k i h2 (by rw [h4]; simp)).trans h4, h5⟩
theorem Rd.turn {σ σ' : Store} {m : Bool} {n : Nm} {k k' : Tk} {cl : Bool} {wes : Es} {deps ts : List Str} (R : Rd σ m n k cl wes deps ts) (E : Ext (· = n.tdx) σ σ') (hd : σ' n.tdx = some (.dict k'.es))
    (hk : k'.al = k.al ∧ k'.fl = k.fl ∧ k'.ul = k.ul ∧ k'.tl = k.tl ∧ k'.vd = k.vd) : Rd σ' m n k' cl wes deps ts :=
  ⟨⟨E.get R.d.x (R.t.off R.d.x (by simp)), E.get R.d.dx (R.t.off R.d.dx (by simp [Tk.es, tkEs])), R.d.back, R.d.chk, R.d.set, R.d.get, E.get R.d.y (R.t.off R.d.y (by simp)), E.get R.d.dy (R.t.off R.d.dy (by simp [Tk.es, tkEs]))⟩,
    ⟨E.get R.c.x (R.t.off R.c.x (by simp)), E.get R.c.dx (R.t.off R.c.dx (by simp [Tk.es, tkEs])), E.get R.c.aw R.ne⟩, R.t.turn E hd hk, R.ne⟩
theorem Rd.ext {σ σ' : Store} {m : Bool} {n : Nm} {k : Tk} {cl : Bool} {wes : Es} {deps ts : List Str} {F : Addr → Prop} (R : Rd σ m n k cl wes deps ts) (E : Ext F σ σ') (h : ∀ b, F b → σ b = none) : Rd σ' m n k cl wes deps ts :=
  have E' : Ext (· = n.tdx) σ σ' := ⟨fun b hb _ => E.keep b hb fun f => hb (h b f), E.live⟩
  R.turn E' (E.get R.t.hdx fun f => by have := h _ f; rw [R.t.hdx] at this; cases this) ⟨rfl, rfl, rfl, rfl, rfl⟩
section
variable {w : World} {mg mb : Str → Option Value} {h₀ : Heap} {stk : List Env} {σ : Store} {d : Nat} {hf : Bool}
theorem Chk_mod {m : Bool} {x dx aw : Addr} {wes : Es} {p : Str} {e s : We} {Φ : AV → Store → Prop} (hx : ChkAt σ x (Cm m) dx aw wes) (hp : wes.get p = some e.av) (φ : Φ (.bool (modified m e (some s))) σ) :
    Ca (cx w mg mb h₀ stk) (d + 2) true σ (.val (.ref (aMod m))) [.ref x, .str p, e.av, sv m s] [] Φ := by
  cases m with
  | true => exact MD5_modified (C := 0) hx hp φ
  | false => exact TS_modified φ
end

section
variable {w : World} {mg mb : Str → Option Value} {h₀ : Heap} {stk : List Env} {σ : Store} {d : Nat} {hf : Bool}
noncomputable abbrev gsF (d : Nat) : Fn := ⟨(Str.ofString "Dependency.get_status") ++ ".<locals>.", fs [9, 14], some aDependency_get_status, .ref 359, d + 2, true⟩
noncomputable def gsBody (k : Nat) : List Stmt := go k (subB (fS [9, 14])) where
  go : Nat → List Stmt → List Stmt
  | 0, l => l
  | n + 1, l => go n (tl l)
structure GsL (ℓ : Locs) (n : Nm) (r : Addr) : Prop where
  self : ℓ "self" = some (.ref n.x)
  task : ℓ "task" = some (.ref n.tx)
  res : ℓ "result" = some (.ref r)
  log : ℓ "get_log" = some (.bool false)
theorem GsL.set {ℓ : Locs} {n : Nm} {r : Addr} (L : GsL ℓ n r) {x : Str} {v : AV} (h1 : x ≠ "self") (h2 : x ≠ "task") (h3 : x ≠ "result") (h4 : x ≠ "get_log") : GsL (ℓ.set x v) n r :=
  ⟨(Locs.set_ne h1.symm).trans L.self, (Locs.set_ne h2.symm).trans L.task, (Locs.set_ne h3.symm).trans L.res, (Locs.set_ne h4.symm).trans L.log⟩
/-- what get_status leaves -/
noncomputable def GsPost (σ : Store) (m : Bool) (n : Nm) (k : Tk) (cl : Bool) (wes : Es) (deps ts : List Str) (z : Str × List Str) (Φ : AV → Store → Prop) : Prop :=
  ∀ σ' r dr rs er c, σ' r = some (.inst cDependencyStatus dr) → σ' dr = some (.dict (dsEs z.1 rs er)) → Rd σ' m n { k with dc := .ref c } cl wes deps ts → σ' c = some (.list (strsA z.2)) → Ext (· = n.tdx) σ σ' → Φ (.ref r) σ'
structure GsS (σ σ' : Store) (m : Bool) (n : Nm) (k : Tk) (cl : Bool) (wes : Es) (deps ts : List Str) (r dr rs c : Addr) (st : Str) (er : AV) (ch : List Str) : Prop where
  hr : σ' r = some (.inst cDependencyStatus dr)
  hdr : σ' dr = some (.dict (dsEs st rs er))
  R : Rd σ' m n { k with dc := .ref c } cl wes deps ts
  hc : σ' c = some (.list (strsA ch))
  E : Ext (· = n.tdx) σ σ'
  nd : r ≠ dr
  fr : σ r = none
  fd : σ dr = none
theorem GsS.ext {σ σ' σ'' : Store} {m : Bool} {n : Nm} {k : Tk} {cl : Bool} {wes : Es} {deps ts : List Str} {r dr rs c : Addr} {st : Str} {er : AV} {ch : List Str} (G : GsS σ σ' m n k cl wes deps ts r dr rs c st er ch)
    {F : Addr → Prop} (E : Ext F σ' σ'') (h : ∀ b, F b → σ' b = none) : GsS σ σ'' m n k cl wes deps ts r dr rs c st er ch := by
  have g : ∀ {b : Addr} {o : AO}, σ' b = some o → σ'' b = some o := fun e => E.get e fun f => by have := h _ f; rw [e] at this; cases this
  exact ⟨g G.hr, g G.hdr, G.R.ext E h, g G.hc, G.E.trans E fun b f => .inr (G.E.back (h b f)), G.nd, G.fr, G.fd⟩
/-- the status turns -/
theorem GsS.st {σ σ' : Store} {m : Bool} {n : Nm} {k : Tk} {cl : Bool} {wes : Es} {deps ts : List Str} {r dr rs c : Addr} {st st' : Str} {er er' : AV} {ch : List Str} (G : GsS σ σ' m n k cl wes deps ts r dr rs c st er ch)
    (hw : n.aw ≠ dr) : GsS σ (σ'.set dr (.dict (dsEs st' rs er'))) m n k cl wes deps ts r dr rs c st' er' ch := by
  have E : Ext (· = dr) σ' (σ'.set dr (.dict (dsEs st' rs er'))) := Ext.refl.own rfl
  have o : ∀ {b : Addr} {o : AO}, σ' b = some o → o ≠ .dict (dsEs st rs er) → b ≠ dr := by
    rintro b o e q rfl; rw [G.hdr] at e; cases e; exact q rfl
  have g : ∀ {b : Addr} {oo : AO}, σ' b = some oo → oo ≠ .dict (dsEs st rs er) → (σ'.set dr (.dict (dsEs st' rs er'))) b = some oo := fun e q => (Store.set_ne (o e q)).trans e
  have R := G.R
  refine ⟨g G.hr (by simp), Store.set_same _ _ _, ⟨⟨g R.d.x (by simp), g R.d.dx (by simp [dsEs]), R.d.back, R.d.chk, R.d.set, R.d.get, g R.d.y (by simp), g R.d.dy (by simp [dsEs])⟩, ⟨g R.c.x (by simp), g R.c.dx (by simp [dsEs]), (Store.set_ne hw).trans R.c.aw⟩,
    ⟨g R.t.hx (by simp), g R.t.hdx (by simp [dsEs, Tk.es, tkEs]), g R.t.hal (by simp), g R.t.he0 (by simp [dsEs]), g R.t.hfl (by simp), g R.t.hul (by simp), g R.t.htl (by simp), g R.t.hvd (by simp [dsEs]), R.t.hne⟩, R.ne⟩, g G.hc (by simp), G.E.trans E (by rintro b rfl; exact .inr G.fd), G.nd, G.fr, G.fd⟩
/-- the changed list's place turns -/
theorem GsS.dc {σ σ' σ'' : Store} {m : Bool} {n : Nm} {k : Tk} {cl : Bool} {wes : Es} {deps ts : List Str} {r dr rs c c' : Addr} {st : Str} {er : AV} {ch ch' : List Str} (G : GsS σ σ' m n k cl wes deps ts r dr rs c st er ch)
    (E : Ext (· = n.tdx) σ' σ'') (hd : σ'' n.tdx = some (.dict (Tk.es { k with dc := .ref c' }))) (hc : σ'' c' = some (.list (strsA ch'))) : GsS σ σ'' m n k cl wes deps ts r dr rs c' st er ch' :=
  ⟨E.get G.hr (G.R.t.off G.hr (by simp)), E.get G.hdr (G.R.t.off G.hdr (by simp [dsEs, Tk.es, tkEs])), G.R.turn E hd ⟨rfl, rfl, rfl, rfl, rfl⟩, hc, G.E.trans E fun _ h => .inl h, G.nd, G.fr, G.fd⟩
theorem GsS.post {σ σ' : Store} {m : Bool} {n : Nm} {k : Tk} {cl : Bool} {wes : Es} {deps ts : List Str} {r dr rs c : Addr} {z : Str × List Str} {er : AV} {Φ : AV → Store → Prop} (G : GsS σ σ' m n k cl wes deps ts r dr rs c z.1 er z.2) (φ : GsPost σ m n k cl wes deps ts z Φ) : Φ (.ref r) σ' :=
  φ σ' r dr rs er c G.hr G.hdr G.R G.hc G.E
/-- from the reading of the deps on -/
theorem gs_tail {m : Bool} {n : Nm} {k : Tk} {cl : Bool} {wes : Es} {deps ts : List Str} {D : Db} {N : Nat} {F : Addr → Prop} {W S : Str → Option We} {Φ : AV → Store → Prop} {σ' : Store} {r dr rs c : Addr} {ℓ : Locs}
    (G : GsS σ σ' m n k cl wes deps ts r dr rs c "up-to-date" .none []) (hD : DbAt σ' n.a D N F) (L : GsL ℓ n r) (haw : n.aw ≠ dr)
    (hzd : deps.length ≤ 900) (hl : ∀ p ∈ deps, p.length ≤ 100) (hW : ∀ p ∈ deps, wes.get p = (W p).map We.av) (hS : ∀ p ∈ deps, D.get k.nm p = (S p).map (sv m)) (ht : ts.any (fun t => (W t).isNone) = false)
    (φ : GsPost σ m n k cl wes deps ts (statOf m W S deps ts) Φ) : Ss (cx w mg mb h₀ stk) (gsF d) ℓ σ' (gsBody 13) (fun r _ σ' => Φ (retv r) σ') := by
  refine ss_cons (st_assign (ev_list ⟨by simp, fun ca hca => as_local (by rfl) ?_⟩))
  have nca : ca ≠ n.tdx := ne_of G.R.t.hdx hca
  have ncr : ca ≠ r := ne_of G.hr hca
  have ncd : ca ≠ dr := ne_of G.hdr hca
  have zca : σ ca = none := G.E.back hca
  have Gs : ∀ l, GsS σ (σ'.set ca (.list l)) m n k cl wes deps ts r dr rs c "up-to-date" .none [] := fun l =>
    G.ext (F := (· = ca)) (Ext.refl.own rfl) fun b h => by rw [h]; exact hca
  have Ds : ∀ l, DbAt (σ'.set ca (.list l)) n.a D N F := fun l => hD.keep fun b fb hb => Store.set_ne (by rintro rfl; exact hb hca)
  have G₀ := Gs []
  refine ss_cons (st_for rfl (itr_list (ev_attr (ev_cell (by rfl) L.task (op_at G₀.R.t.hx G₀.R.t.hdx (by rfl) (by kernel_rfl) (by rfl) ⟨k.fl, _, rfl, .inl G₀.R.t.hfl, quiet_name _ _ _,
    fun i ℓ σ₁ => GsL ℓ n r ∧ ℓ "changed" = some (.ref ca) ∧ σ₁ = σ'.set ca (.list (strsA ((deps.take i).filter (modf m W S)))) ∧ (∀ p ∈ deps.take i, (W p).isNone = false),
    ⟨L.set (by decide) (by decide) (by decide) (by decide), by rfl, by rw [List.take_zero]; rfl, fun p hp => by simp at hp⟩, fun _ _ _ h => by rw [h.2.2.1]; exact .inl (Gs _).R.t.hfl, ?_, ?_⟩)))))
  · rintro i v ℓ σ₁ hv ⟨L, lc, rfl, hpre⟩
    obtain ⟨p, rfl, hp⟩ := strs_at hv
    have hm : p ∈ deps := List.mem_of_getElem? hp
    have hi : i < deps.length := by
      rcases Nat.lt_or_ge i deps.length with h | h
      · exact h
      · rw [List.getElem?_eq_none h] at hp; cases hp
    have G := Gs (strsA ((deps.take i).filter (modf m W S)))
    have hD := Ds (strsA ((deps.take i).filter (modf m W S)))
    have hca : (σ'.set ca (.list (strsA ((deps.take i).filter (modf m W S))))) ca = some (.list (strsA ((deps.take i).filter (modf m W S)))) := Store.set_same ..
    generalize hσ : σ'.set ca (.list (strsA ((deps.take i).filter (modf m W S)))) = σ₁ at G hD hca
    refine as_local (by rfl) ?_
    replace L : GsL (ℓ.set "dep" (.str p)) n r := L.set (by decide) (by decide) (by decide) (by decide)
    refine ss_cons (st_assign (ev_meth (ev_local (by rfl) L.self (meth_at (fm := aDependency__get) G.R.d.x G.R.d.dx (by rfl) (by kernel_rfl) ?_))))
    refine ev_attr (ev_cell (by rfl) L.task (op_at G.R.t.hx G.R.t.hdx (by rfl) (by kernel_rfl) (by rfl) (ev_local (by rfl) (by rfl) (Ca.cw (Dependency_get G.R.d hD ?_)))))
    rw [show (D.get k.nm p).getD .none = ((S p).map (sv m)).getD .none by rw [hS p hm]]
    refine as_local (by rfl) ?_
    replace L : GsL ((ℓ.set "dep" (.str p)).set "state" (((S p).map (sv m)).getD .none)) n r := L.set (by decide) (by decide) (by decide) (by decide)
    cases hWp : W p with
    | none =>
      have hwp : wes.get p = none := by rw [hW p hm, hWp]; rfl
      refine ss_cons (st_try_raise excMF (by rfl) (by rfl) (trr_assign (trr_meth (ev_attr (ev_local (by rfl) L.self (op_at G.R.d.x G.R.d.dx (by rfl) (by kernel_rfl) (by rfl) ⟨rfl, meth_at (fm := aFileChangedChecker_info) G.R.c.x G.R.c.dx (by rfl) (by cases m <;> kernel_rfl) ?_⟩))))) ?_)
      · exact ev_local (by rfl) (by rfl) ⟨rfl, Checker_info_miss (Cm_is m) G.R.c hwp⟩
      refine ss_cons (st_assign (ev_meth (ev_str ⟨_, meth_str PySem.F.slot_str_format_m PySem.F.type_str_format_m, cok, ev_local (by rfl) (by rfl) (cw_format (hl p hm) fun y => as_local (by rfl) ?_)⟩)))
      refine ss_cons (st_assign (ev_local (by rfl) (by rfl) (as_attr (ev_local (by rfl) L.res (op_set G.hr G.hdr (by kernel_rfl) (Nat.le_of_ble_eq_true rfl) ?_)))))
      have G₂ := G.st (st' := "up-to-date") (er' := .str y) haw
      refine ss_cons (st_if (te_val (ev_meth (ev_local (by rfl) L.res (meth_at (fm := aDependencyStatus_add_reason) G₂.hr G₂.hdr (by rfl) (by kernel_rfl) (ev_str (ev_local (by rfl) (by rfl) (ev_str (Ca.cw (Status_add (s' := "error") G₂.hr G₂.hdr G₂.nd (tr_bool ?_) _ (.inr rfl)))))))))))
      have G₃ := G₂.st (st' := "error") (er' := .str y) haw
      refine ss_cons (st_return (ev_local (by rfl) L.res ?_))
      have e : statOf m W S deps ts = (("error" : Str), ([] : List Str)) := by
        unfold statOf
        rw [ht, if_neg (by simp), if_pos (by rw [List.any_eq_true]; exact ⟨p, hm, by rw [hWp]; rfl⟩)]
      rw [e] at φ
      exact GsS.post (z := (("error" : Str), ([] : List Str))) G₃ φ
    | some e =>
      have hwp : wes.get p = some e.av := by rw [hW p hm, hWp]; rfl
      have hpre' : ∀ q ∈ deps.take (i + 1), (W q).isNone = false := fun q hq => by
        rw [List.take_add_one, hp, List.mem_append] at hq
        rcases hq with h | h
        · exact hpre q h
        · obtain rfl : q = p := by simpa using h
          rw [hWp]; rfl
      have step : ∀ z, modified m e (S p) = z → (deps.take (i + 1)).filter (modf m W S) = (deps.take i).filter (modf m W S) ++ (if z = true then [p] else []) := fun z hz => by
        rw [List.take_add_one, hp, List.filter_append]
        congr 1
        have : modf m W S p = z := by unfold modf; rw [hWp]; exact hz
        simp only [Option.toList, List.filter_cons, List.filter_nil, this]
      refine ss_cons (st_try (ss_cons (st_assign (ev_meth (ev_attr (ev_local (by rfl) L.self (op_at G.R.d.x G.R.d.dx (by rfl) (by kernel_rfl) (by rfl) (meth_at (fm := aFileChangedChecker_info) G.R.c.x G.R.c.dx (by rfl) (by cases m <;> kernel_rfl) ?_))))))))
      refine ev_local (by rfl) (by rfl) (Ca.cw (Checker_info (Cm_is m) G.R.c hwp (as_local (by rfl) (ss_nil ?_))))
      replace L : GsL (((ℓ.set "dep" (.str p)).set "state" (((S p).map (sv m)).getD .none)).set "file_stat" e.av) n r := L.set (by decide) (by decide) (by decide) (by decide)
      refine ss_cons (st_if (te_or ?_))
      have app : ∀ {ℓ' : Locs}, GsL ℓ' n r → ℓ' "changed" = some (.ref ca) → ((deps.take (i + 1)).filter (modf m W S) = (deps.take i).filter (modf m W S) ++ [p]) → (fun ℓ σ₁ => GsL ℓ n r ∧ ℓ "changed" = some (.ref ca) ∧ σ₁ = σ'.set ca (.list (strsA ((deps.take (i + 1)).filter (modf m W S)))) ∧ (∀ p ∈ deps.take (i + 1), (W p).isNone = false)) ℓ' (σ₁.set ca (.list (strsA ((deps.take i).filter (modf m W S)) ++ [.str p]))) := fun L' lc' h =>
        ⟨L', lc', by rw [← hσ, Store.set_set, h]; simp [strsA], hpre'⟩
      have hlen : (strsA ((deps.take i).filter (modf m W S))).length ≤ 1000 := by
        rw [List.length_map]
        refine Nat.le_trans (List.length_filter_le _ _) (Nat.le_trans (List.length_take_le _ _) ?_)
        omega
      cases hSp : S p with
      | none =>
        rw [hSp] at L step
        refine te_cmp (ev_local (by rfl) (by rfl) (ev_none (op_is_none ⟨_, rfl, ?_⟩)))
        refine ss_cons (st_expr (ev_meth (ev_local (by rfl) lc ⟨_, meth_list (.inl hca) PySem.F.slot_list_append PySem.F.type_list_append, cok, ev_local (by rfl) (by rfl) (cw_append hca hlen ?_)⟩)))
        exact ss_nil (ss_nil (ss_nil (app L lc (step true rfl))))
      | some s =>
        rw [hSp] at L step
        refine te_cmp (ev_local (by rfl) (by rfl) (ev_none (op_is_none ⟨_, rfl, ?_⟩)))
        rw [show (((some s).map (sv m)).getD AV.none).isNone = false by cases m <;> rfl]
        refine te_val (ev_meth (ev_attr (ev_local (by rfl) L.self (op_at G.R.d.x G.R.d.dx (by rfl) (by kernel_rfl) (by rfl) (meth_at (fm := aMod m) G.R.c.x G.R.c.dx (by rfl) (by cases m <;> kernel_rfl) ?_)))))
        refine ev_local (by rfl) (by rfl) (ev_local (by rfl) (by rfl) (ev_local (by rfl) (by rfl) (Ca.cw (Chk_mod G.R.c hwp (tr_bool ?_)))))
        cases hz : modified m e (some s) with
        | true =>
          refine ss_cons (st_expr (ev_meth (ev_local (by rfl) lc ⟨_, meth_list (.inl hca) PySem.F.slot_list_append PySem.F.type_list_append, cok, ev_local (by rfl) (by rfl) (cw_append hca hlen ?_)⟩)))
          exact ss_nil (ss_nil (ss_nil (app L lc (step true hz))))
        | false =>
          refine ss_nil (ss_nil (ss_nil ⟨L, lc, ?_, hpre'⟩))
          rw [← hσ, step false hz]
          simp
  · rintro ℓ _ ⟨L, lc, rfl, hpre⟩
    rw [show (strsA deps).length = deps.length by simp] at hpre ⊢
    rw [List.take_length] at hpre ⊢
    have G := Gs (strsA (deps.filter (modf m W S)))
    have hca : (σ'.set ca (.list (strsA (deps.filter (modf m W S))))) ca = some (.list (strsA (deps.filter (modf m W S)))) := Store.set_same ..
    have hd' : deps.any (fun p => (W p).isNone) = false := by
      rw [List.any_eq_false]; intro p hp; rw [hpre p hp]; simp
    have e : statOf m W S deps ts = ((if deps.filter (modf m W S) = [] then ("up-to-date" : Str) else ("run" : Str)), deps.filter (modf m W S)) := by
      unfold statOf
      rw [ht, if_neg (by simp), hd', if_neg (by simp)]
    rw [e] at φ
    have hlen : (strsA (deps.filter (modf m W S))).length ≤ 1000 := by
      rw [List.length_map]
      refine Nat.le_trans (List.length_filter_le _ _) ?_
      omega
    generalize σ'.set ca (.list (strsA (deps.filter (modf m W S)))) = σ₁ at G hca
    refine ss_cons (st_assign (ev_local (by rfl) lc (as_attr (ev_cell (by rfl) L.task (op_setK G.R.t.hx G.R.t.hdx (by kernel_rfl) (Nat.le_of_ble_eq_true rfl) G.R.t.nx fun σ₂ hx hd E₂ => ?_)))))
    have G₂ := G.dc (c' := ca) (ch' := deps.filter (modf m W S)) E₂ hd (E₂.get hca nca)
    refine ss_cons (st_if (te_cmp (ev_call (ev_builtin (by rfl) (by kernel_rfl) glob_len ⟨_, rfl, cok, ev_local (by rfl) lc (cw_len_list (.inl G₂.hc) hlen (ev_int (op_gt_int ⟨_, rfl, ?_⟩)))⟩))))
    cases hc : deps.filter (modf m W S) with
    | nil =>
      rw [hc] at G₂ φ
      refine ss_nil ?_
      exact ss_cons (st_return (ev_local (by rfl) L.res (GsS.post G₂ φ)))
    | cons p q =>
      rw [hc] at G₂ φ
      rw [show decide ((0 : Int) < ((strsA (p :: q)).length : Nat)) = true by simp]
      refine ss_cons (st_expr (ev_meth (ev_local (by rfl) L.res (meth_at (fm := aDependencyStatus_set_reason) G₂.hr G₂.hdr (by rfl) (by kernel_rfl) (ev_str (ev_local (by rfl) lc (Ca.cw (Status_set G₂.hr G₂.hdr G₂.nd ?_))))))))
      refine ss_nil ?_
      exact ss_cons (st_return (ev_local (by rfl) L.res (GsS.post (G₂.st (st' := "run") (er' := .none) haw) φ)))
end

section
variable {w : World} {mg mb : Str → Option Value} {h₀ : Heap} {stk : List Env} {σ : Store} {d : Nat} {hf : Bool}
theorem dd_self : ∀ {l : List Str}, l.Nodup → (dd l).length = l.length ∧ ∀ x, x ∈ dd l ↔ x ∈ l := by
  intro l h
  have key : ∀ (l s : List Str), l.Nodup → (∀ x ∈ l, x ∉ s) → (l.foldl addS s).length = s.length + l.length := by
    intro l
    induction l with
    | nil => intro s _ _; simp
    | cons y r ih =>
      intro s h n
      rw [List.nodup_cons] at h
      rw [List.foldl_cons, ih _ h.2 (fun x hx => by
        rw [addS_mem]
        rintro (a | a)
        · exact n x (List.mem_cons_of_mem _ hx) a
        · subst a; exact h.1 hx), addS_len, if_neg (n y List.mem_cons_self)]
      simp; omega
  exact ⟨by have := key l [] h (by simp); simpa [dd] using this, dd_mem l⟩
/-- the deps held, the deps asked: the same -/
theorem gs_mid {m : Bool} {n : Nm} {k : Tk} {cl : Bool} {wes : Es} {deps ts : List Str} {D : Db} {N : Nat} {F : Addr → Prop} {W S : Str → Option We} {Φ : AV → Store → Prop} {σ' : Store} {r dr rs c : Addr} {ℓ : Locs}
    (G : GsS σ σ' m n k cl wes deps ts r dr rs c "up-to-date" .none []) (hD : DbAt σ' n.a D N F) (L : GsL ℓ n r) (haw : n.aw ≠ dr) (nd : deps.Nodup) (hne : deps ≠ [])
    (hzd : deps.length ≤ 900) (hl : ∀ p ∈ deps, p.length ≤ 100) (hW : ∀ p ∈ deps, wes.get p = (W p).map We.av) (hS : ∀ p ∈ deps, D.get k.nm p = (S p).map (sv m)) (ht : ts.any (fun t => (W t).isNone) = false)
    (h1 : D.get k.nm "checker:" = none ∨ D.get k.nm "checker:" = some (.str (cnm m))) (h2 : D.get k.nm "deps:" = none ∨ D.get k.nm "deps:" = some (.tup (strsA deps)))
    (φ : GsPost σ m n k cl wes deps ts (statOf m W S deps ts) Φ) : Ss (cx w mg mb h₀ stk) (gsF d) ℓ σ' (gsBody 7) (fun r _ σ' => Φ (retv r) σ') := by
  refine ss_cons (st_assign (ev_meth (ev_local (by rfl) L.self (meth_at (fm := aDependency__get) G.R.d.x G.R.d.dx (by rfl) (by kernel_rfl) ?_))))
  refine ev_attr (ev_cell (by rfl) L.task (op_at G.R.t.hx G.R.t.hdx (by rfl) (by kernel_rfl) (by rfl) (ev_str (Ca.cw (Dependency_get G.R.d hD ?_)))))
  refine as_local (by rfl) ?_
  replace L : GsL (ℓ.set "previous" ((D.get k.nm "checker:").getD .none)) n r := L.set (by decide) (by decide) (by decide) (by decide)
  refine ss_cons (st_assign (ev_attr (ev_attr (ev_local (by rfl) L.self (op_at G.R.d.x G.R.d.dx (by rfl) (by kernel_rfl) (by rfl) (op_cls (s := cnm m) G.R.c.x G.R.c.dx (by rfl) (by cases m <;> kernel_rfl) (as_local (by rfl) ?_)))))))
  replace L : GsL ((ℓ.set "previous" ((D.get k.nm "checker:").getD .none)).set "checker_name" (.str (cnm m))) n r := L.set (by decide) (by decide) (by decide) (by decide)
  have rest : ∀ {ℓ : Locs}, GsL ℓ n r → Ss (cx w mg mb h₀ stk) (gsF d) ℓ σ' (gsBody 10) (fun r _ σ' => Φ (retv r) σ') := by
    intro ℓ L
    refine ss_cons (st_assign (ev_meth (ev_local (by rfl) L.self (meth_at (fm := aDependency__get) G.R.d.x G.R.d.dx (by rfl) (by kernel_rfl) ?_))))
    refine ev_attr (ev_cell (by rfl) L.task (op_at G.R.t.hx G.R.t.hdx (by rfl) (by kernel_rfl) (by rfl) (ev_str (Ca.cw (Dependency_get G.R.d hD ?_)))))
    refine as_local (by rfl) ?_
    replace L : GsL (ℓ.set "previous" ((D.get k.nm "deps:").getD .none)) n r := L.set (by decide) (by decide) (by decide) (by decide)
    rcases h2 with h | h
    · rw [h] at L ⊢
      refine ss_cons (st_assign (ev_ifexp (te_val (ev_local (by rfl) (by rfl) (tr_none ?_)))))
      refine ev_none (as_cell (by rfl) (by rfl) ?_)
      replace L : GsL ((ℓ.set "previous" ((none : Option AV).getD .none)).set "previous_set" .none) n r := L.set (by decide) (by decide) (by decide) (by decide)
      refine ss_cons (st_if (te_and ?_))
      refine te_val (ev_cell (by rfl) (by rfl) (tr_none ?_))
      exact ss_nil (gs_tail G hD L haw hzd hl hW hS ht φ)
    · rw [h] at L ⊢
      refine ss_cons (st_assign (ev_ifexp (te_val (ev_local (by rfl) (by rfl) (tr_tup (vs := strsA deps) (by simp; omega) ?_)))))
      rw [show (!(strsA deps).isEmpty) = true by cases deps with | nil => exact absurd rfl hne | cons _ _ => rfl]
      refine ev_call (ev_builtin (by rfl) (by kernel_rfl) glob_set ⟨_, rfl, cok_type, ev_local (by rfl) (by rfl) (cw_set (l := 0) (.inr rfl) rfl (by omega) fun s1 hs1 => as_cell (by rfl) (by rfl) ?_)⟩)
      have G₁ := G.ext (F := fun b => σ' b = none) (Ext.refl.own (a := s1) (o := .set (dd deps)) hs1) fun _ h => h
      have hD₁ : DbAt (σ'.set s1 (.set (dd deps))) n.a D N F := hD.keep fun b fb hb => Store.set_ne (by rintro rfl; exact hb hs1)
      have h1 : (σ'.set s1 (.set (dd deps))) s1 = some (.set (dd deps)) := Store.set_same ..
      generalize σ'.set s1 (.set (dd deps)) = σ₁ at G₁ hD₁ h1
      replace L : GsL ((ℓ.set "previous" ((some (AV.tup (strsA deps))).getD .none)).set "previous_set" (.ref s1)) n r := L.set (by decide) (by decide) (by decide) (by decide)
      have hdl := dd_len deps
      refine ss_cons (st_if (te_and ?_))
      refine te_val (ev_cell (by rfl) (by rfl) (tr_set h1 (by omega) ?_))
      rw [show ((dd deps).length != 0) = true by rw [(dd_self nd).1]; cases deps with | nil => exact absurd rfl hne | cons _ _ => rfl]
      refine te_cmp (ev_cell (by rfl) (by rfl) (ev_call (ev_builtin (by rfl) (by kernel_rfl) glob_set ⟨_, rfl, cok_type, ev_attr (ev_cell (by rfl) L.task (op_at G₁.R.t.hx G₁.R.t.hdx (by rfl) (by kernel_rfl) (by rfl) (cw_set (.inl ⟨rfl, .inl G₁.R.t.hfl⟩) rfl (by omega) fun s2 hs2 => ?_)))⟩)))
      refine op_ne_set (Store.set_old h1 hs2) (Store.set_same _ _ _) (by omega) (by omega) fun z hz => ⟨_, rfl, ?_⟩
      obtain rfl : z = true := hz.mpr ⟨rfl, fun _ h => h⟩
      have G₂ := G₁.ext (F := fun b => σ₁ b = none) (Ext.refl.own (a := s2) (o := .set (dd deps)) hs2) fun _ h => h
      have hD₂ : DbAt (σ₁.set s2 (.set (dd deps))) n.a D N F := hD₁.keep fun b fb hb => Store.set_ne (by rintro rfl; exact hb hs2)
      exact ss_nil (gs_tail G₂ hD₂ L haw hzd hl hW hS ht φ)
  rcases h1 with h | h
  · rw [h] at L ⊢
    refine ss_cons (st_if (te_and ?_))
    refine te_val (ev_local (by rfl) (by rfl) (tr_none ?_))
    exact ss_nil (rest L)
  · rw [h] at L ⊢
    refine ss_cons (st_if (te_and ?_))
    refine te_val (ev_local (by rfl) (by rfl) (tr_str (x := cnm m) (by cases m <;> decide) ?_))
    rw [show (((cnm m).length : Int) != 0) = true by cases m <;> rfl]
    refine te_cmp (ev_local (by rfl) (by rfl) (ev_local (by rfl) (by rfl) (op_ne_str (i := cnm m) ⟨_, rfl, ?_⟩)))
    rw [show (cnm m != cnm m) = false by simp]
    exact ss_nil (rest L)
end

theorem Ext.weaken {F G : Addr → Prop} {σ σ' : Store} (E : Ext F σ σ') (h : ∀ b, F b → σ b = none) : Ext G σ σ' := ⟨fun b hb _ => E.keep b hb fun f => hb (h b f), E.live⟩
section
variable {w : World} {mg mb : Str → Option Value} {h₀ : Heap} {stk : List Env} {σ : Store} {d : Nat} {hf : Bool}
theorem Dep_status {m : Bool} {n : Nm} {k : Tk} {cl : Bool} {wes : Es} {deps ts : List Str} {D : Db} {N : Nat} {F : Addr → Prop} {W S : Str → Option We} {Φ : AV → Store → Prop} {dtd : AV}
    (R : Rd σ m n k cl wes deps ts) (hD : DbAt σ n.a D N F) (hF : ¬ F n.tdx) (nd : deps.Nodup) (hne : deps ≠ [])
    (hzd : deps.length ≤ 900) (hzt : ts.length ≤ 900) (hl : ∀ p ∈ deps, p.length ≤ 100) (hW : ∀ p, p ∈ deps ∨ p ∈ ts → wes.get p = (W p).map We.av) (hS : ∀ p ∈ deps, D.get k.nm p = (S p).map (sv m))
    (h1 : D.get k.nm "checker:" = none ∨ D.get k.nm "checker:" = some (.str (cnm m))) (h2 : D.get k.nm "deps:" = none ∨ D.get k.nm "deps:" = some (.tup (strsA deps)))
    (φ : GsPost σ m n k cl wes deps ts (statOf m W S deps ts) Φ) : Ca (cx w mg mb h₀ stk) (d + 3) true σ (.val (.ref aDependency_get_status)) [.ref n.x, .ref n.tx, dtd] [] Φ := by
  refine ca_def (isD_Dependency_get_status w.params) (ab := [("self", .ref n.x), ("task", .ref n.tx), ("tasks_dict", dtd), ("get_log", .bool false)]) ?_ (by kernel_rfl) fun stk' => ?_
  · intro s xs ks ok kb va vk
    have X := Frag.In.keeps ok.X kb
    rcases va with _ | ⟨a1, va⟩; rcases va with _ | ⟨a2, va⟩; rcases va with _ | ⟨a3, va⟩; cases va; cases vk
    refine ⟨_, ?_, .cons a1 (.cons a2 (.cons a3 (.cons (.bool false) .nil)))⟩
    exact kp_binds X fun S => by kernel_rfl
  refine ss_cons (st_assign (ev_call (ev_glob (v := .ref cDependencyStatus) (av := .val (.ref cDependencyStatus)) (by rfl) (by kernel_rfl) (fun _ _ => .val _) ⟨_, rfl, .inl (by kernel_rfl), ev_local (by rfl) (by rfl) ?_⟩)))
  refine Ca.cw (ca_class (fI := aDependencyStatus___init__) (by kernel_rfl) (by kernel_rfl) (by kernel_rfl) fun r dr hdr hr ne => ?_)
  refine Status_init (Store.set_same _ _ _) ((Store.set_ne ne).trans (Store.set_same _ _ _)) ne.symm fun rs σ₁ hx₁ hd₁ k₁ l₁ => ⟨rfl, as_local (by rfl) ?_⟩
  have E₁ : Ext (fun b => σ b = none) σ σ₁ := ((Ext.refl.own (a := dr) (o := .dict []) hdr).own (a := r) (o := .inst cDependencyStatus dr) hr).trans (F' := (· = dr)) ⟨k₁, l₁⟩ (by rintro b rfl; exact .inl hdr)
  have R₁ := R.ext E₁ fun _ h => h
  have haw : n.aw ≠ dr := by rintro h; have := R.c.aw; rw [h, hdr] at this; cases this
  refine ss_cons (st_assign (ev_list ⟨by simp, fun c hc => as_attr (ev_cell (by rfl) (by rfl) (op_setK (Store.set_old R₁.t.hx hc) (Store.set_old R₁.t.hdx hc) (by kernel_rfl) (Nat.le_of_ble_eq_true rfl) R₁.t.nx fun σ₂ hx hd E₂ => ?_))⟩))
  have nc : c ≠ n.tdx := ne_of R₁.t.hdx hc
  have E₂' : Ext (· = n.tdx) σ₁ σ₂ := (Ext.refl.alloc hc (o := .list [])).trans E₂ fun _ h => .inl h
  have G : GsS σ σ₂ m n k cl wes deps ts r dr rs c "up-to-date" .none [] :=
    ⟨E₂'.get hx₁ (R₁.t.off hx₁ (by simp)), E₂'.get hd₁ (R₁.t.off hd₁ (by simp [dsEs, Tk.es, tkEs])), R₁.turn E₂' hd ⟨rfl, rfl, rfl, rfl, rfl⟩, E₂.get (Store.set_same _ _ _) nc, (E₁.weaken fun _ h => h).trans E₂' fun _ h => .inl h, ne.symm, hr, hdr⟩
  clear hx hd E₂ E₂' hx₁ hd₁ k₁ l₁
  refine ss_cons (st_assign (ev_list ⟨by simp, fun u hu => as_local (by rfl) ?_⟩))
  replace G := G.ext (F := fun b => σ₂ b = none) (Ext.refl.own (a := u) (o := .list []) hu) fun _ h => h
  generalize σ₂.set u (.list []) = σ₃ at G
  have hD₃ : DbAt σ₃ n.a D N F := hD.keep fun b fb hb => G.E.keep b hb (by rintro rfl; exact hF fb)
  refine ss_cons (st_for rfl (itr_list (ev_attr (ev_cell (by rfl) (by rfl) (op_at G.R.t.hx G.R.t.hdx (by rfl) (by kernel_rfl) (by rfl) ⟨k.ul, _, rfl, .inl G.R.t.hul, .inr ⟨⟨_, _, _, rfl⟩, by simp⟩,
    fun _ ℓ σ' => GsL ℓ n r ∧ σ' = σ₃, ⟨⟨by rfl, by rfl, by rfl, by rfl⟩, rfl⟩, fun _ _ _ h => by obtain ⟨_, rfl⟩ := h; exact .inl G.R.t.hul, fun _ _ _ _ h => by simp at h, ?_⟩)))))
  rintro ℓ σ₃ ⟨L, rfl⟩
  refine ss_cons (st_if (te_and ?_))
  refine te_not (te_val (ev_local (by rfl) L.log (tr_bool ?_)))
  refine te_cmp (ev_attr (ev_local (by rfl) L.res (op_at G.hr G.hdr (by rfl) (by kernel_rfl) (by rfl) (ev_str (op_eq_str ⟨_, rfl, ?_⟩)))))
  refine ss_nil ?_
  refine ss_cons (st_if (te_not (te_or ?_)))
  refine te_val (ev_attr (ev_cell (by rfl) L.task (op_at G.R.t.hx G.R.t.hdx (by rfl) (by kernel_rfl) (by rfl) (tr_list (.inl G.R.t.hfl) (by simp; omega) ?_))))
  rw [show (!(strsA deps).isEmpty) = true by cases deps with | nil => exact absurd rfl hne | cons _ _ => rfl]
  refine ss_nil ?_
  refine ss_cons (st_for rfl (itr_list (ev_attr (ev_cell (by rfl) L.task (op_at G.R.t.hx G.R.t.hdx (by rfl) (by kernel_rfl) (by rfl) ⟨k.tl, _, rfl, .inl G.R.t.htl, quiet_name _ _ _,
    fun i ℓ σ' => GsL ℓ n r ∧ σ' = σ₃ ∧ ∀ t ∈ ts.take i, (W t).isNone = false, ⟨L, rfl, fun t ht => by simp at ht⟩, fun _ _ _ h => by obtain ⟨_, rfl, _⟩ := h; exact .inl G.R.t.htl, ?_, ?_⟩)))))
  · rintro i v ℓ σ₃ hv ⟨L, rfl, hpre⟩
    obtain ⟨t, rfl, ht⟩ := strs_at hv
    have hm : t ∈ ts := List.mem_of_getElem? ht
    refine as_local (by rfl) ?_
    replace L : GsL (ℓ.set "targ" (.str t)) n r := L.set (by decide) (by decide) (by decide) (by decide)
    refine ss_cons (st_if (te_not (te_val (ev_meth (ev_attr (ev_local (by rfl) L.self (op_at G.R.d.x G.R.d.dx (by rfl) (by kernel_rfl) (by rfl) (meth_at (fm := aFileChangedChecker_exists) G.R.c.x G.R.c.dx (by rfl) (by cases m <;> kernel_rfl) ?_))))))))
    refine ev_local (by rfl) (by rfl) (Ca.cw (Checker_exists (Cm_is m) G.R.c (tr_bool ?_)))
    cases hWt : W t with
    | none =>
      rw [show wes.has t = false by rw [Es.has_get, hW t (.inr hm), hWt]; rfl]
      have e : statOf m W S deps ts = (("run" : Str), deps) := by
        unfold statOf
        rw [if_pos (by rw [List.any_eq_true]; exact ⟨t, hm, by rw [hWt]; rfl⟩)]
      rw [e] at φ
      refine ss_cons (st_assign (ev_call (ev_builtin (by rfl) (by kernel_rfl) glob_list ⟨_, rfl, cok_type, ev_attr (ev_cell (by rfl) L.task (op_at G.R.t.hx G.R.t.hdx (by rfl) (by kernel_rfl) (by rfl) (cw_list (.inl G.R.t.hfl) (by simp; omega) fun c' hc' => as_attr (ev_cell (by rfl) L.task (op_setK (Store.set_old G.R.t.hx hc') (Store.set_old G.R.t.hdx hc') (by kernel_rfl) (Nat.le_of_ble_eq_true rfl) G.R.t.nx fun σ₄ hx hd E₄ => ?_)))))⟩)))
      have nc' : c' ≠ n.tdx := ne_of G.R.t.hdx hc'
      have G₄ : GsS σ σ₄ m n k cl wes deps ts r dr rs c' "up-to-date" .none deps := G.dc (c' := c') ((Ext.refl.alloc hc' (o := .list (strsA deps))).trans E₄ fun _ h => .inl h) hd (E₄.get (Store.set_same _ _ _) nc')
      refine ss_cons (st_if (te_val (ev_meth (ev_local (by rfl) L.res (meth_at (fm := aDependencyStatus_add_reason) G₄.hr G₄.hdr (by rfl) (by kernel_rfl) (ev_str (ev_local (by rfl) (by rfl) (Ca.cw (Status_add (s' := "run") G₄.hr G₄.hdr G₄.nd (tr_bool ?_) _ (.inl ⟨rfl, rfl⟩))))))))))
      refine ss_cons (st_return (ev_local (by rfl) L.res ?_))
      exact GsS.post (z := (("run" : Str), deps)) (G₄.st (st' := "run") (er' := .none) haw) φ
    | some e =>
      rw [show wes.has t = true by rw [Es.has_get, hW t (.inr hm), hWt]; rfl]
      refine ss_nil (ss_nil ⟨L, rfl, fun q hq => ?_⟩)
      rw [List.take_add_one, ht, List.mem_append] at hq
      rcases hq with h | h
      · exact hpre q h
      · obtain rfl : q = t := by simpa using h
        rw [hWt]; rfl
  · rintro ℓ σ₃ ⟨L, rfl, hpre⟩
    rw [show (strsA ts).length = ts.length by simp, List.take_length] at hpre
    exact gs_mid G hD₃ L haw nd hne hzd hl (fun p hp => hW p (.inl hp)) hS (by rw [List.any_eq_false]; intro p hp; rw [hpre p hp]; simp) h1 h2 φ
end

noncomputable def fs5 : List Str := ["f1", "f2", "f3", "f4", "out"]
noncomputable def held4 : List Str := ["a", "b", "aa", ""]
noncomputable def upd (W : Str → Option We) (p : Str) (e : Option We) : Str → Option We := fun q => if q = p then e else W q
noncomputable def stepW (W : Str → Option We) (clock kind : Int) (p tx : Str) : Str → Option We :=
  if kind < 2 then upd W p (some ⟨clock, tx.length, tx⟩) else if kind = 2 then (match W p with | some e => upd W p (some ⟨clock, e.sz, e.tx⟩) | none => W) else if kind = 3 then upd W p none else W
/-- the world's dict holds just this -/
noncomputable def Wd (wes : Es) (W : Str → Option We) : Prop := ∀ p, wes.get p = (W p).map We.av
theorem Wd.put {wes : Es} {W : Str → Option We} (h : Wd wes W) (p : Str) (e : We) : Wd (wes.put p e.av) (upd W p (some e)) := fun q => by
  rw [Es.get_put]; unfold upd; split
  · rfl
  · exact h q
theorem Wd.del {wes : Es} {W : Str → Option We} (h : Wd wes W) (p : Str) : Wd (wes.del p) (upd W p none) := fun q => by
  rw [Es.get_del]; unfold upd; split
  · rfl
  · exact h q
theorem Wd.has {wes : Es} {W : Str → Option We} (h : Wd wes W) (p : Str) : wes.has p = (W p).isSome := by
  rw [Es.has_get, h p]; cases W p <;> rfl
theorem upd_same {W : Str → Option We} {p : Str} {e : Option We} (h : W p = e) : upd W p e = W := by
  funext q; unfold upd; split
  · rename_i x; rw [x, h]
  · rfl
section
variable {w : World} {mg mb : Str → Option Value} {h₀ : Heap} {stk : List Env} {σ : Store} {d : Nat} {hf : Bool}
theorem law_files {Φ : AV → Store → Prop} (φ : ∀ a, σ a = none → Φ (.ref a) (σ.set a (.list (strsA fs5)))) : Ca (cx w mg mb h₀ stk) (d + 1) hf σ (.val (.ref a_law_files)) [] [] Φ := by
  refine ca_def (isD__law_files w.params) (ab := []) ?_ (by kernel_rfl) fun stk' => ?_
  · intro s xs ks _ _ va vk; cases vk; cases va; exact ⟨_, BindsTo.of_eq rfl, .nil⟩
  refine ss_cons (st_return (ev_list ?_))
  exact ev_str (ev_str (ev_str (ev_str (ev_str ⟨by simp, φ⟩))))
theorem law_held {Φ : AV → Store → Prop} (φ : ∀ a, σ a = none → Φ (.ref a) (σ.set a (.list (strsA held4)))) : Ca (cx w mg mb h₀ stk) (d + 1) hf σ (.val (.ref a_law_held)) [] [] Φ := by
  refine ca_def (isD__law_held w.params) (ab := []) ?_ (by kernel_rfl) fun stk' => ?_
  · intro s xs ks _ _ va vk; cases vk; cases va; exact ⟨_, BindsTo.of_eq rfl, .nil⟩
  refine ss_cons (st_return (ev_list ?_))
  exact ev_str (ev_str (ev_str (ev_str ⟨by simp, φ⟩)))
theorem law_step {aw : Addr} {wes : Es} {W : Str → Option We} {clock kind : Int} {p tx : Str} {Φ : AV → Store → Prop} (hw : σ aw = some (.dict wes)) (hW : Wd wes W) (hz : wes.length ≤ 900) (htx : tx.length ≤ 900)
    (φ : ∀ wes', Wd wes' (stepW W clock kind p tx) → wes'.length ≤ wes.length + 1 → Φ .none (σ.set aw (.dict wes'))) :
    Ca (cx w mg mb h₀ stk) (d + 1) hf σ (.val (.ref a_law_step)) [.ref aw, .int clock, .int kind, .str p, .str tx] [] Φ := by
  refine ca_def (isD__law_step w.params) (ab := [("world", .ref aw), ("clock", .int clock), ("kind", .int kind), ("path", .str p), ("text", .str tx)]) ?_ (by kernel_rfl) fun stk' => ?_
  · intro s xs ks _ _ va vk; cases vk
    rcases va with _ | ⟨a1, va⟩; rcases va with _ | ⟨a2, va⟩; rcases va with _ | ⟨a3, va⟩; rcases va with _ | ⟨a4, va⟩; rcases va with _ | ⟨a5, va⟩; cases va
    exact ⟨_, BindsTo.of_eq rfl, .cons a1 (.cons a2 (.cons a3 (.cons a4 (.cons a5 .nil))))⟩
  have same : stepW W clock kind p tx = W → Φ .none σ := fun e => by
    have := φ wes (by rw [e]; exact hW) (by omega)
    rwa [Store.set_self hw] at this
  refine ss_cons (st_if (te_cmp (ev_local (by rfl) (by rfl) (ev_int (op_lt_int ⟨_, rfl, ?_⟩)))))
  by_cases h2 : kind < 2
  · rw [show decide (kind < 2) = true by simp [h2]]
    have e : stepW W clock kind p tx = upd W p (some ⟨clock, tx.length, tx⟩) := by unfold stepW; rw [if_pos h2]
    refine ss_cons (st_assign (ev_tuple (ev_local (by rfl) (by rfl) (ev_call (ev_builtin (by rfl) (by kernel_rfl) glob_len ⟨_, rfl, cok, ev_local (by rfl) (by rfl) (cw_len_str (by omega) (ev_local (by rfl) (by rfl) ⟨by simp, ?_⟩))⟩)))))
    refine as_sub (ev_local (by rfl) (by rfl) (ev_local (by rfl) (by rfl) (opu_set_dict hw (by omega) ?_)))
    exact ss_nil (ss_nil (φ _ (by rw [e]; exact hW.put p ⟨clock, tx.length, tx⟩) (Es.put_len ..)))
  · rw [show decide (kind < 2) = false by simp [h2]]
    refine ss_cons (st_if (te_and ?_))
    refine te_cmp (ev_local (by rfl) (by rfl) (ev_int (op_eq_int ⟨_, rfl, ?_⟩)))
    by_cases h3 : kind = 2
    · subst h3
      rw [show ((2 : Int) == 2) = true by rfl]
      refine te_cmp (ev_local (by rfl) (by rfl) (ev_local (by rfl) (by rfl) (op_in hw ⟨_, rfl, ?_⟩)))
      rw [hW.has p]
      cases hp : W p with
      | some e =>
        have e' : stepW W clock 2 p tx = upd W p (some ⟨clock, e.sz, e.tx⟩) := by unfold stepW; rw [if_neg h2, if_pos rfl, hp]
        refine ss_cons (st_assign (ev_bin (ev_tuple (ev_local (by rfl) (by rfl) ⟨by simp, ev_slice_tup (ev_sub (ev_local (by rfl) (by rfl) (ev_local (by rfl) (by rfl) (op_sub_dict (fun _ _ => rfl) hw (by rw [hW p, hp]; rfl) ⟨[.int e.ts, .int e.sz, .str e.tx], rfl, by simp, by simp, by simp, op_add_tup (by simp) (by simp) (by simp) ?_⟩)))) ⟩))))
        refine as_sub (ev_local (by rfl) (by rfl) (ev_local (by rfl) (by rfl) (opu_set_dict hw (by omega) ?_)))
        exact ss_nil (ss_nil (ss_nil (φ _ (by rw [e']; exact hW.put p ⟨clock, e.sz, e.tx⟩) (Es.put_len ..))))
      | none =>
        refine ss_cons (st_if (te_and ?_))
        refine te_cmp (ev_local (by rfl) (by rfl) (ev_int (op_eq_int ⟨_, rfl, ?_⟩)))
        exact ss_nil (ss_nil (ss_nil (ss_nil (same (by unfold stepW; rw [if_neg h2, if_pos rfl, hp])))))
    · rw [show (kind == 2) = false by simp [h3]]
      refine ss_cons (st_if (te_and ?_))
      refine te_cmp (ev_local (by rfl) (by rfl) (ev_int (op_eq_int ⟨_, rfl, ?_⟩)))
      by_cases h4 : kind = 3
      · subst h4
        rw [show ((3 : Int) == 3) = true by rfl]
        have e' : stepW W clock 3 p tx = upd W p none := by unfold stepW; rw [if_neg h2, if_neg h3, if_pos rfl]
        refine te_cmp (ev_local (by rfl) (by rfl) (ev_local (by rfl) (by rfl) (op_in hw ⟨_, rfl, ?_⟩)))
        rw [hW.has p]
        cases hp : W p with
        | some e =>
          refine ss_cons (st_expr (ev_meth (ev_local (by rfl) (by rfl) ⟨_, meth_dict hw PySem.F.slot_dict_pop PySem.F.type_dict_pop, cok, ev_local (by rfl) (by rfl) (cw_pop (v := e.av) hw (by omega) (by rw [hW p, hp]; rfl) ?_)⟩)))
          exact ss_nil (ss_nil (ss_nil (ss_nil (φ _ (by rw [e']; exact hW.del p) (Nat.le_trans (List.length_filter_le _ _) (by omega))))))
        | none => exact ss_nil (ss_nil (ss_nil (ss_nil (same (by rw [e']; exact upd_same hp)))))
      · rw [show (kind == 3) = false by simp [h4]]
        exact ss_nil (ss_nil (ss_nil (ss_nil (same (by unfold stepW; rw [if_neg h2, if_neg h3, if_neg h4])))))
end

noncomputable def compOkB (o s : Scope) : Bool := (s.kind == .function) && s.names.all fun y => (y.2 != .cell) && (y.2 != .local || s.names.lookup y.1 == some .local) && (y.2 != .free || o.names.lookup y.1 == some .cell)
theorem compOk_of {f : Fn} {s : Scope} (k : compOkB f.scope s = true) : CompOk f s := by
  unfold compOkB at k
  simp only [Bool.and_eq_true, List.all_eq_true, beq_iff_eq, Bool.or_eq_true, bne_iff_ne] at k
  refine ⟨k.1, fun y hy => (k.2 y hy).1.1, fun y hy e => ?_, fun y hy e => ?_⟩
  · rcases (k.2 y hy).1.2 with h | h
    · exact absurd e h
    · exact h
  · rcases (k.2 y hy).2 with h | h
    · exact absurd e h
    · exact h
noncomputable def gq (q : Str → Bool) : AV → Option AV
  | .str p => if q p = true then some (.str p) else none
  | _ => none
theorem gq_strs (q : Str → Bool) : ∀ l : List Str, (strsA l).filterMap (gq q) = strsA (l.filter q)
  | [] => rfl
  | p :: r => by
    have ih := gq_strs q r
    cases h : q p with
    | true =>
      rw [List.filter_cons_of_pos h]
      show List.filterMap (gq q) (AV.str p :: strsA r) = AV.str p :: strsA (r.filter q)
      rw [List.filterMap_cons_some (b := .str p) (by show (if q p = true then some (AV.str p) else none) = _; rw [if_pos h]), ih]
    | false =>
      rw [List.filter_cons_of_neg (by simp [h])]
      show List.filterMap (gq q) (AV.str p :: strsA r) = _
      rw [List.filterMap_cons_none (by show (if q p = true then some (AV.str p) else none) = _; rw [if_neg (by simp [h])]), ih]
noncomputable def difQ (m : Bool) (W : Str → Option We) (L : Option (Str → Option We)) (p : Str) : Bool := match L with
  | none => true
  | some l => match l p, W p with
    | some a, some b => if m = true then a.tx != b.tx else a.ts != b.ts
    | _, _ => false
noncomputable def dueOf (m : Bool) (W : Str → Option We) (L : Option (Str → Option We)) (deps ts : List Str) : Str × List Str :=
  if ts.any (fun t => (W t).isNone) = true then ("run", deps) else if deps.any (fun p => (W p).isNone) = true then ("error", []) else
    (if deps.filter (difQ m W L) = [] then "up-to-date" else "run", deps.filter (difQ m W L))
/-- what was last seen -/
noncomputable def LastAt (σ : Store) (v : AV) (L : Option (Str → Option We)) (deps : List Str) : Prop := (v = .none ∧ L = none) ∨ ∃ (la : Addr) (les : Es) (l : Str → Option We), v = .ref la ∧ L = some l ∧ σ la = some (.dict les) ∧ Wd les l ∧ ∀ p ∈ deps, (l p).isSome = true
theorem any_filter {α : Type} (q : α → Bool) (l : List α) : (l.filter q = []) ↔ l.any q = false := by
  rw [List.filter_eq_nil_iff, List.any_eq_false]
section
variable {c : Cx} {f : Fn} {ℓ : Locs} {σ σ' σ'' : Store} {h h' h₀ h'' : Heap} {p : Pl} {wr : List Addr}
theorem st_assign_compP {x : Str} {xpos spos : Pos} {elt t iter : Expr} {ifs : List Expr} {scope : Scope} {pos : Pos} {Φ : AF → Locs → Store → Prop} (hf : f.hf = true) (K : CompOk f scope) (hk : f.kind x = some .local)
    (q : Itr c f ℓ σ iter t fun vs Req σ₁ => ∃ g : AV → Option AV, vs.length ≤ 1000 ∧ (∀ σ', σ₁.le σ' → Req σ') ∧ (∀ v ∈ vs, ∀ σ', σ₁.le σ' → CompTurn c (f.comp scope) (ℓ.comp f scope) t elt ifs g v σ') ∧
      ∀ D, σ₁ D = none → Φ .next (ℓ.set x (.ref D)) (σ₁.set D (.list (vs.filterMap g))))
    (hsw : ∀ p : Pl, swapsWith (.ListComp elt [⟨t, iter, ifs, 0⟩] scope pos) (some (.Name x xpos)) spos.line (f.env p) = pure true := by intro _; rfl)
    (hs : ∀ env x, foldedSetIterable iter env x = pure x := by intro _ _; rfl) : St c f ℓ σ (.Assign [.Name x xpos] (.ListComp elt [⟨t, iter, ifs, 0⟩] scope pos) spos) Φ := by
  intro A p s Q E ok rm H k
  rw [exec_Assign_Name_used _ _ _ _ (hsw _)]
  refine wpAny_bind (wpAny_standAt (wpAny_bind ?_))
  show wpAny _ A (do let _ ← comprehension (.ListComp elt [⟨t, iter, ifs, 0⟩] scope pos) scope (f.env p) _ (newList []) false (eval iter (f.env p)) (some (assign (.Name x xpos) (f.env p)))) _ _ s
  refine wpAny_bind ?_
  refine comp_core (use := some (assign (.Name x xpos) (f.env p))) (Q := fun _ s' => wpAny (model c.prog c.w) A (pure ()) (fun _ s' => wpAny (model c.prog c.w) A (pure Flow.next) Q E s') E s') (Φ := fun D σ' => Φ .next (ℓ.set x (.ref D)) σ') hf K q hs ok rm H
    fun D σ' C h' tk m φ H' s' hn hC C₀ nl nc n0 => ?_
  show wpAny _ A (assign (.Name x xpos) (f.env p) (.ref D)) _ _ _
  refine as_local (Φ := fun ℓ' σ'' => ℓ' = ℓ.set x (.ref D) ∧ σ'' = σ') hk ⟨rfl, rfl⟩ A p { s with heap := h', toks := tk } (.ref D) _ E ok rm H' (.ref D) fun ℓ' σ'' h₂ t₂ e H₂ s₂ => ?_
  obtain ⟨rfl, rfl⟩ := e
  have ownC : ¬ Own f p C := by
    rintro (e | ⟨y, _, hy⟩)
    · exact nl e
    · exact nc y hy
  have hn₂ : h₂.Ns C m := Ns.kp hn fun o e => s₂.keep C o e hC ownC
  refine ⟨m, hn₂, fun h'' hs'' => wpAny_pure (wpAny_pure ?_)⟩
  have hw : Hids c σ'' h₂ [C] := fun b mb => by
    rw [List.mem_singleton] at mb; subst mb
    obtain ⟨o, es, ep, ho, hd, _⟩ := hn₂
    exact ⟨hC, C₀, H.good.notFrame n0, o, ho, fun xs e => by rw [e] at hd; cases hd⟩
  have kb : KeepBut [C] h₂ h'' := fun b o nb e => (hs''.2 b fun q => nb (List.mem_singleton.mpr q)).trans e
  exact k .next .next _ _ h'' t₂ φ (H₂.hidL hw kb fun b mb => by rw [List.mem_singleton] at mb; subst mb; exact ⟨nl, nc⟩) ((s'.trans H' s₂).hidL kb fun b mb => by rw [List.mem_singleton] at mb; subst mb; exact n0) .next

end
section
variable {w : World} {mg mb : Str → Option Value} {h₀ : Heap} {stk : List Env} {σ : Store} {d : Nat} {hf : Bool}
theorem law_due {m : Bool} {aw dl tl : Addr} {wes : Es} {W : Str → Option We} {nm : Str} {deps ts : List Str} {lv : AV} {L : Option (Str → Option We)} {Φ : AV → Store → Prop} (hw : σ aw = some (.dict wes)) (hW : Wd wes W)
    (hdl : BaseL h₀ dl (strsA deps)) (htl : BaseL h₀ tl (strsA ts)) (hzd : deps.length ≤ 900) (hzt : ts.length ≤ 900) (hL : LastAt σ lv L deps) (hok : ∀ p, p ∈ deps ∨ p ∈ ts → PyData.strOk p = true)
    (φ : ∀ σ' l, Ext (fun _ => False) σ σ' → ListIs (cx w mg mb h₀ stk) σ' l (strsA (dueOf m W L deps ts).2) → Φ (.tup [.str (dueOf m W L deps ts).1, .ref l]) σ') :
    Ca (cx w mg mb h₀ stk) (d + 1) true σ (.val (.ref a_law_due)) [.ref aw, .int (if m then 0 else 1), .tup [.str nm, .ref dl, .ref tl], lv] [] Φ := by
  refine ca_def (isD__law_due w.params) (ab := [("world", .ref aw), ("which", .int (if m then 0 else 1)), ("row", .tup [.str nm, .ref dl, .ref tl]), ("last", lv)]) (by walk_at "b4") (by kernel_rfl) fun stk' => ?_
  refine ss_cons (st_assign (ev_local (by rfl) (by rfl) (as_tuple rfl (vs := [.str nm, .ref dl, .ref tl]) (by rfl) (as_local (by rfl) (as_local (by rfl) (as_local (by rfl) ?_))))))
  have miss : ∀ {σ' : Store}, Ext (fun _ => False) σ σ' → σ' aw = some (.dict wes) := fun E => E.get hw id
  refine ss_cons (st_if (te_cmp (ev_comp rfl (compOk_of (by kernel_rfl)) (itr_list (ev_local (by rfl) (by rfl) ⟨tl, strsA ts, rfl, htl.is, quiet_name _ _ _, gq fun p => (W p).isNone, by simp; omega, fun _ _ => htl.is, fun v hv σ' hle => ?_, fun a1 ha1 => ?_⟩)))))
  · obtain ⟨p, hp, rfl⟩ := List.mem_map.mp hv
    have hw' : σ' aw = some (.dict wes) := (hle aw (by rw [hw]; simp)).trans hw
    refine as_local (by rfl) ⟨rfl, fun x u h => ?_, ?_⟩
    · rw [Locs.set_ne]
      · exact h
      · rintro rfl; cases h
    · refine te_cmp (ev_local (by rfl) (by rfl) (ev_cell (by rfl) (by rfl) (op_notin hw' ⟨_, rfl, ?_⟩)))
      rw [hW.has p]
      cases hp' : W p with
      | none => exact ⟨rfl, ev_local (by rfl) (by rfl) ⟨rfl, by show (if (W p).isNone = true then _ else _) = _; rw [hp']; rfl⟩⟩
      | some e => exact ⟨rfl, by show (if (W p).isNone = true then _ else _) = _; rw [hp']; rfl⟩
  rw [gq_strs]
  have z1 : ∀ p ∈ ts.filter (fun p => (W p).isNone), PyData.strOk p = true := fun p hp => hok p (.inr (List.mem_filter.mp hp).1)
  refine ev_list ⟨by simp, fun b1 hb1 => op_ne_strs (ss := ts.filter fun p => (W p).isNone) (ts := []) (.inl (Store.set_old (Store.set_same _ _ _) hb1)) (.inl (Store.set_same _ _ _)) z1 (by simp) ⟨_, rfl, ?_⟩⟩
  have E₁ : Ext (fun _ => False) σ ((σ.set a1 (.list (strsA (ts.filter fun p => (W p).isNone)))).set b1 (.list [])) := (Ext.refl.alloc ha1).alloc hb1
  generalize (σ.set a1 (.list (strsA (ts.filter fun p => (W p).isNone)))).set b1 (.list []) = σ₁ at E₁
  cases ht : ts.any (fun t => (W t).isNone) with
  | true =>
    have e : dueOf m W L deps ts = (("run" : Str), deps) := by unfold dueOf; rw [if_pos ht]
    rw [show (!decide (ts.filter (fun p => (W p).isNone) = [])) = true by
      have : ¬ ts.filter (fun p => (W p).isNone) = [] := fun h => by rw [(any_filter _ _).mp h] at ht; cases ht
      simp only [this, decide_false, Bool.not_false]]
    have := φ σ₁ dl E₁ (by rw [e]; exact hdl.is)
    rw [e] at this
    exact ss_cons (st_return (ev_tuple (ev_str (ev_local (by rfl) (by rfl) ⟨by simp, this⟩))))
  | false =>
  rw [show (!decide (ts.filter (fun p => (W p).isNone) = [])) = false by
      have : ts.filter (fun p => (W p).isNone) = [] := (any_filter _ _).mpr ht
      simp only [this, decide_true, Bool.not_true]]
  refine ss_nil ?_
  have hw₁ := E₁.get hw id
  refine ss_cons (st_if (te_cmp (ev_comp rfl (compOk_of (by kernel_rfl)) (itr_list (ev_local (by rfl) (by rfl) ⟨dl, strsA deps, rfl, hdl.is, quiet_name _ _ _, gq fun p => (W p).isNone, by simp; omega, fun _ _ => hdl.is, fun v hv σ' hle => ?_, fun a2 ha2 => ?_⟩)))))
  · obtain ⟨p, hp, rfl⟩ := List.mem_map.mp hv
    have hw' : σ' aw = some (.dict wes) := (hle aw (by rw [hw₁]; simp)).trans hw₁
    refine as_local (by rfl) ⟨rfl, fun x u h => ?_, ?_⟩
    · rw [Locs.set_ne]
      · exact h
      · rintro rfl; cases h
    · refine te_cmp (ev_local (by rfl) (by rfl) (ev_cell (by rfl) (by rfl) (op_notin hw' ⟨_, rfl, ?_⟩)))
      rw [hW.has p]
      cases hp' : W p with
      | none => exact ⟨rfl, ev_local (by rfl) (by rfl) ⟨rfl, by show (if (W p).isNone = true then _ else _) = _; rw [hp']; rfl⟩⟩
      | some e => exact ⟨rfl, by show (if (W p).isNone = true then _ else _) = _; rw [hp']; rfl⟩
  rw [gq_strs]
  have z2 : ∀ p ∈ deps.filter (fun p => (W p).isNone), PyData.strOk p = true := fun p hp => hok p (.inl (List.mem_filter.mp hp).1)
  refine ev_list ⟨by simp, fun b2 hb2 => op_ne_strs (ss := deps.filter fun p => (W p).isNone) (ts := []) (.inl (Store.set_old (Store.set_same _ _ _) hb2)) (.inl (Store.set_same _ _ _)) z2 (by simp) ⟨_, rfl, ?_⟩⟩
  have E₂ : Ext (fun _ => False) σ ((σ₁.set a2 (.list (strsA (deps.filter fun p => (W p).isNone)))).set b2 (.list [])) := (E₁.alloc ha2).alloc hb2
  generalize (σ₁.set a2 (.list (strsA (deps.filter fun p => (W p).isNone)))).set b2 (.list []) = σ₂ at E₂
  cases hd : deps.any (fun t => (W t).isNone) with
  | true =>
    have e : dueOf m W L deps ts = (("error" : Str), []) := by unfold dueOf; rw [if_neg (by rw [ht]; simp), if_pos hd]
    rw [show (!decide (deps.filter (fun p => (W p).isNone) = [])) = true by
      have : ¬ deps.filter (fun p => (W p).isNone) = [] := fun h => by rw [(any_filter _ _).mp h] at hd; cases hd
      simp only [this, decide_false, Bool.not_false]]
    refine ss_cons (st_return (ev_tuple (ev_str (ev_list ⟨by simp, fun c1 hc1 => ⟨by simp, ?_⟩⟩))))
    have := φ _ c1 (E₂.alloc hc1 (o := .list [])) (by rw [e]; exact .inl (Store.set_same _ _ _))
    rw [e] at this
    exact this
  | false =>
  rw [show (!decide (deps.filter (fun p => (W p).isNone) = [])) = false by
      have : deps.filter (fun p => (W p).isNone) = [] := (any_filter _ _).mpr hd
      simp only [this, decide_true, Bool.not_true]]
  refine ss_nil ?_
  have hw₂ := E₂.get hw id
  have e : dueOf m W L deps ts = ((if deps.filter (difQ m W L) = [] then ("up-to-date" : Str) else ("run" : Str)), deps.filter (difQ m W L)) := by
    unfold dueOf; rw [if_neg (by rw [ht]; simp), if_neg (by rw [hd]; simp)]
  refine ss_cons (st_assign_compP rfl (compOk_of (by kernel_rfl)) (by rfl) (itr_list (ev_local (by rfl) (by rfl) ⟨dl, strsA deps, rfl, hdl.is, quiet_name _ _ _, gq (difQ m W L), by simp; omega, fun _ _ => hdl.is, fun v hv σ' hle => ?_, fun a3 ha3 => ?_⟩)))
  · obtain ⟨p, hp, rfl⟩ := List.mem_map.mp hv
    have hw' : σ' aw = some (.dict wes) := (hle aw (by rw [hw₂]; simp)).trans hw₂
    refine as_local (by rfl) ⟨rfl, fun x u h => ?_, te_or ?_⟩
    · rw [Locs.set_ne]
      · exact h
      · rintro rfl; cases h
    · rcases hL with ⟨rfl, rfl⟩ | ⟨la, les, l, rfl, rfl, hla, hles, hin⟩
      · refine te_cmp (ev_cell (by rfl) (by rfl) (ev_none (op_is_none ⟨_, rfl, ?_⟩)))
        exact ⟨rfl, ev_local (by rfl) (by rfl) ⟨rfl, rfl⟩⟩
      · have hla' : σ' la = some (.dict les) := (hle la (by rw [E₂.get hla id]; simp)).trans (E₂.get hla id)
        refine te_cmp (ev_cell (by rfl) (by rfl) (ev_none (op_is_none ⟨_, rfl, ?_⟩)))
        obtain ⟨x, hx⟩ := Option.isSome_iff_exists.mp (hin p hp)
        have hwp : (W p).isNone = false := by
          rw [List.any_eq_false] at hd
          have := hd p hp
          cases h : W p with
          | none => rw [h] at this; exact absurd rfl this
          | some _ => rfl
        obtain ⟨y, hy⟩ : ∃ y, W p = some y := by cases h : W p with | none => rw [h] at hwp; cases hwp | some y => exact ⟨y, rfl⟩
        have hlx : les.get p = some (.tup [.int x.ts, .int x.sz, .str x.tx]) := by rw [hles p, hx]; rfl
        have hwy : wes.get p = some (.tup [.int y.ts, .int y.sz, .str y.tx]) := by rw [hW p, hy]; rfl
        have hq : difQ m W (some l) p = if m = true then x.tx != y.tx else x.ts != y.ts := by unfold difQ; simp only [hx, hy]
        have fin : ∀ z, difQ m W (some l) p = z → gq (difQ m W (some l)) (.str p) = if z = true then some (.str p) else none := fun z hz => by
          show (if difQ m W (some l) p = true then _ else _) = _; rw [hz]
        cases m with
        | true =>
          refine te_cmp (ev_sub (ev_sub (ev_cell (by rfl) (by rfl) (ev_local (by rfl) (by rfl) (op_sub_dict (fun _ _ => rfl) hla' hlx (ev_ifexp (te_cmp (ev_cell (by rfl) (by rfl) (ev_int (op_eq_int ⟨_, rfl, ?_⟩))))))))))
          refine ev_int (op_sub_tup (v := .str x.tx) (fun _ _ => rfl) (by decide) (by decide) (by rfl) ?_)
          refine ev_sub (ev_sub (ev_cell (by rfl) (by rfl) (ev_local (by rfl) (by rfl) (op_sub_dict (fun _ _ => rfl) hw' hwy (ev_ifexp (te_cmp (ev_cell (by rfl) (by rfl) (ev_int (op_eq_int ⟨_, rfl, ?_⟩)))))))))
          refine ev_int (op_sub_tup (v := .str y.tx) (fun _ _ => rfl) (by decide) (by decide) (by rfl) (op_ne_str ⟨_, rfl, ?_⟩))
          rw [if_pos rfl] at hq
          cases hz : (x.tx != y.tx) with
          | true => exact ⟨rfl, ev_local (by rfl) (by rfl) ⟨rfl, by rw [fin true (hq.trans hz)]; rfl⟩⟩
          | false => exact ⟨rfl, by rw [fin false (hq.trans hz)]; rfl⟩
        | false =>
          refine te_cmp (ev_sub (ev_sub (ev_cell (by rfl) (by rfl) (ev_local (by rfl) (by rfl) (op_sub_dict (fun _ _ => rfl) hla' hlx (ev_ifexp (te_cmp (ev_cell (by rfl) (by rfl) (ev_int (op_eq_int ⟨_, rfl, ?_⟩))))))))))
          refine ev_int (op_sub_tup (v := .int x.ts) (fun _ _ => rfl) (by decide) (by decide) (by rfl) ?_)
          refine ev_sub (ev_sub (ev_cell (by rfl) (by rfl) (ev_local (by rfl) (by rfl) (op_sub_dict (fun _ _ => rfl) hw' hwy (ev_ifexp (te_cmp (ev_cell (by rfl) (by rfl) (ev_int (op_eq_int ⟨_, rfl, ?_⟩)))))))))
          refine ev_int (op_sub_tup (v := .int y.ts) (fun _ _ => rfl) (by decide) (by decide) (by rfl) (op_ne_int ⟨_, rfl, ?_⟩))
          rw [if_neg (by simp)] at hq
          cases hz : (x.ts != y.ts) with
          | true => exact ⟨rfl, ev_local (by rfl) (by rfl) ⟨rfl, by rw [fin true (hq.trans hz)]; rfl⟩⟩
          | false => exact ⟨rfl, by rw [fin false (hq.trans hz)]; rfl⟩
  rw [gq_strs]
  have z3 : ∀ p ∈ deps.filter (difQ m W L), PyData.strOk p = true := fun p hp => hok p (.inl (List.mem_filter.mp hp).1)
  refine ss_cons (st_return (ev_tuple (ev_ifexp (te_cmp (ev_local (by rfl) (by rfl) (ev_list ⟨by simp, fun b3 hb3 => op_eq_strs (ss := deps.filter (difQ m W L)) (ts := []) (.inl (Store.set_old (Store.set_same _ _ _) hb3)) (.inl (Store.set_same _ _ _)) z3 (by simp) ⟨_, rfl, ?_⟩⟩))))))
  have := φ _ a3 ((E₂.alloc ha3 (o := .list (strsA (deps.filter (difQ m W L))))).alloc hb3 (o := .list [])) (by rw [e]; exact .inl (Store.set_old (Store.set_same _ _ _) hb3))
  rw [e] at this
  by_cases hc : deps.filter (difQ m W L) = []
  · rw [if_pos hc] at this
    rw [show decide (deps.filter (difQ m W L) = []) = true by simp only [hc, decide_true]]
    exact ev_str (ev_local (by rfl) (by rfl) ⟨by simp, this⟩)
  · rw [if_neg hc] at this
    rw [show decide (deps.filter (difQ m W L) = []) = false by simp only [hc, decide_false]]
    exact ev_str (ev_local (by rfl) (by rfl) ⟨by simp, this⟩)
end

theorem DbAt.alive {σ : Store} {a : Addr} {D : Db} {N : Nat} {F : Addr → Prop} (h : DbAt σ a D N F) : DbAt σ a D N (fun b => F b ∧ σ b ≠ none) := by
  obtain ⟨fa, es, hda, hlen, hnone, hsome, hinj⟩ := h
  refine ⟨⟨fa, by rw [hda]; simp⟩, es, hda, hlen, hnone, fun t d hd => ?_, hinj⟩
  obtain ⟨i, h1, h2, h3, h4, h5⟩ := hsome t d hd
  exact ⟨i, h1, ⟨h2, by rw [h4]; simp⟩, h3, h4, h5⟩
noncomputable def AskedPost (σ : Store) (m : Bool) (db aw : Addr) (nm : Str) (wes : Es) (deps ts : List Str) (D : Db) (N : Nat) (F : Addr → Prop) (z : Str × List Str) (Φ : AV → Store → Prop) : Prop :=
  ∀ σ' n k c, n.a = db → n.aw = aw → k.nm = nm → k.op = .none → k.dc = .ref c → σ' c = some (.list (strsA z.2)) → Rd σ' m n k false wes deps ts → Out F σ' (bs n k) → (∀ b ∈ bs n k, b = aw ∨ σ b = none) → DbAt σ' db D N F → Ext (fun _ => False) σ σ' →
    Φ (.tup [.ref n.x, .ref n.tx, .str z.1]) σ'
section
variable {w : World} {mg mb : Str → Option Value} {h₀ : Heap} {stk : List Env} {σ : Store} {d : Nat} {hf : Bool}
theorem new_chk {m : Bool} {aw : Addr} {Φ : AV → Store → Prop} (φ : ∀ σ' x dx, σ' x = some (.inst (Cm m) dx) → σ' dx = some (.dict [("files", .ref aw)]) → σ x = none → σ dx = none → Ext (fun _ => False) σ σ' → Φ (.ref x) σ') :
    Ca (cx w mg mb h₀ stk) (d + 2) hf σ (.val (.ref (Cm m))) [.ref aw] [] Φ := by
  refine ca_class (fI := aFileChangedChecker___init__) (by cases m <;> kernel_rfl) (by cases m <;> kernel_rfl) (by kernel_rfl) fun x dx hdx hx ne => ?_
  refine Checker_init (Cm_is m) (Store.set_same _ _ _) ((Store.set_ne ne).trans (Store.set_same _ _ _)) ⟨rfl, ?_⟩
  have E : Ext (fun _ => False) σ (((σ.set dx (.dict [])).set x (.inst (Cm m) dx)).set dx (.dict [("files", .ref aw)])) := ((Ext.refl.new hdx).new hx).new hdx
  exact φ _ x dx ((Store.set_ne ne.symm).trans (Store.set_same _ _ _)) (Store.set_same _ _ _) hx hdx E
theorem new_db {a : Addr} {Φ : AV → Store → Prop} (φ : ∀ σ' x dx, σ' x = some (.inst cJsonDB dx) → σ' dx = some (.dict [("_db", .ref a)]) → σ x = none → σ dx = none → Ext (fun _ => False) σ σ' → Φ (.ref x) σ') :
    Ca (cx w mg mb h₀ stk) (d + 2) hf σ (.val (.ref cJsonDB)) [.ref a] [] Φ := by
  refine ca_class (fI := aJsonDB___init__) (by kernel_rfl) (by kernel_rfl) (by kernel_rfl) fun x dx hdx hx ne => ?_
  refine JsonDB_init (Store.set_same _ _ _) ((Store.set_ne ne).trans (Store.set_same _ _ _)) (by simp) ⟨rfl, ?_⟩
  have E : Ext (fun _ => False) σ (((σ.set dx (.dict [])).set x (.inst cJsonDB dx)).set dx (.dict (Es.put [] "_db" (.ref a)))) := ((Ext.refl.new hdx).new hx).new hdx
  exact φ _ x dx ((Store.set_ne ne.symm).trans (Store.set_same _ _ _)) (Store.set_same _ _ _) hx hdx E
theorem new_dep {y ch : Addr} {Φ : AV → Store → Prop} (φ : ∀ σ' x dx, σ' x = some (.inst cDependency dx) → σ' dx = some (.dict [("_closed", .bool false), ("checker", .ref ch), ("backend", .ref y)]) → σ x = none → σ dx = none → Ext (fun _ => False) σ σ' → Φ (.ref x) σ') :
    Ca (cx w mg mb h₀ stk) (d + 2) hf σ (.val (.ref cDependency)) [.ref y, .ref ch] [] Φ := by
  refine ca_class (fI := aDependency___init__) (by kernel_rfl) (by kernel_rfl) (by kernel_rfl) fun x dx hdx hx ne => ?_
  refine Dependency_init (Store.set_same _ _ _) ((Store.set_ne ne).trans (Store.set_same _ _ _)) ne.symm ⟨rfl, ?_⟩
  have E : Ext (fun _ => False) σ (((σ.set dx (.dict [])).set x (.inst cDependency dx)).set dx (.dict [("_closed", .bool false), ("checker", .ref ch), ("backend", .ref y)])) := ((Ext.refl.new hdx).new hx).new hdx
  exact φ _ x dx ((Store.set_ne ne.symm).trans (Store.set_same _ _ _)) (Store.set_same _ _ _) hx hdx E
theorem new_task {a0 e0 l t : Addr} {nm : Str} {deps ts : List Str} {Φ : AV → Store → Prop} (h0 : σ a0 = some (.list [.tup [.str "ok", .none, .ref e0]])) (he0 : σ e0 = some (.dict []))
    (hn : (!(Builtin.Str.occurrences nm "=" 0 nm.length 1).isEmpty) = false) (hl : BaseL h₀ l (strsA deps)) (nd : deps.Nodup) (hz : deps.length ≤ 900) (ht : BaseL h₀ t (strsA ts)) (hzt : ts.length ≤ 900)
    (φ : ∀ σ' x dx k, TaskAt σ' x dx k e0 deps ts → k.nm = nm → k.op = .none → σ x = none → σ dx = none → (σ k.al = none ∧ σ k.fl = none ∧ σ k.ul = none ∧ σ k.tl = none ∧ σ k.vd = none) → Ext (fun _ => False) σ σ' → Φ (.ref x) σ') :
    Ca (cx w mg mb h₀ stk) (d + 4) true σ (.val (.ref cTask)) [.str nm, .ref a0] [("file_dep", .ref l), ("targets", .ref t)] Φ := by
  refine ca_class (fI := aTask___init__) (by kernel_rfl) (by kernel_rfl) (by kernel_rfl) fun x dx hdx hx ne => ?_
  have h0' : ((σ.set dx (.dict [])).set x (.inst cTask dx)) a0 = some (.list [.tup [.str "ok", .none, .ref e0]]) := Store.set_old (Store.set_old h0 hdx) ((Store.set_ne ne.symm).trans hx)
  have he' : ((σ.set dx (.dict [])).set x (.inst cTask dx)) e0 = some (.dict []) := Store.set_old (Store.set_old he0 hdx) ((Store.set_ne ne.symm).trans hx)
  have Ea : Ext (fun _ => False) σ ((σ.set dx (.dict [])).set x (.inst cTask dx)) := (Ext.refl.new hdx).new hx
  refine Task_init (Store.set_same _ _ _) ((Store.set_ne ne).trans (Store.set_same _ _ _)) ne.symm h0' (by simp) hn hl nd hz ht hzt fun σ' sl al fl tdl wl cl ga vs ul tl vd hx' hd' hal hfl hul htl hvd fr E => ⟨rfl, ?_⟩
  obtain ⟨f1, f2, f3, f4, f5⟩ := fr
  have E' : Ext (fun _ => False) σ σ' := Ea.trans E (by rintro b rfl; exact .inr hdx)
  have nde : e0 ≠ dx := by rintro rfl; rw [he0] at hdx; cases hdx
  refine φ σ' x dx ⟨nm, .none, sl, al, .none, fl, tdl, wl, cl, ga, vs, ul, tl, vd, false⟩ ⟨hx', hd', hal, E.get he' nde, hfl, hul, htl, hvd, ?_⟩ rfl rfl hx hdx ⟨Ea.back f1, Ea.back f2, Ea.back f3, Ea.back f4, Ea.back f5⟩ E'
  show vd ≠ e0
  rintro rfl
  rw [he'] at f5; cases f5
end

section
variable {w : World} {mg mb : Str → Option Value} {h₀ : Heap} {stk : List Env} {σ : Store} {d : Nat} {hf : Bool}
theorem Rd.alive {σ : Store} {m : Bool} {n : Nm} {k : Tk} {cl : Bool} {wes : Es} {deps ts : List Str} (R : Rd σ m n k cl wes deps ts) : ∀ b ∈ bs n k, σ b ≠ none := by
  intro b hb
  simp only [bs, List.mem_cons, List.not_mem_nil, or_false] at hb
  have h := R.d.x; have h1 := R.d.dx; have h2 := R.d.y; have h3 := R.d.dy; have h4 := R.c.x; have h5 := R.c.dx; have h6 := R.c.aw
  have h7 := R.t.hx; have h8 := R.t.hdx; have h9 := R.t.he0; have h10 := R.t.hal; have h11 := R.t.hfl; have h12 := R.t.hul; have h13 := R.t.htl; have h14 := R.t.hvd
  rcases hb with rfl | rfl | rfl | rfl | rfl | rfl | rfl | rfl | rfl | rfl | rfl | rfl | rfl | rfl | rfl <;> simp [*]
theorem law_asked {m : Bool} {db aw dl tl : Addr} {wes : Es} {W S : Str → Option We} {nm : Str} {deps ts : List Str} {D : Db} {N : Nat} {F : Addr → Prop} {Φ : AV → Store → Prop} (hw : σ aw = some (.dict wes)) (hD : DbAt σ db D N F) (hF : ∀ b, F b → σ b ≠ none) (haF : ¬ F aw)
    (hn : (!(Builtin.Str.occurrences nm "=" 0 nm.length 1).isEmpty) = false) (hdl : BaseL h₀ dl (strsA deps)) (htl : BaseL h₀ tl (strsA ts)) (hzd : deps.length ≤ 900) (hzt : ts.length ≤ 900) (nd : deps.Nodup) (hne : deps ≠ [])
    (hl : ∀ p ∈ deps, p.length ≤ 100) (hW : ∀ p, p ∈ deps ∨ p ∈ ts → wes.get p = (W p).map We.av) (hS : ∀ p ∈ deps, D.get nm p = (S p).map (sv m))
    (h1 : D.get nm "checker:" = none ∨ D.get nm "checker:" = some (.str (cnm m))) (h2 : D.get nm "deps:" = none ∨ D.get nm "deps:" = some (.tup (strsA deps)))
    (φ : AskedPost σ m db aw nm wes deps ts D N F (statOf m W S deps ts) Φ) :
    Ca (cx w mg mb h₀ stk) (d + 5) true σ (.val (.ref a_law_asked)) [.ref db, .ref aw, .int (if m then 0 else 1), .tup [.str nm, .ref dl, .ref tl]] [] Φ := by
  refine ca_def (isD__law_asked w.params) (ab := [("db", .ref db), ("world", .ref aw), ("which", .int (if m then 0 else 1)), ("row", .tup [.str nm, .ref dl, .ref tl])]) (by walk_at "b4") (by kernel_rfl) fun stk' => ?_
  refine ss_cons (st_assign (ev_local (by rfl) (by rfl) (as_tuple rfl (vs := [.str nm, .ref dl, .ref tl]) (by rfl) (as_local (by rfl) (as_local (by rfl) (as_local (by rfl) ?_))))))
  refine ss_cons (st_assign (ev_ifexp (te_cmp (ev_local (by rfl) (by rfl) (ev_int (op_eq_int ⟨_, rfl, ?_⟩))))))
  have go : ∀ (σ₁ : Store) (ch dch : Addr), σ₁ ch = some (.inst (Cm m) dch) → σ₁ dch = some (.dict [("files", .ref aw)]) → σ ch = none → σ dch = none → Ext (fun _ => False) σ σ₁ →
      ∀ ℓ : Locs, ℓ "name" = some (.str nm) → ℓ "deps" = some (.ref dl) → ℓ "targets" = some (.ref tl) → ℓ "db" = some (.ref db) → ℓ "checker" = some (.ref ch) →
      Ss (cx w mg mb h₀ stk') ⟨(Str.ofString "_law_asked") ++ ".<locals>.", fs [24], some a_law_asked, .ref 675, d + 4, true⟩ ℓ σ₁ (Mine.tl (Mine.tl (subB (fS [24])))) (fun r _ σ' => Φ (retv r) σ') := by
    intro σ₁ ch dch hch hdch zch zdch E₁ ℓ l1 l2 l3 l4 l5
    refine ss_cons (st_assign (ev_call (ev_glob (v := .ref cDependency) (av := .val (.ref cDependency)) (by rfl) (by kernel_rfl) (fun _ _ => .val _) ⟨_, rfl, .inl (by kernel_rfl), ?_⟩)))
    refine ev_call (ev_glob (v := .ref cJsonDB) (av := .val (.ref cJsonDB)) (by rfl) (by kernel_rfl) (fun _ _ => .val _) ⟨_, rfl, .inl (by kernel_rfl), ev_local (by rfl) l4 (Ca.cw (new_db fun σ₂ y dy hy hdy zy zdy E₂ => ev_local (by rfl) l5 (Ca.cw (new_dep fun σ₃ x dx hx hdx zx zdx E₃ => as_local (by rfl) ?_))))⟩)
    refine ss_cons (st_assign (ev_call_kw (ns := ["file_dep", "targets"]) (ev_glob (v := .ref cTask) (av := .val (.ref cTask)) (by rfl) (by kernel_rfl) (fun _ _ => .val _) ⟨_, rfl, .inl (by kernel_rfl), ev_local (by rfl) l1 ?_⟩)))
    refine ev_list (ev_tuple (ev_str (ev_none (ev_dict_nil fun e0 he0 => ⟨by simp, by simp, fun a0 ha0 => ?_⟩))))
    refine ev_local (by rfl) l2 (ev_local (by rfl) l3 (Ca.cw (new_task (Store.set_same _ _ _) (Store.set_old (Store.set_same _ _ _) ha0) hn hdl nd hzd htl hzt fun σ₄ tx tdx k T hnm hop ztx ztdx fr E₄ => as_local (by rfl) ?_)))
    have no : ∀ {σ : Store}, ∀ b : Addr, (fun _ : Addr => False) b → (fun _ : Addr => False) b ∨ σ b = none := fun _ h => h.elim
    have E₁₂ := E₁.trans E₂ no
    have E₁₃ := E₁₂.trans E₃ no
    have Ea := E₁₃.alloc he0 (o := .dict [])
    have Eb := Ea.alloc ha0 (o := .list [.tup [.str "ok", .none, .ref e0]])
    have E := Eb.trans E₄ no
    have up : ∀ {b : Addr} {o : AO}, σ₃ b = some o → σ₄ b = some o := fun h => E₄.get (Store.set_old (Store.set_old h he0) ha0) id
    have R : Rd σ₄ m ⟨x, dx, y, dy, db, ch, dch, aw, tx, tdx, e0⟩ k false wes deps ts :=
      ⟨⟨up hx, up hdx, rfl, rfl, rfl, rfl, up (E₃.get hy id), up (E₃.get hdy id)⟩, ⟨up (E₃.get (E₂.get hch id) id), up (E₃.get (E₂.get hdch id) id), E.get hw id⟩, T, by
        show aw ≠ tdx
        rintro rfl
        have := Eb.back ztdx
        rw [hw] at this; cases this⟩
    have hD₄ : DbAt σ₄ db D N F := hD.keep fun b fb hb => E.keep b hb id
    have ztd := Eb.back ztdx
    obtain ⟨f1, f2, f3, f4, f5⟩ := fr
    have zb : ∀ b ∈ bs (⟨x, dx, y, dy, db, ch, dch, aw, tx, tdx, e0⟩ : Nm) k, b = aw ∨ σ b = none := by
      intro b hb
      simp only [bs, List.mem_cons, List.not_mem_nil, or_false] at hb
      rcases hb with rfl | rfl | rfl | rfl | rfl | rfl | rfl | rfl | rfl | rfl | rfl | rfl | rfl | rfl | rfl
      · exact .inr (E₁₂.back zx)
      · exact .inr (E₁₂.back zdx)
      · exact .inr (E₁.back zy)
      · exact .inr (E₁.back zdy)
      · exact .inr zch
      · exact .inr zdch
      · exact .inl rfl
      · exact .inr (Eb.back ztx)
      · exact .inr ztd
      · exact .inr (E₁₃.back he0)
      · exact .inr (Eb.back f1)
      · exact .inr (Eb.back f2)
      · exact .inr (Eb.back f3)
      · exact .inr (Eb.back f4)
      · exact .inr (Eb.back f5)
    refine ss_cons (st_return (ev_tuple (ev_local (by rfl) (by rfl) (ev_local (by rfl) (by rfl) (ev_attr (ev_meth (ev_local (by rfl) (by rfl) (meth_at (fm := aDependency_get_status) R.d.x R.d.dx (by rfl) (by kernel_rfl) ?_))))))))
    refine ev_local (by rfl) (by rfl) (ev_dict (pairs := [(_, _)]) rfl rfl (by simp) (by simp) fun DD hDD => ?_)
    refine ev_local (by rfl) l1 ⟨nm, rfl, ev_local (by rfl) (by rfl) ⟨by simp, Store.set_same _ _ _, ?_⟩⟩
    have Ed : Ext (fun b => σ₄ b = none) σ₄ ((σ₄.set DD (.dict [])).set DD (.dict [(nm, .ref tx)])) := (Ext.refl.own hDD).own hDD
    have Rd' := R.ext Ed fun _ h => h
    have hDd : DbAt ((σ₄.set DD (.dict [])).set DD (.dict [(nm, .ref tx)])) db D N F := hD₄.keep fun b fb hb => Ed.keep b hb hb
    generalize (σ₄.set DD (.dict [])).set DD (.dict [(nm, .ref tx)]) = σ₅ at Ed Rd' hDd
    refine Ca.cw (Dep_status (n := ⟨x, dx, y, dy, db, ch, dch, aw, tx, tdx, e0⟩) (W := W) (S := S) Rd' hDd (fun f => hF _ f ztd) nd hne hzd hzt hl hW (by rw [hnm]; exact hS) (by rw [hnm]; exact h1) (by rw [hnm]; exact h2) fun σ' r dr rs er c hr hdr R' hc E' => ?_)
    refine op_at hr hdr (by rfl) (by kernel_rfl) (by rfl) ⟨by simp, ?_⟩
    have Ef : Ext (fun _ => False) σ σ' := (E.trans (Ed.weaken (G := fun _ => False) fun _ h => h) no).trans E' (by rintro b rfl; exact .inr ztd)
    refine φ σ' ⟨x, dx, y, dy, db, ch, dch, aw, tx, tdx, e0⟩ { k with dc := .ref c } c rfl rfl hnm hop rfl hc R' (fun b hb => ⟨R'.alive b hb, fun f => ?_⟩) zb (hD.keep fun b fb hb => Ef.keep b hb id) Ef
    rcases zb b hb with rfl | z
    · exact haF f
    · exact hF b f z
  cases m with
  | true =>
    refine ev_call (ev_glob (v := .ref cMD5Checker) (av := .val (.ref cMD5Checker)) (by rfl) (by kernel_rfl) (fun _ _ => .val _) ⟨_, rfl, .inl (by kernel_rfl), ev_local (by rfl) (by rfl) (Ca.cw (new_chk (m := true) fun σ₁ ch dch h1 h2 h3 h4 E => as_local (by rfl) ?_))⟩)
    exact go σ₁ ch dch h1 h2 h3 h4 E _ (by rfl) (by rfl) (by rfl) (by rfl) (by rfl)
  | false =>
    refine ev_call (ev_glob (v := .ref cTimestampChecker) (av := .val (.ref cTimestampChecker)) (by rfl) (by kernel_rfl) (fun _ _ => .val _) ⟨_, rfl, .inl (by kernel_rfl), ev_local (by rfl) (by rfl) (Ca.cw (new_chk (m := false) fun σ₁ ch dch h1 h2 h3 h4 E => as_local (by rfl) ?_))⟩)
    exact go σ₁ ch dch h1 h2 h3 h4 E _ (by rfl) (by rfl) (by rfl) (by rfl) (by rfl)
end

noncomputable def tnm : Nat → Str | 0 => "one" | 1 => "two" | _ => "three"
noncomputable def tdeps : Nat → List Str | 0 => ["f1", "f2"] | 1 => ["f2", "f3", "f4"] | _ => ["f4"]
noncomputable def ttgt : Nat → List Str | 0 => [] | 1 => ["out"] | _ => []
noncomputable def tdl : Nat → Addr | 0 => 660 | 1 => 663 | _ => 666
noncomputable def ttl : Nat → Addr | 0 => 661 | 1 => 664 | _ => 667
noncomputable def rowA (j : Nat) : AV := .tup [.str (tnm j), .ref (tdl j), .ref (ttl j)]
section
variable {P : Params} {h₀ : Heap}
theorem base_deps (X : (KZ P).In h₀) : ∀ j, BaseL h₀ (tdl j) (strsA (tdeps j))
  | 0 => ⟨#[.str "f1" 1068, .str "f2" 1069], 0, X _ _ (by kernel_rfl), fun _ _ => .cons (.str _ _) (.cons (.str _ _) .nil)⟩
  | 1 => ⟨#[.str "f2" 1071, .str "f3" 1072, .str "f4" 1073], 0, X _ _ (by kernel_rfl), fun _ _ => .cons (.str _ _) (.cons (.str _ _) (.cons (.str _ _) .nil))⟩
  | _ + 2 => ⟨#[.str "f4" 1076], 0, X _ _ (by kernel_rfl), fun _ _ => .cons (.str _ _) .nil⟩
theorem base_tgt (X : (KZ P).In h₀) : ∀ j, BaseL h₀ (ttl j) (strsA (ttgt j))
  | 0 => ⟨#[], 0, X _ _ (by kernel_rfl), fun _ _ => .nil⟩
  | 1 => ⟨#[.str "out" 1074], 0, X _ _ (by kernel_rfl), fun _ _ => .cons (.str _ _) .nil⟩
  | _ + 2 => ⟨#[], 0, X _ _ (by kernel_rfl), fun _ _ => .nil⟩
theorem base_tasks (X : (KZ P).In h₀) : BaseL h₀ 669 [rowA 0, rowA 1, rowA 2] := by
  refine ⟨#[.ref 662, .ref 665, .ref 668], 0, X _ _ (by kernel_rfl), fun h k => ?_⟩
  have g : ∀ {a : Addr} {o : Obj}, (KZ P).lookup a = some o → h.get? a = some o := fun e => k _ _ (X _ _ e)
  exact .cons (.tup (xs := #[.str "one" 1067, .ref 660, .ref 661]) (g (by kernel_rfl)) (.cons (.str _ _) (.cons (.ref _) (.cons (.ref _) .nil))))
    (.cons (.tup (xs := #[.str "two" 1070, .ref 663, .ref 664]) (g (by kernel_rfl)) (.cons (.str _ _) (.cons (.ref _) (.cons (.ref _) .nil))))
    (.cons (.tup (xs := #[.str "three" 1075, .ref 666, .ref 667]) (g (by kernel_rfl)) (.cons (.str _ _) (.cons (.ref _) (.cons (.ref _) .nil)))) .nil))
end
/-- the plain law: the two tellings agree -/
structure Snap (W : Str → Option We) (p : Str) (a : We) (T : Int) : Prop where
  sz : a.sz = a.tx.length
  ts : a.ts < T
  same : ∀ e, W p = some e → e.ts = a.ts → e = a
noncomputable def OkW (W : Str → Option We) (T : Int) : Prop := ∀ p e, W p = some e → e.sz = e.tx.length ∧ e.ts < T
theorem len_ne {a b : Str} (h : (a.length : Int) ≠ b.length) : (a != b) = true := by
  rw [bne_iff_ne]
  rintro rfl
  exact h rfl
theorem tells_same {m : Bool} {W : Str → Option We} {L : Option (Str → Option We)} {deps ts : List Str} {T : Int} (hW : OkW W T) (hL : ∀ l, L = some l → ∀ p ∈ deps, ∃ a, l p = some a ∧ Snap W p a T) :
    statOf m W (fun p => L.bind fun l => l p) deps ts = dueOf m W L deps ts := by
  unfold statOf dueOf
  split
  · rfl
  · split
    · rfl
    · rename_i h1 h2
      have e : deps.filter (modf m W fun p => L.bind fun l => l p) = deps.filter (difQ m W L) := by
        refine List.filter_congr fun p hp => ?_
        obtain ⟨x, hx⟩ : ∃ x, W p = some x := by
          cases h : W p with
          | none => exact absurd (List.any_eq_true.mpr ⟨p, hp, by rw [h]; rfl⟩) h2
          | some x => exact ⟨x, rfl⟩
        unfold modf difQ
        cases L with
        | none => simp only [hx]; rfl
        | some l =>
          obtain ⟨a, ha, sn⟩ := hL l rfl p hp
          simp only [hx, ha, Option.bind_some]
          unfold modified
          cases m with
          | false => simp only [Bool.false_eq_true, if_false]; rw [bne_comm]
          | true =>
            simp only [if_true]
            by_cases hts : x.ts = a.ts
            · rw [if_pos hts, sn.same x hx hts]; simp
            · rw [if_neg hts]
              by_cases hsz : x.sz = a.sz
              · rw [if_pos hsz]
              · rw [if_neg hsz]
                rw [(hW p x hx).1, sn.sz] at hsz
                exact (len_ne fun q => hsz q.symm).symm
      rw [e]

/-- what was last seen, apart from the world and the db -/
noncomputable def LastR (σ : Store) (aw : Addr) (F : Addr → Prop) (v : AV) (L : Option (Str → Option We)) : Prop :=
  (v = .none ∧ L = none) ∨ ∃ (x : Addr) (les : Es) (l : Str → Option We), v = .ref x ∧ L = some l ∧ σ x = some (.dict les) ∧ Wd les l ∧ x ≠ aw ∧ ¬ F x
structure Rs (σ : Store) (m : Bool) (T T' : Int) (db aw la rl : Addr) (rv : List AV) (v : Nat → AV) (W : Str → Option We) (D : Db) (Ls : Nat → Option (Str → Option We)) (N : Nat) (F : Addr → Prop) : Prop where
  haw : ∃ wes : Es, σ aw = some (.dict wes) ∧ Wd wes W ∧ wes.length ≤ N
  hdb : DbAt σ db D N F
  hal : ∀ b, F b → σ b ≠ none
  awF : ¬ F aw
  laF : ¬ F la
  hla : σ la = some (.list [v 0, v 1, v 2])
  last : ∀ j, LastR σ aw F (v j) (Ls j)
  okW : OkW W T'
  le : T ≤ T'
  snap : ∀ j l, Ls j = some l → (∀ p ∈ tdeps j, ∃ a, l p = some a ∧ Snap W p a T ∧ D.get (tnm j) p = some (sv m a)) ∧ D.get (tnm j) "checker:" = some (.str (cnm m)) ∧ D.get (tnm j) "deps:" = some (.tup (strsA (tdeps j)))
  fresh : ∀ j, Ls j = none → D (tnm j) = none
  hrl : σ rl = some (.list rv) ∧ rl ≠ la ∧ ¬ F rl
section
variable {σ σ' : Store} {m : Bool} {T T' : Int} {db aw la rl : Addr} {rv : List AV} {v : Nat → AV} {W W' : Str → Option We} {D : Db} {Ls : Nat → Option (Str → Option We)} {N : Nat} {F : Addr → Prop}
/-- new objects only -/
theorem Rs.ext (R : Rs σ m T T' db aw la rl rv v W D Ls N F) (E : Ext (fun _ => False) σ σ') : Rs σ' m T T' db aw la rl rv v W D Ls N F := by
  obtain ⟨wes, h1, h2, h3⟩ := R.haw
  refine ⟨⟨wes, E.get h1 id, h2, h3⟩, R.hdb.keep fun b fb hb => E.keep b hb id, fun b fb => E.live b (R.hal b fb), R.awF, R.laF, E.get R.hla id, fun j => ?_, R.okW, R.le, R.snap, R.fresh, E.get R.hrl.1 id, R.hrl.2⟩
  rcases R.last j with h | ⟨x, les, l, a1, a2, a3, a4, a5, a6⟩
  · exact .inl h
  · exact .inr ⟨x, les, l, a1, a2, E.get a3 id, a4, a5, a6⟩
/-- the world turns: what is new is of this round -/
theorem Rs.world (R : Rs σ m T T' db aw la rl rv v W D Ls N F) {wes' : Es} {T'' : Int} (hd : Wd wes' W') (hz : wes'.length ≤ N + 1) (hT : T' ≤ T'') (hlt : T < T'') (hn : ∀ p e, W' p = some e → W p = some e ∨ (e.ts = T ∧ e.sz = e.tx.length)) :
    Rs (σ.set aw (.dict wes')) m T T'' db aw la rl rv v W' D Ls (N + 1) F := by
  obtain ⟨wes, h1, h2, h3⟩ := R.haw
  have E : Ext (· = aw) σ (σ.set aw (.dict wes')) := Ext.refl.own rfl
  have hdb : DbAt (σ.set aw (.dict wes')) db D N F := R.hdb.keep fun b fb hb => E.keep b hb (by rintro rfl; exact R.awF fb)
  refine ⟨⟨wes', Store.set_same _ _ _, hd, hz⟩, ?_, fun b fb => E.live b (R.hal b fb), R.awF, R.laF, E.get R.hla (by rintro rfl; have := R.hla; rw [h1] at this; cases this), fun j => ?_, fun p e he => ?_, by have := R.le; omega, fun j l hl => ?_, R.fresh, E.get R.hrl.1 (by rintro rfl; have := R.hrl.1; rw [h1] at this; cases this), R.hrl.2⟩
  · obtain ⟨o, es, q1, q2, q3, q4, q5⟩ := hdb
    exact ⟨o, es, q1, by omega, q3, fun t d hd => by obtain ⟨i, a, b, c, e, f⟩ := q4 t d hd; exact ⟨i, a, b, c, e, by omega⟩, q5⟩
  · rcases R.last j with h | ⟨x, les, l, a1, a2, a3, a4, a5, a6⟩
    · exact .inl h
    · exact .inr ⟨x, les, l, a1, a2, E.get a3 a5, a4, a5, a6⟩
  · rcases hn p e he with h | ⟨h, h'⟩
    · have := R.okW p e h; exact ⟨this.1, by omega⟩
    · exact ⟨h', by omega⟩
  · obtain ⟨q, r⟩ := R.snap j l hl
    refine ⟨fun p hp => ?_, r⟩
    obtain ⟨a, ha, sn, hg⟩ := q p hp
    refine ⟨a, ha, ⟨sn.sz, sn.ts, fun e he hts => ?_⟩, hg⟩
    rcases hn p e he with h | ⟨h, h'⟩
    · exact sn.same e h hts
    · have := sn.ts; omega
end
theorem stepW_new {W : Str → Option We} {clock kind : Int} {p tx : Str} {T' : Int} (hW : OkW W T') : ∀ q e, stepW W clock kind p tx q = some e → W q = some e ∨ (e.ts = clock ∧ e.sz = e.tx.length) := by
  intro q e h
  unfold stepW at h
  split at h
  · unfold upd at h; split at h
    · cases h; exact .inr ⟨rfl, rfl⟩
    · exact .inl h
  · split at h
    · cases he' : W p with
      | some e' =>
        simp only [he'] at h
        unfold upd at h; split at h
        · cases h; exact .inr ⟨rfl, (hW _ _ he').1⟩
        · exact .inl h
      | none => simp only [he'] at h; exact .inl h
    · split at h
      · unfold upd at h; split at h
        · cases h
        · exact .inl h
      · exact .inl h

section
variable {σ σ' : Store} {m : Bool} {T T' : Int} {db aw la rl : Addr} {rv : List AV} {v : Nat → AV} {W W' : Str → Option We} {D D' : Db} {Ls : Nat → Option (Str → Option We)} {N N' : Nat} {F F' : Addr → Prop}
noncomputable def setAt {α : Type} (f : Nat → α) (j : Nat) (x : α) : Nat → α := fun i => if i = j then x else f i
/-- saved: the db turns, then what was last seen -/
theorem Rs.save (R : Rs σ m T T' db aw la rl rv v W D Ls N F) (S : DS F F' σ σ') (hD : DbAt σ' db D' N' F') (hN : N ≤ N') : 
    ∃ F'', DbAt σ' db D' N' F'' ∧ (∀ b, F'' b → σ' b ≠ none) ∧ ¬ F'' aw ∧ ¬ F'' la ∧ σ' la = some (.list [v 0, v 1, v 2]) ∧ (∃ wes : Es, σ' aw = some (.dict wes) ∧ Wd wes W ∧ wes.length ≤ N') ∧ ∀ j, LastR σ' aw F'' (v j) (Ls j) := by
  have no : ∀ {b : Addr} {o : AO}, σ b = some o → ¬ F b → ¬ F' b := fun h n f => by
    rcases S.grow.2 _ f with x | x
    · exact n x
    · rw [h] at x; cases x
  obtain ⟨wes, h1, h2, h3⟩ := R.haw
  refine ⟨fun b => F' b ∧ σ' b ≠ none, hD.alive, fun b h => h.2, fun h => no h1 R.awF h.1, fun h => no R.hla R.laF h.1, S.keep.get R.hla R.laF, ⟨wes, S.keep.get h1 R.awF, h2, by omega⟩, fun j => ?_⟩
  rcases R.last j with h | ⟨x, les, l, a1, a2, a3, a4, a5, a6⟩
  · exact .inl h
  · exact .inr ⟨x, les, l, a1, a2, S.keep.get a3 a6, a4, a5, fun h => no a3 a6 h.1⟩
end

theorem fmod_at {i : Int} {n : Nat} (h : 0 < n) : 0 ≤ i.fmod n ∧ i.fmod n < n := ⟨Int.fmod_nonneg_of_pos _ (by omega), Int.fmod_lt_of_pos _ (by omega)⟩
theorem noPy {i : Int} {j : Int} (h : j = 8 ∨ j = 32 ∨ j = 96) : Builtin.divisionGoesByPylong i j = false := by
  rcases h with rfl | rfl | rfl <;> (unfold Builtin.divisionGoesByPylong; simp only [Bool.and_eq_false_iff]; left; decide)
theorem str_get {ss : List Str} {i : Int} (h0 : 0 ≤ i) (h1 : i < ss.length) : ∃ s, (strsA ss)[i.toNat]? = some (.str s) ∧ s ∈ ss := by
  have h : i.toNat < ss.length := by omega
  exact ⟨ss[i.toNat], by rw [List.getElem?_map, List.getElem?_eq_getElem h]; rfl, List.getElem_mem h⟩

noncomputable def forB : Stmt → List Stmt | .For _ _ b _ _ => b | _ => []
structure LawL (ℓ : Locs) (m : Bool) (db aw la : Addr) : Prop where
  which : ℓ "which" = some (.int (if m then 0 else 1))
  db : ℓ "db" = some (.ref db)
  world : ℓ "world" = some (.ref aw)
  last : ℓ "last" = some (.ref la)
theorem LawL.set {ℓ : Locs} {m : Bool} {db aw la : Addr} (L : LawL ℓ m db aw la) {x : Str} {v : AV} (h1 : x ≠ "which") (h2 : x ≠ "db") (h3 : x ≠ "world") (h4 : x ≠ "last") : LawL (ℓ.set x v) m db aw la :=
  ⟨(Locs.set_ne h1.symm).trans L.which, (Locs.set_ne h2.symm).trans L.db, (Locs.set_ne h3.symm).trans L.world, (Locs.set_ne h4.symm).trans L.last⟩
noncomputable abbrev lawF (d : Nat) : Fn := ⟨(Str.ofString "law") ++ ".<locals>.", fs [27], some alaw, .ref 692, d, true⟩
noncomputable def ifB : Stmt → List Stmt | .If _ b _ _ => b | _ => []
noncomputable def lawB (k : Nat) : List Stmt := go k (forB (nth (subB (fS [27])) 5)) where
  go : Nat → List Stmt → List Stmt
  | 0, l => l
  | k + 1, l => go k (tl l)
noncomputable def setN {α : Type} (f : Nat → α) (j : Nat) (x : α) : Nat → α := fun i => if tnm i = tnm j then x else f i
theorem tnm_eq : ∀ {a b : Nat}, tnm a = tnm b → tdeps a = tdeps b
  | 0, 0, _ => rfl
  | 1, 1, _ => rfl
  | _ + 2, _ + 2, _ => rfl
  | 0, 1, h => absurd h (by decide)
  | 1, 0, h => absurd h (by decide)
  | 0, _ + 2, h => absurd h (by show ¬ (("one" : Str) = "three"); decide)
  | 1, _ + 2, h => absurd h (by show ¬ (("two" : Str) = "three"); decide)
  | _ + 2, 0, h => absurd h (by show ¬ (("three" : Str) = "one"); decide)
  | _ + 2, 1, h => absurd h (by show ¬ (("three" : Str) = "two"); decide)
theorem setN_list {v : Nat → AV} {x : AV} : ∀ {j : Nat}, j < 3 → [v 0, v 1, v 2].set j x = [setN v j x 0, setN v j x 1, setN v j x 2]
  | 0, _ => by unfold setN; rw [if_pos rfl, if_neg (by decide), if_neg (by decide)]; rfl
  | 1, _ => by unfold setN; rw [if_neg (by decide), if_pos rfl, if_neg (by decide)]; rfl
  | 2, _ => by unfold setN; rw [if_neg (by decide), if_neg (by decide), if_pos rfl]; rfl
section
variable {σ σ' : Store} {m : Bool} {T T' : Int} {db aw la rl : Addr} {rv : List AV} {v : Nat → AV} {W W' : Str → Option We} {D D' : Db} {Ls : Nat → Option (Str → Option We)} {N N' : Nat} {F F' : Addr → Prop} {n : Nm} {k : Tk} {wes : Es} {deps ts : List Str} {cl : Bool}
theorem Rd.world (R : Rd σ m n k cl wes deps ts) (hW : Wd wes W) {p : Str} (hp : (W p).isSome = true) (wes' : Es) : Rd (σ.set n.aw (.dict wes')) m n k cl wes' deps ts := by
  have big : ∀ {b : Addr} {o : AO}, σ b = some o → o ≠ .dict wes → (σ.set n.aw (.dict wes')) b = some o := fun h ne => (Store.set_ne (by rintro rfl; rw [R.c.aw] at h; cases h; exact ne rfl)).trans h
  have nil : AO.dict [] ≠ .dict wes := by
    intro h; cases h
    have := hW p; cases hq : W p with
    | none => rw [hq] at hp; cases hp
    | some e => rw [hq] at this; cases this
  have key : ∀ {es : Es} {q : Str} {v : AV}, es.get q = some v → (∀ vs, v ≠ .tup vs) → AO.dict es ≠ .dict wes := by
    intro es q v h nt e
    cases e
    have := hW q
    rw [h] at this
    cases hq : W q with
    | none => rw [hq] at this; cases this
    | some e => rw [hq] at this; cases this; exact nt _ rfl
  exact ⟨⟨big R.d.x (by simp), big R.d.dx (key (q := "_closed") rfl (by simp)), R.d.back, R.d.chk, R.d.set, R.d.get, big R.d.y (by simp), big R.d.dy (key (q := "_db") rfl (by simp))⟩,
    ⟨big R.c.x (by simp), big R.c.dx (key (q := "files") rfl (by simp)), Store.set_same _ _ _⟩,
    ⟨big R.t.hx (by simp), (Store.set_ne R.ne.symm).trans R.t.hdx, big R.t.hal (by simp), big R.t.he0 nil, big R.t.hfl (by simp), big R.t.hul (by simp), big R.t.htl (by simp), big R.t.hvd nil, R.t.hne⟩, R.ne⟩
theorem Rs.extG {G : Addr → Prop} (R : Rs σ m T T' db aw la rl rv v W D Ls N F) (E : Ext G σ σ') (h : ∀ b, G b → ¬ F b ∧ b ≠ aw ∧ b ≠ la ∧ (∀ j, v j ≠ .ref b) ∧ b ≠ rl) : Rs σ' m T T' db aw la rl rv v W D Ls N F := by
  obtain ⟨wes, h1, h2, h3⟩ := R.haw
  refine ⟨⟨wes, E.get h1 fun g => (h _ g).2.1 rfl, h2, h3⟩, R.hdb.keep fun b fb hb => E.keep b hb fun g => (h _ g).1 fb, fun b fb => E.live b (R.hal b fb), R.awF, R.laF, E.get R.hla fun g => (h _ g).2.2.1 rfl, fun j => ?_, R.okW, R.le, R.snap, R.fresh, E.get R.hrl.1 fun g => (h _ g).2.2.2.2 rfl, R.hrl.2⟩
  rcases R.last j with q | ⟨x, les, l, a1, a2, a3, a4, a5, a6⟩
  · exact .inl q
  · exact .inr ⟨x, les, l, a1, a2, E.get a3 fun g => (h _ g).2.2.2.1 j a1, a4, a5, a6⟩
structure Both (σ : Store) (m : Bool) (T T' : Int) (db aw la rl : Addr) (rv : List AV) (v : Nat → AV) (W : Str → Option We) (D : Db) (Ls : Nat → Option (Str → Option We)) (N : Nat) (F : Addr → Prop) (n : Nm) (k : Tk) (wes : Es) (j : Nat) : Prop where
  R : Rs σ m T T' db aw la rl rv v W D Ls N F
  Rd : Rd σ m n k false wes (tdeps j) (ttgt j)
  O : Out F σ (bs n k)
  en : n.a = db
  ea : n.aw = aw
  wd : Wd wes W
  z : wes.length ≤ N
  al : ∀ p ∈ tdeps j, (Option.isSome (W p)) = true
  hv : ∀ i, v i ≠ .ref n.tdx ∧ v i ≠ .ref n.dx
  lt : T < T'
theorem tdeps_mem : ∀ j, ∃ p, p ∈ tdeps j
  | 0 => ⟨"f1", by simp [tdeps]⟩
  | 1 => ⟨"f2", by simp [tdeps]⟩
  | _ + 2 => ⟨"f4", by simp [tdeps]⟩
theorem upd_some {W : Str → Option We} {p q : Str} {e : We} (h : (W q).isSome = true) : (upd W p (some e) q).isSome = true := by
  unfold upd; split
  · rfl
  · exact h
theorem Both.write {j : Nat} (B : Both σ m T T' db aw la rl rv v W D Ls N F n k wes j) (p tx : Str) (sz : Int) (hs : sz = tx.length) : Both (σ.set aw (.dict (wes.put p (We.av ⟨T, sz, tx⟩)))) m T T' db aw la rl rv v (upd W p (some ⟨T, sz, tx⟩)) D Ls (N + 1) F n k (wes.put p (We.av ⟨T, sz, tx⟩)) j := by
  have hl : (wes.put p (We.av ⟨T, sz, tx⟩)).length ≤ N + 1 := Nat.le_trans (Es.put_len ..) (Nat.succ_le_succ B.z)
  obtain ⟨q, hq⟩ := tdeps_mem j
  refine ⟨B.R.world (B.wd.put p ⟨T, sz, tx⟩) hl (Int.le_refl _) B.lt fun r e h => ?_, ?_, fun b hb => ⟨Store.set_some (B.O b hb).1, (B.O b hb).2⟩, B.en, B.ea, B.wd.put p ⟨T, sz, tx⟩, hl, fun r hr => upd_some (B.al r hr), B.hv, B.lt⟩
  · unfold upd at h; split at h
    · cases h; exact .inr ⟨rfl, hs⟩
    · exact .inl h
  · have := B.Rd.world B.wd (B.al q hq) (wes.put p (We.av ⟨T, sz, tx⟩))
    rw [B.ea] at this; exact this
theorem Both.exec {j : Nat} (B : Both σ m T T' db aw la rl rv v W D Ls N F n k wes j) {o : Addr} (E : Ext (· = n.tdx) σ σ') (Tt : TaskAt σ' n.tx n.tdx { k with op := .ref o, ex := true } n.e0 (tdeps j) (ttgt j)) : Both σ' m T T' db aw la rl rv v W D Ls N F n { k with op := .ref o, ex := true } wes j := by
  have o1 : ∀ {b : Addr} {oo : AO}, σ b = some oo → oo ≠ .dict k.es → σ' b = some oo := fun h ne => E.get h (B.Rd.t.off h ne)
  have R := B.Rd
  refine ⟨B.R.extG E fun b hb => ?_, ⟨⟨o1 R.d.x (by simp), o1 R.d.dx (by simp [Tk.es, tkEs]), R.d.back, R.d.chk, R.d.set, R.d.get, o1 R.d.y (by simp), o1 R.d.dy (by simp [Tk.es, tkEs])⟩, ⟨o1 R.c.x (by simp), o1 R.c.dx (by simp [Tk.es, tkEs]), E.get R.c.aw R.ne⟩, Tt, R.ne⟩,
    fun b hb => ⟨E.live b (B.O b hb).1, (B.O b hb).2⟩, B.en, B.ea, B.wd, B.z, B.al, B.hv, B.lt⟩
  subst hb
  refine ⟨(B.O _ (by simp [bs])).2, ?_, ?_, fun i => (B.hv i).1, ?_⟩
  · rw [← B.ea]; exact R.ne.symm
  · rintro rfl; have := B.R.hla; rw [R.t.hdx] at this; cases this
  · rintro rfl; have := B.R.hrl.1; rw [R.t.hdx] at this; cases this
theorem Both.dx_ne {j : Nat} (B : Both σ m T T' db aw la rl rv v W D Ls N F n k wes j) : n.dx ≠ aw := by
  rw [← B.ea]
  intro e
  have h := B.Rd.d.dx
  rw [e, B.Rd.c.aw] at h
  cases h
  have := B.wd "_closed"
  cases hq : W "_closed" with
  | none => rw [hq] at this; cases this
  | some e => rw [hq] at this; cases this
theorem Both.fin {j : Nat} {σ₅ : Store} {x : Addr} {les : Es} {l : Str → Option We} (B : Both σ m T T' db aw la rl rv v W D Ls N F n k wes j) (S : DS F F' σ σ') (hD : DbAt σ' db D' N' F') (hN : N ≤ N') (ho : ∀ t, t ≠ tnm j → D' t = D t)
    (hc : D'.get (tnm j) "checker:" = some (.str (cnm m))) (hd : D'.get (tnm j) "deps:" = some (.tup (strsA (tdeps j)))) (hs : ∀ dep ∈ tdeps j, ∀ e, W dep = some e → D'.get (tnm j) dep = some (sv m e)) (E : Ext (· = n.dx) σ' σ₅)
    (hx : σ' x = none) (hx5 : σ₅ x = some (.dict les)) (hl : Wd les l) (hlW : ∀ p ∈ tdeps j, l p = W p) (hj : j < 3) :
    ∃ F'', Rs (σ₅.set la (.list ([v 0, v 1, v 2].set j (.ref x)))) m T' T' db aw la rl rv (setN v j (.ref x)) W D' (setN Ls j (some l)) N' F'' := by
  have no : ∀ {b : Addr} {o : AO}, σ b = some o → ¬ F b → ¬ F' b := fun h n => S.grow.not h n
  have hw : σ aw = some (.dict wes) := by rw [← B.ea]; exact B.Rd.c.aw
  have hla' : σ' la = some (.list [v 0, v 1, v 2]) := S.keep.get B.R.hla B.R.laF
  have hw' : σ' aw = some (.dict wes) := S.keep.get hw B.R.awF
  have dxla : n.dx ≠ la := by rintro e; have := B.Rd.d.dx; rw [e, B.R.hla] at this; cases this
  have nF : ¬ F' n.dx := no B.Rd.d.dx (B.O _ (by simp [bs])).2
  have awla : aw ≠ la := by rintro rfl; rw [hw'] at hla'; cases hla'
  have g5 : ∀ {b : Addr} {o : AO}, σ' b = some o → b ≠ n.dx → b ≠ la → (σ₅.set la (.list ([v 0, v 1, v 2].set j (.ref x)))) b = some o := fun h h1 h2 => (Store.set_ne h2).trans (E.get h h1)
  refine ⟨fun b => F' b ∧ σ' b ≠ none, ⟨wes, g5 hw' B.dx_ne.symm awla, B.wd, Nat.le_trans B.z hN⟩, hD.alive.keep fun b fb hb => ?_, fun b hb => Store.set_some (E.live b hb.2), fun h => no hw B.R.awF h.1, fun h => no B.R.hla B.R.laF h.1,
    by rw [setN_list hj]; exact Store.set_same _ _ _, fun i => ?_, B.R.okW, Int.le_refl _, fun i l' hl' => ?_, fun i hi => ?_, g5 (S.keep.get B.R.hrl.1 B.R.hrl.2.2) (by rintro e; have := B.Rd.d.dx; rw [← e, B.R.hrl.1] at this; cases this) B.R.hrl.2.1, B.R.hrl.2.1, fun h => no B.R.hrl.1 B.R.hrl.2.2 h.1⟩
  · have h1 : b ≠ la := by rintro rfl; exact no B.R.hla B.R.laF fb.1
    have h2 : b ≠ n.dx := by rintro rfl; exact nF fb.1
    rw [Store.set_ne h1]
    exact E.keep b hb h2
  · unfold setN
    by_cases hi : tnm i = tnm j
    · rw [if_pos hi, if_pos hi]
      refine .inr ⟨x, les, l, rfl, rfl, (Store.set_ne ?_).trans hx5, hl, ?_, fun h => h.2 hx⟩
      · rintro rfl; rw [hla'] at hx; cases hx
      · rintro rfl; rw [hw'] at hx; cases hx
    · rw [if_neg hi, if_neg hi]
      rcases B.R.last i with h | ⟨x', les', l', a1, a2, a3, a4, a5, a6⟩
      · exact .inl h
      · refine .inr ⟨x', les', l', a1, a2, g5 (S.keep.get a3 a6) ?_ ?_, a4, a5, fun h => no a3 a6 h.1⟩
        · rintro rfl; exact (B.hv i).2 a1
        · rintro rfl; rw [B.R.hla] at a3; cases a3
  · unfold setN at hl'
    by_cases hi : tnm i = tnm j
    · rw [if_pos hi] at hl'
      cases hl'
      rw [tnm_eq hi, hi]
      refine ⟨fun p hp => ?_, hc, hd⟩
      obtain ⟨e, he⟩ := Option.isSome_iff_exists.mp (B.al p hp)
      exact ⟨e, (hlW p hp).trans he, ⟨(B.R.okW p e he).1, (B.R.okW p e he).2, fun e' h _ => by rw [he] at h; cases h; rfl⟩, hs p hp e he⟩
    · rw [if_neg hi] at hl'
      have q := B.R.snap i l' hl'
      have eq : ∀ key, D'.get (tnm i) key = D.get (tnm i) key := fun key => by unfold Db.get; rw [ho _ hi]
      rw [eq, eq]
      refine ⟨fun p hp => ?_, q.2⟩
      obtain ⟨a, ha, sn, hg⟩ := q.1 p hp
      exact ⟨a, ha, ⟨sn.sz, Int.lt_of_lt_of_le sn.ts B.R.le, sn.same⟩, by rw [eq]; exact hg⟩
  · unfold setN at hi
    by_cases h : tnm i = tnm j
    · rw [if_pos h] at hi; cases hi
    · rw [if_neg h] at hi
      rw [ho _ h]; exact B.R.fresh i hi
end
theorem DbAt.le {σ : Store} {a : Addr} {D : Db} {N N' : Nat} {F : Addr → Prop} (h : DbAt σ a D N F) (le : N ≤ N') : DbAt σ a D N' F := by
  obtain ⟨o, es, q1, q2, q3, q4, q5⟩ := h
  exact ⟨o, es, q1, by omega, q3, fun t d hd => by obtain ⟨i, a, b, c, e, f⟩ := q4 t d hd; exact ⟨i, a, b, c, e, by omega⟩, q5⟩
structure SvL (ℓ : Locs) (m : Bool) (db aw la : Addr) (i : Int) (j : Nat) (n : Nm) : Prop where
  L : LawL ℓ m db aw la
  pl : ℓ "place" = some (.int i)
  row : ℓ "row" = some (.tup [.str (tnm j), .ref (tdl j), .ref (ttl j)])
  wt : ℓ "which_task" = some (.int j)
  man : ℓ "manager" = some (.ref n.x)
  task : ℓ "task" = some (.ref n.tx)
theorem SvL.set {ℓ : Locs} {m : Bool} {db aw la : Addr} {i : Int} {j : Nat} {n : Nm} (S : SvL ℓ m db aw la i j n) {v : AV} : SvL (ℓ.set "made" v) m db aw la i j n :=
  ⟨S.L.set (by decide) (by decide) (by decide) (by decide), (Locs.set_ne (by decide)).trans S.pl, (Locs.set_ne (by decide)).trans S.row, (Locs.set_ne (by decide)).trans S.wt, (Locs.set_ne (by decide)).trans S.man, (Locs.set_ne (by decide)).trans S.task⟩
theorem dps_of : ∀ {j : Nat}, j < 3 → (tdeps j).Nodup ∧ tdeps j ≠ [] ∧ (tdeps j).length ≤ 3 ∧ (ttgt j).length ≤ 3 ∧ ∀ q ∈ tdeps j ++ ttgt j, q.length ≤ 100 ∧ PyData.strOk q = true ∧ q ≠ "_values_:" ∧ q ≠ "checker:" ∧ q ≠ "deps:"
  | 0, _ => by decide +kernel
  | 1, _ => by decide +kernel
  | 2, _ => by decide +kernel
theorem last_dep : ∀ {j : Nat}, j < 3 → ∃ q, (strsA (tdeps j))[(strsA (tdeps j)).length - 1]? = some (.str q)
  | 0, _ => ⟨_, rfl⟩
  | 1, _ => ⟨_, rfl⟩
  | 2, _ => ⟨_, rfl⟩
theorem get_map {f : Str → AV} (q : Str) : ∀ l : List Str, Es.get (l.map fun p => (p, f p)) q = if q ∈ l then some (f q) else none
  | [] => by simp [Es.get]
  | p :: r => by
    have ih := get_map (f := f) q r
    unfold Es.get at ih ⊢
    rw [List.map_cons, List.find?_cons]
    by_cases h : p = q
    · subst h; simp
    · simp only [h, decide_false]
      rw [ih]
      simp [Ne.symm h]
noncomputable def avOf (W : Str → Option We) (p : Str) : AV := ((W p).map We.av).getD .none
noncomputable def gd (W : Str → Option We) : AV → Option AV
  | .str p => some (.tup [.str p, avOf W p])
  | _ => none
theorem gd_strs (W : Str → Option We) : ∀ l : List Str, (strsA l).filterMap (gd W) = (l.map fun p => (p, avOf W p)).map fun kv => AV.tup [.str kv.1, kv.2]
  | [] => rfl
  | p :: r => by
    have ih := gd_strs W r
    show List.filterMap (gd W) (AV.str p :: strsA r) = _
    rw [List.filterMap_cons_some (f := gd W) (b := .tup [.str p, avOf W p]) rfl, ih]; rfl

section
variable {w : World} {mg mb : Str → Option Value} {h₀ : Heap} {stk : List Env} {σ : Store} {d : Nat} {hf : Bool}
theorem law_save {m : Bool} {db aw la rl : Addr} {rv : List AV} {v : Nat → AV} {W : Str → Option We} {D : Db} {Ls : Nat → Option (Str → Option We)} {N : Nat} {F : Addr → Prop} {ℓ : Locs} {i kd : Int} {n : Nm} {k : Tk} {wes : Es} {j : Nat} {Φ : AF → Locs → Store → Prop} (X : (KZ w.params).In h₀)
    (S : SvL ℓ m db aw la i j n) (hkd : ℓ "kind" = some (.int kd)) (hj : j < 3) (B : Both σ m (100 + i) (100 + i + 1) db aw la rl rv v W D Ls N F n k wes j) (hnm : k.nm = tnm j) (hop : k.op = .none) (hN : N ≤ 700)
    (φ : ∀ ℓ' σ' v' D' Ls' N' F' W', LawL ℓ' m db aw la → Rs σ' m (100 + i + 1) (100 + i + 1) db aw la rl rv v' W' D' Ls' N' F' → N' ≤ N + 12 → Φ .next ℓ' σ') :
    Ss (cx w mg mb h₀ stk) (lawF (d + 6)) ℓ σ (ifB (nth (lawB 9) 0)) Φ := by
  have dps := dps_of hj
  refine ss_cons (st_if (te_or ?_))
  refine te_cmp (ev_meth (ev_local (by rfl) S.task (meth_at (fm := aTask_execute) B.Rd.t.hx B.Rd.t.hdx (by rfl) (by kernel_rfl) ?_)))
  refine ev_none (Ca.cw (Task_execute B.Rd.t hop fun σ₁ o Tt E => ev_none (op_isnot_none ⟨_, rfl, ?_⟩)))
  have B₁ := B.exec E Tt
  refine te_not (te_val (ev_attr (ev_local (by rfl) S.task (op_at B₁.Rd.t.hx B₁.Rd.t.hdx (by rfl) (by kernel_rfl) (by rfl) (tr_bool ?_)))))
  refine ss_nil ?_
  have go : ∀ (σ₂ : Store) (W₂ : Str → Option We) (N₂ : Nat) (wes₂ : Es), Both σ₂ m (100 + i) (100 + i + 1) db aw la rl rv v W₂ D Ls N₂ F n { k with op := .ref o, ex := true } wes₂ j → N₂ ≤ N + 1 →
      Ss (cx w mg mb h₀ stk) (lawF (d + 6)) ℓ σ₂ (tl (tl (ifB (nth (lawB 9) 0)))) Φ := by
    intro σ₂ W₂ N₂ wes₂ B₂ hN₂
    refine ss_cons (st_for rfl (itr_list (ev_sub (ev_local (by rfl) S.row (ev_int (op_sub_tup (v := .ref (ttl j)) (fun _ _ => rfl) (by decide) (by decide) (by rfl) ⟨ttl j, strsA (ttgt j), rfl, (base_tgt X j).is, quiet_name _ _ _,
      fun a ℓ' σ' => SvL ℓ' m db aw la i j n ∧ ∃ W' N' wes', Both σ' m (100 + i) (100 + i + 1) db aw la rl rv v W' D Ls N' F n { k with op := .ref o, ex := true } wes' j ∧ N' ≤ N₂ + a,
      ⟨S, _, _, _, B₂, Nat.le_refl _⟩, fun _ _ _ _ => (base_tgt X j).is, ?_, ?_⟩))))))
    · rintro a z ℓ' σ' hz ⟨S', W', N', wes', B', hN'⟩
      obtain ⟨p, rfl, hp⟩ := strs_at hz
      have ha : a < (ttgt j).length := by
        rcases Nat.lt_or_ge a (ttgt j).length with h | h
        · exact h
        · rw [List.getElem?_eq_none h] at hp; cases hp
      refine as_local (by rfl) ?_
      refine ss_cons (st_assign (ev_tuple (ev_bin (ev_int (ev_local (by rfl) S'.set.pl (op_add (ev_int (ev_str ⟨by simp, ?_⟩))))))))
      have hw : σ' aw = some (.dict wes') := by rw [← B'.ea]; exact B'.Rd.c.aw
      refine as_sub (ev_cell (by rfl) S'.set.L.world (ev_local (by rfl) (by rfl) (opu_set_dict hw (by have := B'.z; omega) ?_)))
      exact ss_nil ⟨S'.set, _, _, _, B'.write p "out" 3 (by decide), by omega⟩
    · rintro ℓ' σ₃ ⟨S₃, W₃, N₃, wes₃, B₃, hN₃⟩
      rw [show (strsA (ttgt j)).length = (ttgt j).length by simp] at hN₃
      refine ss_cons (st_expr (ev_meth (ev_local (by rfl) S₃.man (meth_at (fm := aDependency_save_success) B₃.Rd.d.x B₃.Rd.d.dx (by rfl) (by kernel_rfl) ?_))))
      have al : ∀ dep ∈ tdeps j, ∃ e : We, W₃ dep = some e ∧ wes₃.get dep = some e.av := fun dep hdep => by
        obtain ⟨e, he⟩ := Option.isSome_iff_exists.mp (B₃.al dep hdep)
        exact ⟨e, he, by rw [B₃.wd dep, he]; rfl⟩
      refine ev_local (by rfl) S₃.task (Ca.cw (Dep_save (W := W₃) (D := D) (N := N₃) (F := F) B₃.Rd (by rw [B₃.en]; exact B₃.R.hdb) B₃.O (by omega) (by omega) dps.1 (fun dep hdep => (dps.2.2.2.2 dep (List.mem_append_left _ hdep)).2.2) al (fun dep hdep => ?_) fun σ₄ D₄ N₄ F₄ hD₄ S₄ hN₄ ho hc hd hs => ?_))
      · show ∃ s : Option We, D.get k.nm dep = s.map (sv m) ∧ _
        rw [hnm]
        cases hL : Ls j with
        | none => exact ⟨none, by unfold Db.get; rw [B₃.R.fresh j hL]; rfl, fun _ s' h => by cases h⟩
        | some l =>
          obtain ⟨a, _, sn, hg⟩ := (B₃.R.snap j l hL).1 dep hdep
          exact ⟨some a, hg, fun _ s' h e he hts => by cases h; exact (sn.same e he hts.symm).symm⟩
      replace hc : D₄.get (tnm j) "checker:" = some (.str (cnm m)) := by rw [← hnm]; exact hc
      replace hd : D₄.get (tnm j) "deps:" = some (.tup (strsA (tdeps j))) := by rw [← hnm]; exact hd
      replace hs : ∀ dep ∈ tdeps j, ∀ e, W₃ dep = some e → D₄.get (tnm j) dep = some (sv m e) := by rw [← hnm]; exact hs
      replace ho : ∀ t, t ≠ tnm j → D₄ t = D t := by rw [← hnm]; exact ho
      rw [B₃.en] at hD₄
      have Rd₄ := B₃.Rd.keep (B₃.O.step S₄).2
      refine ss_cons (st_expr (ev_meth (ev_local (by rfl) S₃.man (meth_at (fm := aDependency_close) Rd₄.d.x Rd₄.d.dx (by rfl) (by kernel_rfl) (Ca.cw (Dependency_close Rd₄.d (by rfl) (by simp) ?_))))))
      generalize hcl : Es.put _ "_closed" (.bool true) = ces
      have E₅ : Ext (· = n.dx) σ₄ (σ₄.set n.dx (.dict ces)) := Ext.refl.own rfl
      generalize σ₄.set n.dx (.dict ces) = σ₅ at E₅
      have hw₄ : σ₄ aw = some (.dict wes₃) := by rw [← B₃.ea]; exact Rd₄.c.aw
      have hla₄ : σ₄ la = some (.list [v 0, v 1, v 2]) := S₄.keep.get B₃.R.hla B₃.R.laF
      have dxla : la ≠ n.dx := by rintro e; have := Rd₄.d.dx; rw [← e, hla₄] at this; cases this
      have hw₅ := E₅.get hw₄ B₃.dx_ne.symm
      have hla₅ := E₅.get hla₄ dxla
      refine ss_cons (st_assign (ev_call (ev_builtin (by rfl) (by kernel_rfl) glob_dict ⟨_, rfl, cok_type, ?_⟩)))
      refine ev_comp rfl (compOk_of (by kernel_rfl)) (itr_list (ev_sub (ev_local (by rfl) S₃.row (ev_int (op_sub_tup (v := .ref (tdl j)) (fun _ _ => rfl) (by decide) (by decide) (by rfl) ⟨tdl j, strsA (tdeps j), rfl, (base_deps X j).is, quiet_name _ _ _, gd W₃, by simp; omega, fun _ _ => (base_deps X j).is, fun z hz σ' hle => ?_, fun c1 hc1 => ?_⟩)))))
      · obtain ⟨p, hp, rfl⟩ := List.mem_map.mp hz
        obtain ⟨e, he, hg⟩ := al p hp
        have hw' : σ' aw = some (.dict wes₃) := (hle aw (by rw [hw₅]; simp)).trans hw₅
        refine as_local (by rfl) ⟨rfl, fun x u h => ?_, ?_⟩
        · rw [Locs.set_ne]
          · exact h
          · rintro rfl; cases h
        · refine ⟨rfl, ev_tuple (ev_local (by rfl) (by rfl) (ev_sub (ev_cell (by rfl) S₃.L.world (ev_local (by rfl) (by rfl) (op_sub_dict (fun _ _ => rfl) hw' hg ⟨by simp, rfl, ?_⟩)))))⟩
          show some (AV.tup [.str p, avOf W₃ p]) = _
          unfold avOf; rw [he]; rfl
      rw [gd_strs]
      refine cw_dict_pairs (.inl (Store.set_same _ _ _)) rfl (by rw [List.map_map]; exact (List.map_id _).symm ▸ dps.1) (by simp; omega) fun x hx => ?_
      have E₇ : Ext (· = n.dx) σ₄ ((σ₅.set c1 (.list ((tdeps j).map (fun p => (p, avOf W₃ p)) |>.map fun kv => AV.tup [.str kv.1, kv.2]))).set x (.dict ((tdeps j).map fun p => (p, avOf W₃ p)))) := (E₅.alloc hc1).alloc hx
      refine as_sub (ev_local (by rfl) S₃.L.last (ev_local (by rfl) S₃.wt (opu_set_list (Store.set_old (Store.set_old hla₅ hc1) hx) (by omega) (by simp; omega) (by simp) ?_)))
      refine ss_nil ?_
      have zx : σ₄ x = none := (E₅.alloc hc1 (o := .list ((tdeps j).map (fun p => (p, avOf W₃ p)) |>.map fun kv => AV.tup [.str kv.1, kv.2]))).back hx
      obtain ⟨F₇, R₇⟩ := B₃.fin (l := fun q => if q ∈ tdeps j then W₃ q else none) S₄ (N' := N₃ + 7) (hD₄.le (by omega)) (by omega) ho hc hd hs E₇ zx (Store.set_same _ _ _) (fun q => by
        rw [get_map]
        show _ = Option.map We.av (if q ∈ tdeps j then W₃ q else none)
        by_cases h : q ∈ tdeps j
        · obtain ⟨e, he⟩ := Option.isSome_iff_exists.mp (B₃.al q h)
          rw [if_pos h, if_pos h]
          unfold avOf; rw [he]; rfl
        · rw [if_neg h, if_neg h]; rfl) (fun q hq => if_pos hq) hj
      exact φ _ _ _ _ _ _ _ _ S₃.L R₇ (by omega)
  refine ss_cons (st_if (te_cmp (ev_local (by rfl) hkd (ev_int (op_eq_int ⟨_, rfl, ?_⟩)))))
  by_cases h6 : kd = 6
  · subst h6
    rw [show ((6 : Int) == 6) = true by rfl]
    obtain ⟨q, hq⟩ := last_dep hj
    have hw : σ₁ aw = some (.dict wes) := by rw [← B₁.ea]; exact B₁.Rd.c.aw
    refine ss_cons (st_assign (ev_tuple (ev_bin (ev_int (ev_local (by rfl) S.pl (op_add (ev_int (ev_str ⟨by simp, ?_⟩))))))))
    refine as_sub (ev_cell (by rfl) S.L.world (ev_sub (ev_sub (ev_local (by rfl) S.row (ev_int (op_sub_tup (v := .ref (tdl j)) (fun _ _ => rfl) (by decide) (by decide) (by rfl) (ev_un (ev_int (op_neg (op_sub_list_last (fun _ _ => rfl) (base_deps X j).is hq (opu_set_dict hw (by have := B₁.z; omega) ?_)))))))))))
    exact ss_nil ((go _ _ _ _ (B₁.write q "made" 4 (by decide)) (Nat.le_refl _)))
  · rw [show (kd == 6) = false by simp [h6]]
    exact ss_nil ((go _ _ _ _ B₁ (by omega)))
end

section
variable {w : World} {mg mb : Str → Option Value} {h₀ : Heap} {stk : List Env} {σ : Store} {d : Nat} {hf : Bool}
theorem Rs.next {σ : Store} {m : Bool} {T T' : Int} {db aw la rl : Addr} {rv : List AV} {v : Nat → AV} {W : Str → Option We} {D : Db} {Ls : Nat → Option (Str → Option We)} {N : Nat} {F : Addr → Prop} (R : Rs σ m T T' db aw la rl rv v W D Ls N F) : Rs σ m T' T' db aw la rl rv v W D Ls N F :=
  ⟨R.haw, R.hdb, R.hal, R.awF, R.laF, R.hla, R.last, R.okW, by omega, fun j l h => ⟨fun p hp => by
    obtain ⟨a, b, c, d⟩ := (R.snap j l h).1 p hp
    exact ⟨a, b, ⟨c.sz, by have := c.ts; have := R.le; omega, c.same⟩, d⟩, (R.snap j l h).2⟩, R.fresh, R.hrl⟩
theorem law_round {m : Bool} {db aw la rl : Addr} {rv : List AV} {v : Nat → AV} {W : Str → Option We} {D : Db} {Ls : Nat → Option (Str → Option We)} {N : Nat} {F : Addr → Prop} {ℓ : Locs} {i num : Int} (X : (KZ w.params).In h₀) (L : LawL ℓ m db aw la)
    (hpl : ℓ "place" = some (.int i)) (hnum : ℓ "number" = some (.int num)) (R : Rs σ m (100 + i) (100 + i) db aw la rl rv v W D Ls N F) (hN : N ≤ 600) {Inv' : Locs → Store → Prop}
    (hInv : ∀ ℓ' σ' v' W' D' Ls' N' F', LawL ℓ' m db aw la → Rs σ' m (100 + i + 1) (100 + i + 1) db aw la rl rv v' W' D' Ls' N' F' → N' ≤ N + 20 → Inv' ℓ' σ') :
    Ss (cx w mg mb h₀ stk) (lawF (d + 6)) ℓ σ (forB (nth (subB (fS [27])) 5)) (fun r ℓ' σ' => match r with | .next => Inv' ℓ' σ' | .cont => Inv' ℓ' σ' | _ => False) := by
  refine ss_cons (st_assign (ev_bin (ev_local (by rfl) hnum (ev_int (op_mod (by decide) (as_local (by rfl) ?_))))))
  obtain ⟨q0, q1⟩ : 0 ≤ (num.fdiv 8).fmod 5 ∧ (num.fdiv 8).fmod 5 < 5 := fmod_at (n := 5) (by decide)
  obtain ⟨p, hp, hpm⟩ := str_get (ss := fs5) q0 q1
  refine ss_cons (st_assign (ev_sub (ev_call (ev_glob (v := .ref a_law_files) (av := .val (.ref a_law_files)) (by rfl) (by kernel_rfl) (fun _ _ => .val _) ⟨_, rfl, .inl (by kernel_rfl), Ca.cw (law_files fun l1 hl1 => ?_)⟩))))
  refine ev_bin (ev_bin (ev_local (by rfl) hnum (ev_int (op_fdiv (by decide) (noPy (.inl rfl)) (ev_int (op_mod (by decide) ?_))))))
  refine op_sub_list (fun _ _ => rfl) (.inl (Store.set_same _ _ _)) q0 (by omega) hp (as_local (by rfl) ?_)
  replace R := R.ext (Ext.refl.alloc hl1 (o := .list (strsA fs5)))
  generalize σ.set l1 (.list (strsA fs5)) = σ₁ at R
  clear hl1
  obtain ⟨t0, t1⟩ : 0 ≤ (num.fdiv 32).fmod 3 ∧ (num.fdiv 32).fmod 3 < 3 := fmod_at (n := 3) (by decide)
  refine ss_cons (st_assign (ev_bin (ev_bin (ev_local (by rfl) hnum (ev_int (op_fdiv (by decide) (noPy (.inr (.inl rfl))) (ev_int (op_mod (by decide) (as_local (by rfl) ?_)))))))))
  obtain ⟨z0, z1⟩ : 0 ≤ (num.fdiv 96).fmod 4 ∧ (num.fdiv 96).fmod 4 < 4 := fmod_at (n := 4) (by decide)
  obtain ⟨tx, htx, htm⟩ := str_get (ss := held4) z0 z1
  replace L : LawL (((ℓ.set "kind" (.int (num.fmod 8))).set "path" (.str p)).set "which_task" (.int ((num.fdiv 32).fmod 3))) m db aw la := ((L.set (by decide) (by decide) (by decide) (by decide)).set (by decide) (by decide) (by decide) (by decide)).set (by decide) (by decide) (by decide) (by decide)
  have hnum' : (((ℓ.set "kind" (.int (num.fmod 8))).set "path" (.str p)).set "which_task" (.int ((num.fdiv 32).fmod 3))) "number" = some (.int num) := hnum
  have hpl' : (((ℓ.set "kind" (.int (num.fmod 8))).set "path" (.str p)).set "which_task" (.int ((num.fdiv 32).fmod 3))) "place" = some (.int i) := hpl
  refine ss_cons (st_expr (ev_call (ev_glob (v := .ref a_law_step) (av := .val (.ref a_law_step)) (by rfl) (by kernel_rfl) (fun _ _ => .val _) ⟨_, rfl, .inl (by kernel_rfl), ev_cell (by rfl) L.world (ev_bin (ev_int (ev_local (by rfl) hpl' (op_add (ev_local (by rfl) (by rfl) (ev_local (by rfl) (by rfl) ?_))))))⟩)))
  refine ev_sub (ev_call (ev_glob (v := .ref a_law_held) (av := .val (.ref a_law_held)) (by rfl) (by kernel_rfl) (fun _ _ => .val _) ⟨_, rfl, .inl (by kernel_rfl), Ca.cw (law_held fun l2 hl2 => ?_)⟩))
  refine ev_bin (ev_bin (ev_local (by rfl) hnum' (ev_int (op_fdiv (by decide) (noPy (.inr (.inr rfl))) (ev_int (op_mod (by decide) ?_))))))
  refine op_sub_list (fun _ _ => rfl) (.inl (Store.set_same _ _ _)) z0 (by omega) htx ?_
  replace R := R.ext (Ext.refl.alloc hl2 (o := .list (strsA held4)))
  generalize σ₁.set l2 (.list (strsA held4)) = σ₂ at R
  clear hl2
  obtain ⟨wes, hw, hW, hz⟩ := R.haw
  have htl : tx.length ≤ 900 := by
    revert htm; simp only [held4, List.mem_cons, List.not_mem_nil, or_false]
    rintro (rfl | rfl | rfl | rfl) <;> decide
  refine Ca.cw (law_step hw hW (by omega) htl fun wes' hW' hz' => ?_)
  replace R := R.world (T'' := 100 + i + 1) hW' (by omega) (by omega) (by omega) (stepW_new R.okW)
  generalize σ₂.set aw (.dict wes') = σ₃ at R
  obtain ⟨j, ⟨hj, hjv⟩, hj3⟩ : ∃ j, ([rowA 0, rowA 1, rowA 2][((num.fdiv 32).fmod 3).toNat]? = some (rowA j) ∧ [v 0, v 1, v 2][((num.fdiv 32).fmod 3).toNat]? = some (v j)) ∧ j < 3 ∧ (j : Int) = (num.fdiv 32).fmod 3 := by
    have h : ((num.fdiv 32).fmod 3).toNat < 3 := by omega
    refine ⟨((num.fdiv 32).fmod 3).toNat, ?_, h, by omega⟩
    generalize ((num.fdiv 32).fmod 3).toNat = z at h
    match z, h with
    | 0, _ => exact ⟨rfl, rfl⟩
    | 1, _ => exact ⟨rfl, rfl⟩
    | 2, _ => exact ⟨rfl, rfl⟩
  refine ss_cons (st_assign (ev_sub (ev_glob (v := .ref 669) (av := .ref 669) (by rfl) (by kernel_rfl) (fun _ _ => .ref _) (ev_local (by rfl) (by rfl) (op_sub_list (fun _ _ => rfl) (base_tasks X).is t0 (by omega) hj (as_local (by rfl) ?_))))))
  replace L := L.set (x := "row") (v := rowA j) (by decide) (by decide) (by decide) (by decide)
  refine ss_cons (st_if (te_cmp (ev_local (by rfl) (by rfl) (ev_int (op_lt_int ⟨_, rfl, ?_⟩)))))
  by_cases hk : num.fmod 8 < 4
  · rw [show decide (num.fmod 8 < 4) = true by simp [hk]]
    exact ss_cons (st_continue (hInv _ _ _ _ _ _ _ _ L R.next (by omega)))
  rw [show decide (num.fmod 8 < 4) = false by simp [hk]]
  refine ss_nil ?_
  obtain ⟨wes, hw, hW, hz⟩ := R.haw
  generalize hWW : stepW W (100 + i) (num.fmod 8) p tx = W₁ at R hW hW'
  have nms : (!(Builtin.Str.occurrences (tnm j) "=" 0 (tnm j).length 1).isEmpty) = false := by
    match j, hj3.1 with
    | 0, _ => decide +kernel
    | 1, _ => decide +kernel
    | 2, _ => decide +kernel
  have dps : (tdeps j).Nodup ∧ tdeps j ≠ [] ∧ (tdeps j).length ≤ 3 ∧ (ttgt j).length ≤ 3 ∧ ∀ q ∈ tdeps j ++ ttgt j, q.length ≤ 100 ∧ PyData.strOk q = true ∧ q ≠ "_values_:" ∧ q ≠ "checker:" ∧ q ≠ "deps:" := by
    match j, hj3.1 with
    | 0, _ => decide +kernel
    | 1, _ => decide +kernel
    | 2, _ => decide +kernel
  have hwes' : Wd wes W₁ := hW
  refine ss_cons (st_assign (ev_call (ev_glob (v := .ref a_law_asked) (av := .val (.ref a_law_asked)) (by rfl) (by kernel_rfl) (fun _ _ => .val _) ⟨_, rfl, .inl (by kernel_rfl), ev_local (by rfl) L.db (ev_cell (by rfl) L.world (ev_local (by rfl) L.which (ev_local (by rfl) (by rfl) ?_)))⟩)))
  refine Ca.cw (law_asked (W := W₁) (S := fun q => (Ls j).bind fun l => l q) hw R.hdb R.hal R.awF nms (base_deps X j) (base_tgt X j) (by omega) (by omega) dps.1 dps.2.1 (fun q hq => (dps.2.2.2.2 q (List.mem_append_left _ hq)).1) (fun q _ => hwes' q) ?_ ?_ ?_ fun σ₄ n k c en ea ek eo ec hc Rd₄ O₄ zb hD₄ E₄ => ?_)
  · intro q hq
    cases hL : Ls j with
    | none => unfold Db.get; rw [R.fresh j hL]; rfl
    | some l =>
      obtain ⟨a, ha, _, hg⟩ := (R.snap j l hL).1 q hq
      rw [hg]; simp only [Option.bind_some, ha]; rfl
  · cases hL : Ls j with
    | none => exact .inl (by unfold Db.get; rw [R.fresh j hL]; rfl)
    | some l => exact .inr (R.snap j l hL).2.1
  · cases hL : Ls j with
    | none => exact .inl (by unfold Db.get; rw [R.fresh j hL]; rfl)
    | some l => exact .inr (R.snap j l hL).2.2
  have R₄ := R.ext E₄
  refine as_tuple rfl (vs := [.ref n.x, .ref n.tx, .str (statOf m W₁ (fun q => (Ls j).bind fun l => l q) (tdeps j) (ttgt j)).1]) (by rfl) (as_local (by rfl) (as_local (by rfl) (as_local (by rfl) ?_)))
  have L₂ := ((L.set (x := "manager") (v := .ref n.x) (by decide) (by decide) (by decide) (by decide)).set (x := "task") (v := .ref n.tx) (by decide) (by decide) (by decide) (by decide)).set (x := "told") (v := .str (statOf m W₁ (fun q => (Ls j).bind fun l => l q) (tdeps j) (ttgt j)).1) (by decide) (by decide) (by decide) (by decide)
  refine ss_cons (st_assign (ev_call (ev_glob (v := .ref a_law_due) (av := .val (.ref a_law_due)) (by rfl) (by kernel_rfl) (fun _ _ => .val _) ⟨_, rfl, .inl (by kernel_rfl), ev_cell (by rfl) L₂.world (ev_local (by rfl) L₂.which (ev_local (by rfl) (by rfl) (ev_sub (ev_local (by rfl) L₂.last (ev_local (by rfl) (by rfl) (op_sub_list (fun _ _ => rfl) (.inl R₄.hla) t0 (by omega) hjv ?_))))))⟩)))
  have lat : LastAt σ₄ (v j) (Ls j) (tdeps j) := by
    rcases R₄.last j with h | ⟨x, les, l, a1, a2, a3, a4, _, _⟩
    · exact .inl h
    · refine .inr ⟨x, les, l, a1, a2, a3, a4, fun q hq => ?_⟩
      obtain ⟨a, ha, _⟩ := (R₄.snap j l a2).1 q hq
      rw [ha]; rfl
  refine Ca.cw (law_due (E₄.get hw id) hwes' (base_deps X j) (base_tgt X j) (by omega) (by omega) lat (fun q hq => (dps.2.2.2.2 q (List.mem_append.mpr hq)).2.1) fun σ₅ lc E₅ hlc => ?_)
  rw [← tells_same (T := 100 + i + 1) R₄.okW fun l hl q hq => by
    obtain ⟨a, ha, sn, _⟩ := (R₄.snap j l hl).1 q hq
    exact ⟨a, ha, sn.sz, by have := sn.ts; omega, sn.same⟩] at hlc ⊢
  generalize hzz : statOf m W₁ (fun q => (Ls j).bind fun l => l q) (tdeps j) (ttgt j) = z at hlc L₂ hc ⊢
  have zok : ∀ q ∈ z.2, PyData.strOk q = true := by
    have sub : ∀ q ∈ z.2, q ∈ tdeps j := by
      rw [← hzz]; unfold statOf
      split
      · exact fun q h => h
      · split
        · intro q h; cases h
        · exact fun q h => (List.mem_filter.mp h).1
    exact fun q hq => (dps.2.2.2.2 q (List.mem_append_left _ (sub q hq))).2.1
  refine as_tuple rfl (vs := [.str z.1, .ref lc]) (by rfl) (as_local (by rfl) (as_local (by rfl) ?_))
  have L₃ := (L₂.set (x := "due") (v := .str z.1) (by decide) (by decide) (by decide) (by decide)).set (x := "changed") (v := .ref lc) (by decide) (by decide) (by decide) (by decide)
  have R₅ := R₄.ext E₅
  have Rd₅ := Rd₄.ext E₅ fun _ h => h.elim
  have hc₅ := E₅.get hc id
  refine ss_cons (st_if (te_or ?_))
  refine te_cmp (ev_local (by rfl) (by rfl) (ev_local (by rfl) (by rfl) (op_ne_str ⟨_, rfl, ?_⟩)))
  rw [show (z.1 != z.1) = false by simp]
  refine te_cmp (ev_attr (ev_local (by rfl) (by rfl) (op_at Rd₅.t.hx Rd₅.t.hdx (by rfl) (by kernel_rfl) (by rw [ec]; rfl) ?_)))
  rw [ec]
  refine ev_local (by rfl) (by rfl) (op_ne_strs (.inl hc₅) hlc zok zok ⟨_, rfl, ?_⟩)
  rw [show (!decide (z.2 = z.2)) = false by simp]
  refine ss_nil ?_
  refine ss_cons (st_if (te_and ?_))
  refine te_cmp (ev_local (by rfl) (by rfl) (ev_str (op_eq_str ⟨_, rfl, ?_⟩)))
  by_cases hrun : z.1 = "run"
  rotate_left
  · rw [show (z.1 == ("run" : Str)) = false by simp [hrun]]
    exact ss_nil (ss_nil (hInv _ _ _ _ _ _ _ _ L₃ R₅.next (by omega)))
  rw [show (z.1 == ("run" : Str)) = true by simp [hrun]]
  refine te_cmp (ev_local (by rfl) (by rfl) (ev_int (op_lt_int ⟨_, rfl, ?_⟩)))
  by_cases h7 : num.fmod 8 < 7
  rotate_left
  · rw [show decide (num.fmod 8 < 7) = false by simp [h7]]
    exact ss_nil (ss_nil (hInv _ _ _ _ _ _ _ _ L₃ R₅.next (by omega)))
  rw [show decide (num.fmod 8 < 7) = true by simp [h7]]
  have hw₅ : σ₅ aw = some (.dict wes) := E₅.get (E₄.get hw id) id
  refine te_cmp (ev_comp rfl (compOk_of (by kernel_rfl)) (itr_list (ev_sub (ev_local (by rfl) (by rfl) (ev_int (op_sub_tup (v := .ref (tdl j)) (fun _ _ => rfl) (by decide) (by decide) (by rfl) ⟨tdl j, strsA (tdeps j), rfl, (base_deps X j).is, quiet_name _ _ _, gq fun p => (W₁ p).isNone, by simp; omega, fun _ _ => (base_deps X j).is, fun v hv σ' hle => ?_, fun a1 ha1 => ?_⟩))))))
  · obtain ⟨p, hp, rfl⟩ := List.mem_map.mp hv
    have hw' : σ' aw = some (.dict wes) := (hle aw (by rw [hw₅]; simp)).trans hw₅
    refine as_local (by rfl) ⟨rfl, fun x u h => ?_, ?_⟩
    · rw [Locs.set_ne]
      · exact h
      · rintro rfl; cases h
    · refine te_cmp (ev_local (by rfl) (by rfl) (ev_cell (by rfl) L₃.world (op_notin hw' ⟨_, rfl, ?_⟩)))
      rw [hwes'.has p]
      cases hp' : W₁ p with
      | none => exact ⟨rfl, ev_local (by rfl) (by rfl) ⟨rfl, by show (if (W₁ p).isNone = true then _ else _) = _; rw [hp']; rfl⟩⟩
      | some e => exact ⟨rfl, by show (if (W₁ p).isNone = true then _ else _) = _; rw [hp']; rfl⟩
  rw [gq_strs]
  have z2 : ∀ p ∈ (tdeps j).filter (fun p => (W₁ p).isNone), PyData.strOk p = true := fun p hp => (dps.2.2.2.2 p (List.mem_append_left _ (List.mem_filter.mp hp).1)).2.1
  refine ev_list ⟨by simp, fun b2 hb2 => op_eq_strs (ss := (tdeps j).filter fun p => (W₁ p).isNone) (ts := []) (.inl (Store.set_old (Store.set_same _ _ _) hb2)) (.inl (Store.set_same _ _ _)) z2 (by simp) ⟨_, rfl, ?_⟩⟩
  have E₆ : Ext (fun _ => False) σ₅ ((σ₅.set a1 (.list (strsA ((tdeps j).filter fun p => (W₁ p).isNone)))).set b2 (.list [])) := (Ext.refl.alloc ha1).alloc hb2
  have R₆ := R₅.ext E₆
  have Rd₆ := Rd₅.ext E₆ fun _ h => h.elim
  generalize (σ₅.set a1 (.list (strsA ((tdeps j).filter fun p => (W₁ p).isNone)))).set b2 (.list []) = σ₆ at E₆ R₆ Rd₆
  by_cases hall : (tdeps j).filter (fun p => (W₁ p).isNone) = []
  rotate_left
  · rw [show decide ((tdeps j).filter (fun p => (W₁ p).isNone) = []) = false by simp only [hall, decide_false]]
    exact ss_nil (ss_nil (hInv _ _ _ _ _ _ _ _ L₃ R₆.next (by omega)))
  rw [show decide ((tdeps j).filter (fun p => (W₁ p).isNone) = []) = true by simp only [hall, decide_true]]
  have O₆ : Out F σ₆ (bs n k) := fun b hb => ⟨E₆.live b (E₅.live b (O₄ b hb).1), (O₄ b hb).2⟩
  have hvn : ∀ b ∈ bs n k, ∀ i, v i ≠ .ref b := by
    intro b hb i e
    rcases R.last i with h | ⟨x, les, l, a1, _, a3, _, a5, _⟩
    · rw [h.1] at e; cases e
    · rw [a1] at e; cases e
      rcases zb _ hb with h | h
      · exact a5 h
      · rw [a3] at h; cases h
  have B : Both σ₆ m (100 + i) (100 + i + 1) db aw la rl rv v W₁ D Ls (N + 1) F n k wes j :=
    ⟨R₆, Rd₆, O₆, en, ea, hwes', hz, fun p hp => by
      have := (any_filter _ _).mp hall
      rw [List.any_eq_false] at this
      have := this p hp
      cases h : W₁ p with
      | none => rw [h] at this; exact absurd rfl this
      | some _ => rfl, fun i => ⟨hvn _ (by simp [bs]) i, hvn _ (by simp [bs]) i⟩, by omega⟩
  refine law_save X (n := n) ⟨L₃, hpl, by rfl, by rw [hj3.2]; rfl, by rfl, by rfl⟩ (by rfl) hj3.1 B ek eo (by omega) fun ℓ' σ' v' D' Ls' N' F' W' L' R' hN' => ?_
  exact ss_nil (hInv _ _ _ _ _ _ _ _ L' R' (by omega))
end

section
variable {w : World} {mg mb : Str → Option Value} {h₀ : Heap} {stk : List Env} {σ : Store} {d : Nat} {hf : Bool}
noncomputable def intsA (ns : List Int) : List AV := ns.map .int
theorem ints_at {ns : List Int} {i : Nat} {v : AV} (e : (intsA ns)[i]? = some v) : ∃ n, v = .int n ∧ i < ns.length := by
  unfold intsA at e
  rw [List.getElem?_map] at e
  cases h : ns[i]? with
  | none => rw [h] at e; cases e
  | some s =>
    rw [h] at e; cases e
    refine ⟨s, rfl, ?_⟩
    rcases Nat.lt_or_ge i ns.length with q | q
    · exact q
    · rw [List.getElem?_eq_none q] at h; cases h
theorem numbered_at {vs : List AV} {i : Nat} {v : AV} (e : (numbered vs)[i]? = some v) : ∃ u, v = .tup [.int i, u] ∧ vs[i]? = some u ∧ i < vs.length := by
  have h : i < vs.length := by
    rcases Nat.lt_or_ge i vs.length with q | q
    · exact q
    · rw [List.getElem?_eq_none (by rw [numbered_len]; exact q)] at e; cases e
  rw [numbered_get h] at e
  cases e
  exact ⟨_, rfl, List.getElem?_eq_getElem h, h⟩
theorem pick_ints (ns : List Int) (lo hi : Option Int) : ∃ ks, pick (intsA ns) lo hi = intsA ks ∧ ks.length ≤ (hi.elim ns.length (clipAt ns.length) - lo.elim 0 (clipAt ns.length)) := by
  unfold pick intsA
  rw [← List.map_drop, ← List.map_take, List.length_map]
  exact ⟨_, rfl, by rw [List.length_take]; exact Nat.min_le_left _ _⟩
theorem law_all {l : Addr} {ns : List Int} {Φ : AV → Store → Prop} (X : (KZ w.params).In h₀) (hl : BaseL h₀ l (intsA ns)) (hz : ns.length ≤ 63) (φ : ∀ σ', Φ (.bool true) σ') :
    Ca (cx w mg mb h₀ stk) (d + 7) true σ (.val (.ref alaw)) [.ref l] [] Φ := by
  refine ca_def (isD_law w.params) (ab := [("script", .ref l)]) (by walk_at "b1") (by kernel_rfl) fun stk' => ?_
  have go : ∀ (m : Bool) (ℓ : Locs), ℓ "script" = some (.ref l) → ℓ "which" = some (.int (if m then 0 else 1)) → Ss (cx w mg mb h₀ stk') (lawF (d + 6)) ℓ σ (tl (subB (fS [27]))) (fun r _ σ' => Φ (retv r) σ') := by
    intro m ℓ hs hw
    refine ss_cons (st_assign (ev_dict_nil fun db hdb => as_local (by rfl) ?_))
    refine ss_cons (st_assign (ev_dict_nil fun aw haw => as_cell rfl (by rfl) ?_))
    refine ss_cons (st_for rfl (itr_enum (by rfl) (by kernel_rfl) rfl (ev_call (ev_glob (v := .ref a_law_files) (av := .val (.ref a_law_files)) (by rfl) (by kernel_rfl) (fun _ _ => .val _) ⟨_, rfl, .inl (by kernel_rfl), Ca.cw (law_files fun l1 hl1 => ?_)⟩))))
    have ndb : db ≠ aw := by rintro rfl; rw [Store.set_same] at haw; cases haw
    refine ⟨l1, strsA fs5, rfl, .inl (Store.set_same _ _ _), fun a ℓ' σ' => ℓ' "script" = some (.ref l) ∧ ℓ' "which" = some (.int (if m then 0 else 1)) ∧ ℓ' "db" = some (.ref db) ∧ ℓ' "world" = some (.ref aw) ∧ σ' l1 = some (.list (strsA fs5)) ∧ σ' db = some (.dict []) ∧
      ∃ (wes : Es) (W : Str → Option We), σ' aw = some (.dict wes) ∧ Wd wes W ∧ wes.length ≤ a ∧ OkW W 100,
      ⟨hs, hw, by rfl, by rfl, Store.set_same _ _ _, Store.set_old (Store.set_old (Store.set_same _ _ _) haw) hl1, [], fun _ => none, Store.set_old (Store.set_same _ _ _) hl1, fun _ => rfl, Nat.le_refl _, fun _ _ h => by cases h⟩,
      fun _ _ _ h => .inl h.2.2.2.2.1, ?_, ?_⟩
    · rintro a z ℓ' σ' hz' ⟨h1, h2, h3, h4, h5, h6, wes, W, h7, h8, h9, h10⟩
      obtain ⟨u, rfl, hu, ha⟩ := numbered_at hz'
      obtain ⟨p, rfl, hp⟩ := strs_at hu
      replace ha : a < 5 := ha
      refine as_tuple rfl (vs := [.int a, .str p]) (by rfl) (as_local (by rfl) (as_local (by rfl) ?_))
      refine ss_cons (st_assign (ev_tuple (ev_local (by rfl) (by rfl) (ev_int (ev_str ⟨by simp, ?_⟩)))))
      refine as_sub (ev_cell (by rfl) h4 (ev_local (by rfl) (by rfl) (opu_set_dict h7 (by omega) ?_)))
      have n1 : l1 ≠ aw := by rintro rfl; rw [h5] at h7; cases h7
      have n2 : db ≠ aw := ndb
      refine ss_nil ⟨h1, h2, h3, h4, (Store.set_ne n1).trans h5, (Store.set_ne n2).trans h6, _, upd W p (some ⟨a, 1, "a"⟩), Store.set_same _ _ _, h8.put p ⟨a, 1, "a"⟩, Nat.le_trans (Es.put_len ..) (by omega), fun q e he => ?_⟩
      unfold upd at he
      split at he
      · cases he; exact ⟨by show (1 : Int) = ((("a" : Str).length : Nat) : Int); decide, by show (a : Int) < 100; omega⟩
      · exact h10 q e he
    · rintro ℓ' σ' ⟨h1, h2, h3, h4, h5, h6, wes, W, h7, h8, h9, h10⟩
      replace h9 : wes.length ≤ 5 := h9
      refine ss_cons (st_assign (ev_list (ev_none (ev_none (ev_none ⟨by simp, fun la hla => as_local (by rfl) ?_⟩)))))
      refine ss_cons (st_for rfl (itr_enum (by rfl) (by kernel_rfl) rfl (ev_bin (ev_slice_list (.int 1 _ _) (.int 23 _ _) (ev_local (by rfl) h1 ⟨l, intsA ns, rfl, hl.is, by unfold intsA; simp; omega, fun c1 hc1 => ?_⟩)))))
      obtain ⟨ks, hks, hlen⟩ := pick_ints ns (some 1) (some 23)
      rw [hks]
      replace hlen : ks.length ≤ 22 := by
        refine Nat.le_trans hlen ?_
        simp only [Option.elim_some, clipAt]
        omega
      have n1 : db ≠ la := by rintro rfl; rw [h6] at hla; cases hla
      have n2 : aw ≠ la := by rintro rfl; rw [h7] at hla; cases hla
      refine ev_list (ev_int (ev_int (ev_int ⟨by simp, fun c2 hc2 => op_add_list (vs := intsA ks) (ws := intsA [5, 37, 69]) (.inl (Store.set_old (Store.set_same _ _ _) hc2)) (.inl (Store.set_same _ _ _)) (by unfold intsA; simp; omega) fun rl hrl => ?_⟩)))
      have E : Ext (fun _ => False) (σ'.set la (.list [.none, .none, .none])) (((((σ'.set la (.list [.none, .none, .none])).set c1 (.list (intsA ks))).set c2 (.list [.int 5, .int 37, .int 69])).set rl (.list (intsA ks ++ intsA [5, 37, 69])))) := ((Ext.refl.alloc hc1).alloc hc2).alloc hrl
      have hrl' := Store.set_same (((σ'.set la (.list [.none, .none, .none])).set c1 (.list (intsA ks))).set c2 (.list [.int 5, .int 37, .int 69])) rl (.list (intsA ks ++ intsA [5, 37, 69]))
      have zrl := ((Ext.refl (F := fun _ => False)).alloc hc1 (o := .list (intsA ks)) |>.alloc hc2 (o := .list [.int 5, .int 37, .int 69])).back hrl
      generalize (((σ'.set la (.list [.none, .none, .none])).set c1 (.list (intsA ks))).set c2 (.list [.int 5, .int 37, .int 69])).set rl (.list (intsA ks ++ intsA [5, 37, 69])) = σ₂ at E hrl' ⊢
      have hdb₂ : σ₂ db = some (.dict []) := E.get (Store.set_old h6 hla) id
      have haw₂ : σ₂ aw = some (.dict wes) := E.get (Store.set_old h7 hla) id
      have hla₂ : σ₂ la = some (.list [.none, .none, .none]) := E.get (Store.set_same _ _ _) id
      rw [show intsA ks ++ intsA [5, 37, 69] = intsA (ks ++ [5, 37, 69]) by unfold intsA; rw [List.map_append]] at hrl'
      have R : Rs σ₂ m (100 + ((0 : Nat) : Int)) (100 + ((0 : Nat) : Int)) db aw la rl (intsA (ks ++ [5, 37, 69])) (fun _ => .none) W (fun _ => none) (fun _ => none) 5 (· = db) := by
        refine ⟨⟨wes, haw₂, h8, h9⟩, ⟨rfl, [], hdb₂, by simp, fun _ _ => rfl, fun _ _ h => (by cases h), fun _ _ _ h => (by cases h)⟩, ?_, ndb.symm, n1.symm, hla₂, fun _ => .inl ⟨rfl, rfl⟩, h10, Int.le_refl _, fun _ _ h => (by cases h), fun _ _ => rfl, hrl', ?_, ?_⟩
        · rintro b rfl; rw [hdb₂]; simp
        · rintro rfl; rw [Store.set_same] at zrl; cases zrl
        · rintro rfl; rw [Store.set_old h6 hla] at zrl; cases zrl
      refine ⟨rl, intsA (ks ++ [5, 37, 69]), rfl, .inl hrl', fun a ℓ₂ σ₃ => LawL ℓ₂ m db aw la ∧ ∃ v W D Ls N F, Rs σ₃ m (100 + (a : Int)) (100 + (a : Int)) db aw la rl (intsA (ks ++ [5, 37, 69])) v W D Ls N F ∧ N ≤ 5 + 20 * a,
        ⟨⟨h2, h3, h4, by rfl⟩, _, _, _, _, _, _, R, by omega⟩, fun _ _ _ ⟨_, _, _, _, _, _, _, R', _⟩ => .inl R'.hrl.1, ?_, ?_⟩
      · rintro a z ℓ₂ σ₃ hz' ⟨L, v, W', D, Ls, N, F, R', hN⟩
        obtain ⟨u, rfl, hu, _⟩ := numbered_at hz'
        obtain ⟨num, rfl, ha⟩ := ints_at hu
        rw [List.length_append] at ha
        replace ha : a < ks.length + 3 := ha
        refine as_tuple rfl (vs := [.int a, .int num]) (by rfl) (as_local (by rfl) (as_local (by rfl) ?_))
        refine (law_round (i := a) (num := num) X ((L.set (by decide) (by decide) (by decide) (by decide)).set (by decide) (by decide) (by decide) (by decide)) (by rfl) (by rfl) R' (by omega)
          (Inv' := fun ℓ₄ σ₄ => LawL ℓ₄ m db aw la ∧ ∃ v W D Ls N F, Rs σ₄ m (100 + ((a + 1 : Nat) : Int)) (100 + ((a + 1 : Nat) : Int)) db aw la rl (intsA (ks ++ [5, 37, 69])) v W D Ls N F ∧ N ≤ 5 + 20 * (a + 1))
          fun ℓ₄ σ₄ v' W' D' Ls' N' F' L' R₄ hN' => ⟨L', v', W', D', Ls', N', F', ?_, by omega⟩).mono fun b ℓ₄ σ₄ h => ?_
        · rw [show (100 + ((a + 1 : Nat) : Int)) = 100 + (a : Int) + 1 by omega]; exact R₄
        · cases b with
          | next => exact h
          | cont => exact h
          | brk => exact h.elim
          | ret v => exact h.elim
      · rintro ℓ₂ σ₃ -
        exact ss_cons (st_return (ev_bool (φ _)))
  refine ss_cons (st_assign (ev_ifexp (te_val (ev_local (by rfl) (by rfl) (tr_list hl.is (by unfold intsA; simp; omega) ?_)))))
  cases ns with
  | nil => exact ev_int (as_local (by rfl) (go true _ (by rfl) (by rfl)))
  | cons x r =>
    refine ev_bin (ev_sub (ev_local (by rfl) (by rfl) (ev_int (op_sub_list (v := .int x) (fun _ _ => rfl) hl.is (by decide) (by decide) (by rfl) (ev_int (op_mod (by decide) (as_local (by rfl) ?_)))))))
    have h : x.fmod 2 = 0 ∨ x.fmod 2 = 1 := by
      have := fmod_at (i := x) (n := 2) (by decide)
      have h1 : (0 : Int) ≤ x.fmod 2 := this.1
      have h2 : x.fmod 2 < 2 := this.2
      omega
    rcases h with h | h
    · rw [h]; exact go true _ (by rfl) (by rfl)
    · rw [h]; exact go false _ (by rfl) (by rfl)
end

theorem ints_vr {h : Heap} : ∀ {xs : List Value} {ns : List Int}, IntsAre xs ns → VRs h (intsA ns) xs
  | _, _, .nil => .nil
  | _, _, .cons n t r => .cons (.int n t) (ints_vr r)
theorem base_ints {P : Params} {h₀ : Heap} {l : Addr} {xs : List Value} {ns : List Int} {ds : List WData} (hL : h₀.IsList l xs.toArray) (hI : IntsAre xs ns) (hW : Well P h₀ (.ref l) (.list ds)) : BaseL h₀ l (intsA ns) := by
  cases hW with
  | @list _ vs _ e _ =>
    obtain ⟨o, e', _, n, hd⟩ := hL
    rw [e] at e'
    cases e'
    have e2 : vs.toArray = xs.toArray := by injection hd
    rw [e2] at e
    exact ⟨xs.toArray, 0, e, fun h _ => ints_vr hI⟩
theorem law_join {w : World} {mg mb : Str → Option Value} {s₁ : Shared} {l : Addr} {ns : List Int} {R : Result → Shared → Prop} (KX : (KZ w.params).In s₁.heap) (g : s₁.heap.Ns mainGlobals mg) (b : s₁.heap.Ns builtinsNs mb) (lim : s₁.heap.NoLimit)
    (bi : ∀ x : Str, x ≠ "__name__" → mb x = bootBuiltins x) (hl : BaseL s₁.heap l (intsA ns)) (hz : ns.length ≤ 63)
    (φ : ∀ s', (∀ b o, s₁.heap.get? b = some o → s'.heap.get? b = some o) → s'.os = s₁.os → s'.gens = s₁.gens → R (.ok (.ret (.bool true))) s') : codeAny (model pg w) callerA (.call (.ref alaw) ⟨[.ref l], []⟩) R s₁ := by
  have st : ∃ o, s₁.heap.get? cStatics = some o := by obtain ⟨mc, ⟨o, _, _, ho, _⟩, _⟩ := lim; exact ⟨o, ho⟩
  refine law_all (w := w) (mg := mg) (mb := mb) (h₀ := s₁.heap) (stk := []) (σ := fun _ => none) (d := 0) (Φ := fun v _ => v = .bool true) KX hl hz (fun _ => rfl) callerA s₁ (.ref alaw) [.ref l] [] R
    ⟨KX, g, b, lim, bi⟩ ⟨rfl, by decide, by decide, fun _ => rfl⟩ ⟨fun _ _ e => e, fun _ _ e => (by cases e), fun _ e => absurd rfl e, st, rfl, fun _ h => nomatch h⟩ (.val _) (.cons (.ref _) .nil) .nil ?_
  intro v x σ' h' tk hv G' _ vr
  subst hv
  cases vr
  exact φ _ G'.keep rfl rfl

end Mine

open PySem PySem.W PyProof.Rows
set_option Elab.async false
set_option maxRecDepth 1000000
set_option maxHeartbeats 0
namespace Mine
theorem fin02 : PySem.Challenge.rw_az0001_02.Holds := by
  refine head02 ?hw ?hc
  case hw => w_witness2
  case hc =>
    intro d kwd hd0
    cases hd0
    intro w s₀ s₁ mg mb G Y fa o pm cd doc dV kV ho hd hcd hD hmg hg args vals as hpre hlay hrd hwl hlo
    have KX := kIn_of Y
    have X := (Ground.X G).1
    have V := (Ground.X G).2
    refine Ground.open G ?_
    intro T B D TE TW
    try (refine guard_noD D (by decide +kernel) ?_; clear D)
    obtain ⟨_, _, M⟩ := bmod_of_top T
    wrow_args hpre hlay hrd hwl hlo
    all_goals (first | refine callC_kw (enter_call ?_) | refine enter_call ?_ | refine callC_kw (enter_callW ?_) | refine enter_callW ?_ | w_how)
    all_goals (w_top on)
    all_goals (try refine codeAny_mono ?_ (fun _ _ g => GoodW.toG g))
    have K0 := below_caller (Top.heap T)
    rename IntsAre _ _ => hI
    rename Heap.IsList _ _ _ => hL
    rename Well _ _ _ _ => hW
    have eF : fa = alaw := by
      have h := mg_of KX T.g (n := "law") (v := .ref 693) (by kernel_rfl)
      rw [show mg "law" = some (.ref fa) from hmg] at h
      injection h with h
      injection h
    subst eF
    refine law_join KX T.g T.b T.nolimit T.builtins (base_ints hL hI hW) (by omega) fun s' kp hos hgn => ?_
    exact ⟨.inl ⟨.bool true, .bool true, [], rfl, fun _ => rfl, .bool true, by kernel_rfl, fun _ => ⟨.nil, fun _ h => nomatch h⟩⟩, kp, hos, hgn.trans hg⟩
end Mine
theorem PySem.Challenge.cw_az0001_02_holds : PySem.Challenge.rw_az0001_02.Holds := by
  exact Mine.fin02
