import PyProof.Rows.All
import Wide.All
import OpenK.AllK
import Wide.FinOn
import KE.KIsAll
import KE.KRevSl
import PySem.Challenge.RW_az0001_01
set_option Elab.async false

set_option autoImplicit false
set_option maxRecDepth 100000
namespace Mine
open PySem PySem.W PySem.Calls PyProof.Rows

/-- abstract values: what is not an object that turns -/
inductive AV where
  | none | bool (b : Bool) | int (i : Int) | str (s : Str) | ref (a : Addr) | val (v : Value) | tup (vs : List AV)

/-- abstract objects -/
inductive AO where
  | list (vs : List AV)
  | dict (es : List (Str × AV))
  | inst (C dx : Addr)
  | set (ss : List Str)

noncomputable abbrev Store := Addr → Option AO
noncomputable abbrev Locs := Str → Option AV

noncomputable abbrev tupObj (xs : Array Value) : Obj := { cls := .type "tuple",data := .seq xs }
noncomputable abbrev listObj (xs : Array Value) (n : Nat) : Obj := { cls := .type "list",data := .seq xs n }
mutual
inductive VR (h : Heap) : AV → Value → Prop
  | none : VR h .none .none
  | bool (b) : VR h (.bool b) (.bool b)
  | int (i t) : VR h (.int i) (.int i t)
  | str (s t) : VR h (.str s) (.str s t)
  | ref (a) : VR h (.ref a) (.ref a)
  | val (v) : VR h (.val v) v
  | tup {a xs vs} : h.get? a = some (tupObj xs) → VRs h vs xs.toList → VR h (.tup vs) (.ref a)
inductive VRs (h : Heap) : List AV → List Value → Prop
  | nil : VRs h [] []
  | cons {v x vs xs} : VR h v x → VRs h vs xs → VRs h (v :: vs) (x :: xs)
end

structure Cx where
  prog : Program
  w : World
  K : Frag
  mg : Str → Option Value
  mb : Str → Option Value
  h₀ : Heap
  /-- the places on the stack,the innermost first -/
  stk : List Env
noncomputable def Cx.on (c : Cx) (stk : List Env) : Cx := { c with stk := stk }

structure Cx.Ok (c : Cx) : Prop where
  X : c.K.In c.h₀
  g : c.h₀.Ns mainGlobals c.mg
  b : c.h₀.Ns builtinsNs c.mb
  lim : c.h₀.NoLimit
  bi : ∀ x : Str,x ≠ "__name__" → c.mb x = bootBuiltins x

/-- pairs by name -/
inductive KRs (h : Heap) : List (Str × AV) → List (Str × Value) → Prop
  | nil : KRs h [] []
  | cons {k v x vs xs} : VR h v x → KRs h vs xs → KRs h ((k,v) :: vs) ((k,x) :: xs)

/-- the set's object holds just these strs -/
structure SetIs (prog : Program) (w : World) (ss : List Str) (o : Obj) : Prop where
  cls : o.cls = .type "set"
  of : ∃ S : Str → Bool,Obj.SetObjOf (PySem.strKind prog w) o S ss.length ∧ ∀ x,S x = true ↔ x ∈ ss
  nd : ss.Nodup

inductive OR (prog : Program) (w : World) (h : Heap) : AO → Obj → Prop
  | list {vs xs n} : VRs h vs xs.toList → OR prog w h (.list vs) (listObj xs n)
  | dict {es kvs oc} : Obj.IsDictOf (PySem.strKind prog w) oc kvs → KRs h es kvs → OR prog w h (.dict es) oc
  | inst {C dx} : OR prog w h (.inst C dx) (instObj C dx)
  | set {ss o} : SetIs prog w ss o → OR prog w h (.set ss) o

/-- a place on the stack: its names lie in the heap,hidden -/
noncomputable def FrAt (c : Cx) (σ : Store) (h : Heap) (env : Env) : Prop := env.scope.kind ≠ .module ∧ ∃ L m,env.frame = some L ∧ h.Ns L m ∧ c.h₀.get? L = none ∧ σ L = none

structure Good (c : Cx) (σ : Store) (h : Heap) : Prop where
  keep : ∀ b o,c.h₀.get? b = some o → h.get? b = some o
  obj : ∀ a o,σ a = some o → ∃ oc,h.get? a = some oc ∧ OR c.prog c.w h o oc
  new : ∀ a,σ a ≠ none → c.h₀.get? a = none
  stat : ∃ o,c.h₀.get? cStatics = some o
  low : σ sysModules = none
  fr : ∀ env ∈ c.stk,FrAt c σ h env

/-- the place of a def's body (or of a comprehension's): its name,scope,function,code; the room left; whether no exception is being handled -/
structure Fn where
  qual : Str
  scope : Scope
  func : Option Addr
  cd : Value
  d : Nat
  hf : Bool
/-- where its locals lie -/
structure Pl where
  L : Addr
  cells : List (Str × Addr)
  fr : Option Addr
noncomputable def Fn.env (f : Fn) (p : Pl) : Env := { scope := f.scope,locals := p.L,globals := mainGlobals,cells := p.cells,qual := f.qual,func := f.func,code := f.cd,frame := p.fr,builtins := builtinsNs }
noncomputable def Fn.kind (f : Fn) (x : Str) : Option NameKind := f.scope.names.lookup x

structure Here (c : Cx) (f : Fn) (ℓ : Locs) (σ : Store) (p : Pl) (h : Heap) : Prop where
  good : Good c σ h
  isFn : f.scope.kind = .function
  ns : ∃ m,h.Ns p.L m ∧ ∀ x v,ℓ x = some v → f.kind x = some .local → ∃ v',m x = some v' ∧ VR h v v'
  cell : ∀ x v,ℓ x = some v → f.kind x = some .cell ∨ f.kind x = some .free → ∃ a v',p.cells.lookup x = some a ∧ h.IsCell a (some v') ∧ VR h v v'
  cells : ∀ x a,p.cells.lookup x = some a → ∃ v,h.IsCell a v
  inj : ∀ x y a,p.cells.lookup x = some a → p.cells.lookup y = some a → x = y
  has : ∀ x,f.kind x = some .cell → ∃ a,p.cells.lookup x = some a
  off : ∀ a,a = p.L ∨ (∃ x,p.cells.lookup x = some a) → σ a = none ∧ c.h₀.get? a = none
  top : f.func.isSome = true → ∃ outer L,c.stk = f.env p :: outer ∧ p.fr = some L

/-- a comprehension's captured names are none of its own -/
noncomputable def Own (f : Fn) (p : Pl) (a : Addr) : Prop := a = p.L ∨ ∃ x,(f.func.isSome = true ∧ f.kind x = some .cell) ∧ p.cells.lookup x = some a

/-- kept; a dict's slots may turn -/
noncomputable def Kp (o : Obj) (x : Option Obj) : Prop := ∃ sl,x = some { o with slots := sl } ∧ ((∀ es ep,o.data ≠ .dict es ep) → sl = o.slots)
theorem Kp.same {o : Obj} {x : Option Obj} (e : x = some o) : Kp o x := ⟨o.slots,e,fun _ => rfl⟩
theorem Kp.exact {o : Obj} {x : Option Obj} (k : Kp o x) (n : ∀ es ep,o.data ≠ .dict es ep) : x = some o := by
  obtain ⟨sl,e,q⟩ := k; rw [e,q n]
theorem Kp.alive {o : Obj} {x : Option Obj} (k : Kp o x) : x ≠ none := by obtain ⟨sl,e,_⟩ := k; rw [e]; simp
theorem Kp.trans {o : Obj} {x y : Option Obj} (k : Kp o x) (q : ∀ o',x = some o' → Kp o' y) : Kp o y := by
  obtain ⟨sl,e,n⟩ := k
  obtain ⟨sl',e',n'⟩ := q _ e
  exact ⟨sl',e',fun h => (n' h).trans (n h)⟩
theorem Ns.kp {h h' : Heap} {a : Addr} {m : Str → Option Value} (n : h.Ns a m) (k : ∀ o,h.get? a = some o → Kp o (h'.get? a)) : h'.Ns a m := by
  obtain ⟨o,es,ep,ho,hd,r⟩ := n
  obtain ⟨sl,e,_⟩ := k o ho
  exact ⟨_,es,ep,e,hd,r⟩

structure Step (σ σ' : Store) (O : Addr → Prop) (h h' : Heap) : Prop where
  keep : ∀ a o,h.get? a = some o → σ a = none → ¬ O a → Kp o (h'.get? a)
  fresh : ∀ a,σ a = none → σ' a ≠ none → h.get? a = none
  stay : ∀ a,σ a ≠ none → σ' a ≠ none

noncomputable abbrev StepC (σ σ' : Store) (h h' : Heap) : Prop := Step σ σ' (fun _ => False) h h'

noncomputable def Store.set (σ : Store) (a : Addr) (o : AO) : Store := fun b => if b = a then some o else σ b
noncomputable def Locs.set (ℓ : Locs) (x : Str) (v : AV) : Locs := fun y => if y = x then some v else ℓ y

theorem Store.set_same (σ : Store) (a : Addr) (o : AO) : σ.set a o a = some o := if_pos rfl
theorem Store.set_ne {σ : Store} {a b : Addr} {o : AO} (h : b ≠ a) : σ.set a o b = σ b := if_neg h
theorem Store.set_old {σ : Store} {a b : Addr} {o ob : AO} (hb : σ b = some ob) (ha : σ a = none) : σ.set a o b = some ob := by
  rw [Store.set_ne (by rintro rfl; rw [ha] at hb; cases hb)]; exact hb
theorem Store.set_some {σ : Store} {a b : Addr} {o : AO} (h : σ a ≠ none) : σ.set b o a ≠ none := by
  unfold Store.set; split
  · simp
  · exact h
theorem Locs.set_same (ℓ : Locs) (x : Str) (v : AV) : ℓ.set x v x = some v := if_pos rfl
theorem Locs.set_ne {ℓ : Locs} {x y : Str} {v : AV} (h : y ≠ x) : ℓ.set x v y = ℓ y := if_neg h

section
variable {c : Cx} {f : Fn} {p : Pl} {σ σ' σ'' : Store} {ℓ ℓ' ℓ'' : Locs} {L : Addr} {h h' h'' : Heap}

noncomputable def TK (h h' : Heap) : Prop := ∀ a xs,h.get? a = some (tupObj xs) → h'.get? a = some (tupObj xs)
theorem TK.refl : TK h h := fun _ _ e => e
theorem TK.trans (x : TK h h') (y : TK h' h'') : TK h h'' := fun _ _ e => y _ _ (x _ _ e)
theorem TK.push (o : Obj) : TK h (h.push o) := fun _ _ e => Heap.get?_push_of_some _ e

mutual
theorem VR.mono {v : AV} {x : Value} (k : TK h h') : VR h v x → VR h' v x
  | .none => .none
  | .bool b => .bool b
  | .int i t => .int i t
  | .str s t => .str s t
  | .ref a => .ref a
  | .val v => .val v
  | .tup e r => .tup (k _ _ e) (VRs.mono k r)
theorem VRs.mono {vs : List AV} {xs : List Value} (k : TK h h') : VRs h vs xs → VRs h' vs xs
  | .nil => .nil
  | .cons a r => .cons (VR.mono k a) (VRs.mono k r)
end

theorem VRs.length {vs : List AV} {xs : List Value} : VRs h vs xs → vs.length = xs.length
  | .nil => rfl
  | .cons _ r => by rw [List.length_cons,List.length_cons,r.length]
theorem VRs.get {vs : List AV} {xs : List Value} : VRs h vs xs → ∀ {i : Nat} {v : AV},vs[i]? = some v → ∃ x,xs[i]? = some x ∧ VR h v x
  | .nil,_,_,e => by simp at e
  | .cons a _,0,_,e => by simp at e; subst e; exact ⟨_,rfl,a⟩
  | .cons _ r,i + 1,_,e => by simpa using r.get (i := i) (by simpa using e)
theorem VRs.append {vs ws : List AV} {xs ys : List Value} : VRs h vs xs → VRs h ws ys → VRs h (vs ++ ws) (xs ++ ys)
  | .nil,s => s
  | .cons a r,s => .cons a (r.append s)
theorem VRs.one {v : AV} {x : Value} (a : VR h v x) : VRs h [v] [x] := .cons a .nil
theorem VRs.take {vs : List AV} {xs : List Value} : VRs h vs xs → ∀ n,VRs h (vs.take n) (xs.take n)
  | .nil,n => by simp; exact .nil
  | .cons _ _,0 => .nil
  | .cons a r,n + 1 => .cons a (r.take n)
theorem VRs.drop {vs : List AV} {xs : List Value} : VRs h vs xs → ∀ n,VRs h (vs.drop n) (xs.drop n)
  | .nil,n => by simp; exact .nil
  | .cons a r,0 => .cons a r
  | .cons _ r,n + 1 => r.drop n
theorem VRs.reverse {vs : List AV} {xs : List Value} : VRs h vs xs → VRs h vs.reverse xs.reverse
  | .nil => .nil
  | .cons a r => by rw [List.reverse_cons,List.reverse_cons]; exact r.reverse.append (.one a)

theorem KRs.mono {es : List (Str × AV)} {ds : List (Str × Value)} (k : TK h h') : KRs h es ds → KRs h' es ds
  | .nil => .nil
  | .cons a r => .cons (a.mono k) (r.mono k)
theorem KRs.names {es : List (Str × AV)} {ds : List (Str × Value)} : KRs h es ds → es.map (·.1) = ds.map (·.1)
  | .nil => rfl
  | .cons _ r => by rw [List.map_cons,List.map_cons,r.names]
theorem KRs.length {es : List (Str × AV)} {ds : List (Str × Value)} : KRs h es ds → es.length = ds.length
  | .nil => rfl
  | .cons _ r => by rw [List.length_cons,List.length_cons,r.length]
theorem OR.mono {prog : Program} {w : World} {o : AO} {oc : Obj} (k : TK h h') : OR prog w h o oc → OR prog w h' o oc
  | .list r => .list (r.mono k)
  | .dict i r => .dict i (r.mono k)
  | .inst => .inst
  | .set r => .set r
theorem OR.not_tupCls {prog : Program} {w : World} {o : AO} {oc : Obj} (r : OR prog w h o oc) : oc.cls ≠ .type "tuple" := by
  cases r with
  | set s => rw [s.cls]; decide
  | dict i _ => obtain ⟨es,ep,x,_⟩ := i; rw [x.1]; decide
  | _ => simp
theorem OR.not_tup {prog : Program} {w : World} {o : AO} {xs : Array Value} (r : OR prog w h o (tupObj xs)) : False := r.not_tupCls rfl
theorem OR.notFreed {prog : Program} {w : World} {o : AO} {oc : Obj} (r : OR prog w h o oc) : oc.isFreed = false := by
  cases r with
  | set s => obtain ⟨S,⟨_,es,ep,t,hd,_⟩,_⟩ := s.of; obtain ⟨a,b,d,e⟩ := oc; cases hd; rfl
  | dict i _ => obtain ⟨es,ep,x,hd,_⟩ := i; exact Obj.isFreed_of_dict hd
  | _ => rfl

theorem Good.tup_off (g : Good c σ h) {a : Addr} {xs : Array Value} (e : h.get? a = some (tupObj xs)) : σ a = none := by
  cases q : σ a with
  | none => rfl
  | some o =>
    obtain ⟨oc,e',r⟩ := g.obj a o q
    rw [e] at e'; cases e'
    exact r.not_tup.elim
theorem Here.tup_ne (H : Here c f ℓ σ p h) {a : Addr} {xs : Array Value} (e : h.get? a = some (tupObj xs)) : ¬ Own f p a := by
  rintro (rfl | ⟨x,_,hx⟩)
  · obtain ⟨m,⟨o,es,ep,ho,hd,_⟩,_⟩ := H.ns
    rw [e] at ho; cases ho; cases hd
  · obtain ⟨v,o,ho,hd⟩ := H.cells x a hx
    rw [e] at ho; cases ho; cases hd
theorem Here.own_alive (H : Here c f ℓ σ p h) {a : Addr} (o : Own f p a) : h.get? a ≠ none := by
  rcases o with rfl | ⟨x,_,hx⟩
  · obtain ⟨m,⟨o,es,ep,ho,hd,_⟩,_⟩ := H.ns
    rw [ho]; simp
  · obtain ⟨v,o,ho,hd⟩ := H.cells x a hx
    rw [ho]; simp
theorem Step.tk (H : Here c f ℓ σ p h) (s : Step σ σ' (Own f p) h h') : TK h h' := fun _ _ e => (s.keep _ _ e (H.good.tup_off e) (H.tup_ne e)).exact fun _ _ q => by cases q
theorem Step.tkC (g : Good c σ h) (s : StepC σ σ' h h') : TK h h' := fun _ _ e => (s.keep _ _ e (g.tup_off e) id).exact fun _ _ q => by cases q
theorem Step.ofC {O : Addr → Prop} (s : StepC σ σ' h h') : Step σ σ' O h h' := ⟨fun a o e q _ => s.keep a o e q id,s.fresh,s.stay⟩

theorem Step.refl {O : Addr → Prop} : Step σ σ O h h := ⟨fun _ _ e _ _ => .same e,fun _ a b => absurd a b,fun _ e => e⟩
theorem Step.trans' {O : Addr → Prop} (al : ∀ a,O a → h'.get? a ≠ none) (x : Step σ σ' O h h') (y : Step σ' σ'' O h' h'') : Step σ σ'' O h h'' := by
  refine ⟨fun a o e q n => ?_,fun a q n => ?_,fun a e => y.stay a (x.stay a e)⟩
  · refine (x.keep a o e q n).trans fun o' e' => y.keep a o' e' ?_ n
    cases z : σ' a with
    | none => rfl
    | some _ => have := x.fresh a q (by rw [z]; simp); rw [e] at this; cases this
  · cases z : σ' a with
    | some _ => exact x.fresh a q (by rw [z]; simp)
    | none =>
      have e := y.fresh a z n
      cases w : h.get? a with
      | none => rfl
      | some o =>
        have : ¬ O a := fun q => al a q e
        exact absurd e (x.keep a o w q this).alive
theorem Step.trans (H : Here c f ℓ σ' p h') (x : Step σ σ' (Own f p) h h') (y : Step σ' σ'' (Own f p) h' h'') : Step σ σ'' (Own f p) h h'' := x.trans' (fun _ o => H.own_alive o) y
theorem Step.transC (x : StepC σ σ' h h') (y : StepC σ' σ'' h' h'') : StepC σ σ'' h h'' := x.trans' (fun _ o => o.elim) y

/-- what turns apart from the place keeps it -/
theorem Here.stepO {O : Addr → Prop} (H : Here c f ℓ σ p h) (s : Step σ σ' O h h') (k : TK h h') (g : Good c σ' h') (no : ∀ a,a = p.L ∨ (∃ x,p.cells.lookup x = some a) → ¬ O a) : Here c f ℓ σ' p h' := by
  have keep : ∀ a,a = p.L ∨ (∃ x,p.cells.lookup x = some a) → ∀ o,h.get? a = some o → Kp o (h'.get? a) := fun a q o e => s.keep a o e (H.off a q).1 (no a q)
  have alive : ∀ a,a = p.L ∨ (∃ x,p.cells.lookup x = some a) → h.get? a ≠ none := by
    rintro a (rfl | ⟨x,hx⟩)
    · obtain ⟨m,⟨o,es,ep,ho,hd,_⟩,_⟩ := H.ns
      rw [ho]; simp
    · obtain ⟨v,o,ho,hd⟩ := H.cells x a hx
      rw [ho]; simp
  refine ⟨g,H.isFn,?_,fun x v hx hk => ?_,fun x a hx => ?_,H.inj,H.has,fun a q => ⟨?_,(H.off a q).2⟩,H.top⟩
  · obtain ⟨m,n,r⟩ := H.ns
    refine ⟨m,Ns.kp n (keep _ (.inl rfl)),fun x v hv hk => ?_⟩
    obtain ⟨v',a,b⟩ := r x v hv hk
    exact ⟨v',a,b.mono k⟩
  · obtain ⟨a,v',e,⟨o,ho,hd⟩,r⟩ := H.cell x v hx hk
    exact ⟨a,v',e,⟨o,(keep a (.inr ⟨x,e⟩) o ho).exact (fun _ _ q => by rw [hd] at q; cases q),hd⟩,r.mono k⟩
  · obtain ⟨v,o,ho,hd⟩ := H.cells x a hx
    exact ⟨v,o,(keep a (.inr ⟨x,hx⟩) o ho).exact (fun _ _ q => by rw [hd] at q; cases q),hd⟩
  · cases z : σ' a with
    | none => rfl
    | some _ => exact absurd (s.fresh a (H.off a q).1 (by rw [z]; simp)) (alive a q)
/-- a call keeps the caller's place -/
theorem Here.call (H : Here c f ℓ σ p h) (s : StepC σ σ' h h') (g : Good c σ' h') : Here c f ℓ σ' p h' := H.stepO s (s.tkC H.good) g fun _ _ => id

theorem Good.lt (g : Good c σ h) {a : Addr} (e : σ a ≠ none) : a < h.objs.size := by
  cases q : σ a with
  | none => exact absurd q e
  | some o => obtain ⟨oc,x,_⟩ := g.obj a o q; exact Heap.lt_size x
theorem Good.size_off (g : Good c σ h) : σ h.objs.size = none := by
  cases q : σ h.objs.size with
  | none => rfl
  | some o => exact absurd (g.lt (a := h.objs.size) (by rw [q]; simp)) (Nat.lt_irrefl _)
theorem Good.base_size (g : Good c σ h) : c.h₀.get? h.objs.size = none := by
  cases q : c.h₀.get? h.objs.size with
  | none => rfl
  | some o => exact absurd (Heap.lt_size (g.keep _ _ q)) (Nat.lt_irrefl _)

theorem Good.size_low (g : Good c σ h) : h.objs.size ≠ sysModules := by
  obtain ⟨o,e⟩ := g.stat
  have := Heap.lt_size (g.keep _ _ e)
  exact Nat.ne_of_gt (Nat.lt_trans (by decide) this)

theorem FrAt.turn {env : Env} (x : FrAt c σ h env) (n : ∀ L m,env.frame = some L → h.Ns L m → c.h₀.get? L = none → σ L = none → ∃ m',h'.Ns L m') (st : ∀ L,h.get? L ≠ none → σ L = none → σ' L = none) : FrAt c σ' h' env := by
  obtain ⟨k,L,m,e,ns,h0,s0⟩ := x
  obtain ⟨m',ns'⟩ := n L m e ns h0 s0
  refine ⟨k,L,m',e,ns',h0,st L ?_ s0⟩
  obtain ⟨o,_,_,ho,_⟩ := ns
  rw [ho]; simp
theorem Good.frExt (g : Good c σ h) (k : ∀ b o,h.get? b = some o → h'.get? b = some o) (st : ∀ L,h.get? L ≠ none → σ L = none → σ' L = none) : ∀ env ∈ c.stk,FrAt c σ' h' env :=
  fun env he => (g.fr env he).turn (fun L m _ ns _ _ => ⟨m,ns.at' (k L)⟩) st
theorem Good.notFrame (g : Good c σ h) {a : Addr} (e : h.get? a = none) : ∀ env ∈ c.stk,env.frame ≠ some a := fun env he q => by
  obtain ⟨_,L,m,hf,⟨o,_,_,ho,_⟩,_⟩ := g.fr env he
  rw [hf] at q; cases q
  rw [ho] at e; cases e

/-- a hidden object is made -/
theorem Good.push (g : Good c σ h) (o : Obj) : Good c σ (h.push o) :=
  ⟨fun b x e => Heap.get?_push_of_some _ (g.keep b x e),fun a x e => let ⟨oc,p,r⟩ := g.obj a x e; ⟨oc,Heap.get?_push_of_some _ p,r.mono (TK.push o)⟩,g.new,g.stat,g.low,g.frExt (fun _ _ e => Heap.get?_push_of_some _ e) fun _ _ e => e⟩
theorem Step.push (o : Obj) : StepC σ σ h (h.push o) := ⟨fun _ _ e _ _ => .same (Heap.get?_push_of_some _ e),fun _ a b => absurd a b,fun _ e => e⟩
theorem Here.push (H : Here c f ℓ σ p h) (o : Obj) : Here c f ℓ σ p (h.push o) := H.call (Step.push o) (H.good.push o)

/-- an object of the store is made -/
theorem Good.alloc (g : Good c σ h) {o : AO} {oc : Obj} (r : OR c.prog c.w (h.push oc) o oc) : Good c (σ.set h.objs.size o) (h.push oc) := by
  refine ⟨fun b x e => Heap.get?_push_of_some _ (g.keep b x e),fun a x e => ?_,fun a e => ?_,g.stat,(Store.set_ne g.size_low.symm).trans g.low,g.frExt (fun _ _ e => Heap.get?_push_of_some _ e) fun L al e => ?_⟩
  · by_cases q : a = h.objs.size
    · subst q
      rw [Store.set_same] at e; cases e
      exact ⟨oc,Heap.get?_push_size _ r.notFreed,r⟩
    · rw [Store.set_ne q] at e
      obtain ⟨oc',p,r'⟩ := g.obj a x e
      exact ⟨oc',Heap.get?_push_of_some _ p,r'.mono (TK.push oc)⟩
  · by_cases q : a = h.objs.size
    · subst q; exact g.base_size
    · rw [Store.set_ne q] at e; exact g.new a e
  · rw [Store.set_ne]
    · exact e
    · rintro rfl
      cases z : h.get? h.objs.size with
      | none => exact al z
      | some o => exact absurd (Heap.lt_size z) (Nat.lt_irrefl _)
theorem Step.alloc {o : AO} {oc : Obj} : StepC σ (σ.set h.objs.size o) h (h.push oc) := by
  refine ⟨fun _ _ e _ _ => .same (Heap.get?_push_of_some _ e),fun a q n => ?_,fun a e => Store.set_some e⟩
  by_cases e : a = h.objs.size
  · subst e
    cases z : h.get? h.objs.size with
    | none => rfl
    | some o => exact absurd (Heap.lt_size z) (Nat.lt_irrefl _)
  · rw [Store.set_ne e] at n; exact absurd q n
theorem Here.alloc (H : Here c f ℓ σ p h) {o : AO} {oc : Obj} (r : OR c.prog c.w (h.push oc) o oc) : Here c f ℓ (σ.set h.objs.size o) p (h.push oc) :=
  H.call Step.alloc (H.good.alloc r)

/-- an object of the store turns -/
theorem TK.upd (g : Good c σ h) {a : Addr} {o : AO} (ha : σ a = some o) (hs : Heap.SameBut a h h') : TK h h' := fun b xs e =>
  (hs.2 b (by rintro rfl; rw [g.tup_off e] at ha; cases ha)).trans e
theorem Good.upd (g : Good c σ h) {a : Addr} {o o' : AO} {oc' : Obj} (ha : σ a = some o) (hs : Heap.SameBut a h h') (he : h'.get? a = some oc') (r : OR c.prog c.w h' o' oc') : Good c (σ.set a o') h' := by
  have k : TK h h' := TK.upd g ha hs
  refine ⟨fun b x e => ?_,fun b x e => ?_,fun b e => ?_,g.stat,(Store.set_ne (by rintro rfl; rw [g.low] at ha; cases ha)).trans g.low,fun env he => (g.fr env he).turn (fun L m _ ns _ s0 => ⟨m,ns.at' fun o e => (hs.2 L (by rintro rfl; rw [ha] at s0; cases s0)).trans e⟩) fun L _ s0 => (Store.set_ne (by rintro rfl; rw [ha] at s0; cases s0)).trans s0⟩
  · have : b ≠ a := by rintro rfl; have := g.new b (by rw [ha]; simp); rw [e] at this; cases this
    exact (hs.2 b this).trans (g.keep b x e)
  · by_cases q : b = a
    · subst q; rw [Store.set_same] at e; cases e; exact ⟨oc',he,r⟩
    · rw [Store.set_ne q] at e
      obtain ⟨oc,p,r'⟩ := g.obj b x e
      exact ⟨oc,(hs.2 b q).trans p,r'.mono k⟩
  · by_cases q : b = a
    · subst q; exact g.new b (by rw [ha]; simp)
    · rw [Store.set_ne q] at e; exact g.new b e
theorem Step.upd {a : Addr} {o o' : AO} (ha : σ a = some o) (hs : Heap.SameBut a h h') : StepC σ (σ.set a o') h h' := by
  refine ⟨fun b x e q _ => .same ((hs.2 b (by rintro rfl; rw [ha] at q; cases q)).trans e),fun b q n => ?_,fun a e => Store.set_some e⟩
  by_cases e : b = a
  · subst e; rw [ha] at q; cases q
  · rw [Store.set_ne e] at n; exact absurd q n
theorem Here.upd (H : Here c f ℓ σ p h) {a : Addr} {o o' : AO} {oc' : Obj} (ha : σ a = some o) (hs : Heap.SameBut a h h') (he : h'.get? a = some oc') (r : OR c.prog c.w h' o' oc') : Here c f ℓ (σ.set a o') p h' :=
  H.call (Step.upd ha hs) (H.good.upd ha hs he r)

/-- a name is stored -/
theorem Here.stored {h' : Heap} (H : Here c f ℓ σ p h) {x : Str} {v : AV} {v' : Value} {m : Str → Option Value} (hk : f.kind x = some .local) (hn : h'.Ns p.L fun y => if y = x then some v' else m y) (hs : Heap.SameBut p.L h h')
    (hm : ∀ y v,ℓ y = some v → f.kind y = some .local → ∃ v',m y = some v' ∧ VR h v v') (hv : VR h v v') : Here c f (ℓ.set x v) σ p h' ∧ Step σ σ (Own f p) h h' := by
  have st : Step σ σ (Own f p) h h' := ⟨fun a o e _ n => .same ((hs.2 a fun q => n (.inl q)).trans e),fun _ a b => absurd a b,fun _ e => e⟩
  have k := st.tk H
  have ne : ∀ x a,p.cells.lookup x = some a → a ≠ p.L := by
    rintro x a hx rfl
    obtain ⟨v,o,ho,hd⟩ := H.cells x _ hx
    obtain ⟨m,⟨o',es,ep,ho',hd',_⟩,_⟩ := H.ns
    rw [ho] at ho'; cases ho'; rw [hd] at hd'; cases hd'
  refine ⟨⟨⟨fun b o e => ?_,fun a o e => ?_,H.good.new,H.good.stat,H.good.low,fun env he => (H.good.fr env he).turn (fun L m' _ ns _ _ => by
      by_cases q : L = p.L
      · exact ⟨_,q ▸ hn⟩
      · exact ⟨m',ns.at' fun o e => (hs.2 L q).trans e⟩) fun _ _ e => e⟩,H.isFn,⟨_,hn,fun y u e hk' => ?_⟩,fun y u e hk' => ?_,fun y a hy => ?_,H.inj,H.has,H.off,H.top⟩,st⟩
  · have : b ≠ p.L := by rintro rfl; have := (H.off p.L (.inl rfl)).2; rw [e] at this; cases this
    exact (hs.2 b this).trans (H.good.keep b o e)
  · obtain ⟨oc,q,r⟩ := H.good.obj a o e
    have : a ≠ p.L := by rintro rfl; have := (H.off p.L (.inl rfl)).1; rw [e] at this; cases this
    exact ⟨oc,(hs.2 a this).trans q,r.mono k⟩
  · by_cases q : y = x
    · subst q
      rw [Locs.set_same] at e; cases e
      exact ⟨v',if_pos rfl,hv.mono k⟩
    · rw [Locs.set_ne q] at e
      obtain ⟨u',a,b⟩ := hm y u e hk'
      exact ⟨u',(if_neg q).trans a,b.mono k⟩
  · have q : y ≠ x := by rintro rfl; rw [hk] at hk'; rcases hk' with h | h <;> cases h
    rw [Locs.set_ne q] at e
    obtain ⟨a,v',e',ic,r⟩ := H.cell y u e hk'
    exact ⟨a,v',e',ic.sameBut hs (ne y a e'),r.mono k⟩
  · obtain ⟨v,ic⟩ := H.cells y a hy
    exact ⟨v,ic.sameBut hs (ne y a hy)⟩
/-- a captured name is stored -/
theorem Here.storedC {h' : Heap} (H : Here c f ℓ σ p h) {x : Str} {v : AV} {v' : Value} {a : Addr} (hfn : f.func.isSome = true) (hk : f.kind x = some .cell) (ha : p.cells.lookup x = some a) (hc : h'.IsCell a (some v')) (hs : Heap.SameBut a h h')
    (hv : VR h v v') : Here c f (ℓ.set x v) σ p h' ∧ Step σ σ (Own f p) h h' := by
  have st : Step σ σ (Own f p) h h' := ⟨fun b o e _ n => .same ((hs.2 b fun q => n (.inr ⟨x,⟨hfn,hk⟩,q ▸ ha⟩)).trans e),fun _ a b => absurd a b,fun _ e => e⟩
  have k := st.tk H
  have ne : p.L ≠ a := by
    rintro rfl
    obtain ⟨v,o,ho,hd⟩ := H.cells x _ ha
    obtain ⟨m,⟨o',es,ep,ho',hd',_⟩,_⟩ := H.ns
    rw [ho] at ho'; cases ho'; rw [hd] at hd'; cases hd'
  have oa := H.off a (.inr ⟨x,ha⟩)
  refine ⟨⟨⟨fun b o e => ?_,fun b o e => ?_,H.good.new,H.good.stat,H.good.low,fun env he => (H.good.fr env he).turn (fun L m' _ ns _ _ => by
      refine ⟨m',ns.at' fun o e => (hs.2 L ?_).trans e⟩
      rintro rfl
      obtain ⟨v,o',ho,hd⟩ := H.cells x _ ha
      obtain ⟨o'',es,ep,ho',hd',_⟩ := ns
      rw [ho] at ho'; cases ho'; rw [hd] at hd'; cases hd') fun _ _ e => e⟩,H.isFn,?_,fun y u e hk' => ?_,fun y b hy => ?_,H.inj,H.has,H.off,H.top⟩,st⟩
  · have : b ≠ a := by rintro rfl; rw [e] at oa; cases oa.2
    exact (hs.2 b this).trans (H.good.keep b o e)
  · obtain ⟨oc,q,r⟩ := H.good.obj b o e
    have : b ≠ a := by rintro rfl; rw [e] at oa; cases oa.1
    exact ⟨oc,(hs.2 b this).trans q,r.mono k⟩
  · obtain ⟨m,n,r⟩ := H.ns
    refine ⟨m,n.sameBut hs ne,fun y u e hk' => ?_⟩
    have q : y ≠ x := by rintro rfl; rw [hk] at hk'; cases hk'
    rw [Locs.set_ne q] at e
    obtain ⟨u',b,z⟩ := r y u e hk'
    exact ⟨u',b,z.mono k⟩
  · by_cases q : y = x
    · subst q
      rw [Locs.set_same] at e; cases e
      exact ⟨a,v',ha,hc,hv.mono k⟩
    · rw [Locs.set_ne q] at e
      obtain ⟨b,u',e',ic,r⟩ := H.cell y u e hk'
      have : b ≠ a := by rintro rfl; exact q (H.inj _ _ _ e' ha)
      exact ⟨b,u',e',ic.sameBut hs this,r.mono k⟩
  · by_cases q : b = a
    · subst q; exact ⟨_,hc⟩
    · obtain ⟨v,ic⟩ := H.cells y b hy
      exact ⟨v,ic.sameBut hs q⟩
end

structure Room (c : Cx) (d : Nat) (hf : Bool) (A : Around) : Prop where
  frames : A.frames = some c.stk
  depth : A.depth + 5 * d ≤ 900
  units : A.units + 60 * d ≤ 9000
  hand : hf = true → A.handled = none

inductive AF where
  | next | brk | cont | ret (v : AV)
inductive FR (h : Heap) : AF → Flow → Prop
  | next : FR h .next .next
  | brk : FR h .brk .brk
  | cont : FR h .cont .cont
  | ret {v x} : VR h v x → FR h (.ret v) (.ret x)

/-- a tree over abstract arguments,run in a frame -/
noncomputable def Tr (c : Cx) (f : Fn) (ℓ : Locs) (σ : Store) {α β : Type} (as : List AV) (t : Env → List Value → Sem α) (R : Heap → β → α → Prop) (Φ : β → Store → Prop) : Prop :=
  ∀ (A : Around) (p : Pl) (s : Shared) (xs : List Value) (Q : α → Shared → Prop) (E : Value → Shared → Prop),c.Ok → Room c f.d f.hf A → Here c f ℓ σ p s.heap → VRs s.heap as xs →
    (∀ b a σ' h' tk,Φ b σ' → Here c f ℓ σ' p h' → Step σ σ' (Own f p) s.heap h' → R h' b a → Q a { s with heap := h',toks := tk }) →
    wpAny (model c.prog c.w) A (t (f.env p) xs) Q E s

/-- an expression -/
noncomputable def Ev (c : Cx) (f : Fn) (ℓ : Locs) (σ : Store) (e : Expr) (Φ : AV → Store → Prop) : Prop := Tr c f ℓ σ [] (fun env _ => eval e env) VR Φ
/-- a test -/
noncomputable def Te (c : Cx) (f : Fn) (ℓ : Locs) (σ : Store) (e : Expr) (Φ : Bool → Store → Prop) : Prop := Tr c f ℓ σ [] (fun env _ => isTrue e env (eval e env)) (fun _ b b' => b = b') Φ
/-- an operation upon values -/
noncomputable def Op (c : Cx) (f : Fn) (ℓ : Locs) (σ : Store) (as : List AV) (t : List Value → Sem Value) (Φ : AV → Store → Prop) : Prop := Tr c f ℓ σ as (fun _ xs => t xs) VR Φ
noncomputable def OpB (c : Cx) (f : Fn) (ℓ : Locs) (σ : Store) (as : List AV) (t : List Value → Sem Bool) (Φ : Bool → Store → Prop) : Prop := Tr c f ℓ σ as (fun _ xs => t xs) (fun _ b b' => b = b') Φ
noncomputable def OpU (c : Cx) (f : Fn) (ℓ : Locs) (σ : Store) (as : List AV) (t : List Value → Sem Unit) (Φ : Store → Prop) : Prop := Tr c f ℓ σ as (fun _ xs => t xs) (fun _ (_ : Unit) _ => True) (fun _ => Φ)

/-- statements -/
noncomputable def StW (c : Cx) (f : Fn) (ℓ : Locs) (σ : Store) (t : Env → Sem Flow) (Φ : AF → Locs → Store → Prop) : Prop :=
  ∀ (A : Around) (p : Pl) (s : Shared) (Q : Flow → Shared → Prop) (E : Value → Shared → Prop),c.Ok → Room c f.d f.hf A → Here c f ℓ σ p s.heap →
    (∀ b a ℓ' σ' h' tk,Φ b ℓ' σ' → Here c f ℓ' σ' p h' → Step σ σ' (Own f p) s.heap h' → FR h' b a → Q a { s with heap := h',toks := tk }) →
    wpAny (model c.prog c.w) A (t (f.env p)) Q E s
noncomputable def Ss (c : Cx) (f : Fn) (ℓ : Locs) (σ : Store) (b : List Stmt) (Φ : AF → Locs → Store → Prop) : Prop := StW c f ℓ σ (execs b) Φ
noncomputable def St (c : Cx) (f : Fn) (ℓ : Locs) (σ : Store) (b : Stmt) (Φ : AF → Locs → Store → Prop) : Prop := StW c f ℓ σ (exec b) Φ
/-- a target -/
noncomputable def As (c : Cx) (f : Fn) (ℓ : Locs) (σ : Store) (e : Expr) (v : AV) (Φ : Locs → Store → Prop) : Prop :=
  ∀ (A : Around) (p : Pl) (s : Shared) (x : Value) (Q : Unit → Shared → Prop) (E : Value → Shared → Prop),c.Ok → Room c f.d f.hf A → Here c f ℓ σ p s.heap → VR s.heap v x →
    (∀ ℓ' σ' h' tk,Φ ℓ' σ' → Here c f ℓ' σ' p h' → Step σ σ' (Own f p) s.heap h' → Q () { s with heap := h',toks := tk }) →
    wpAny (model c.prog c.w) A (assign e (f.env p) x) Q E s

/-- a call -/
noncomputable def Ca (c : Cx) (d : Nat) (hf : Bool) (σ : Store) (g : AV) (as : List AV) (kw : List (Str × AV)) (Φ : AV → Store → Prop) : Prop :=
  ∀ (A : Around) (s : Shared) (g' : Value) (xs : List Value) (ks : List (Str × Value)) (R : Result → Shared → Prop),c.Ok → Room c d hf A → Good c σ s.heap → VR s.heap g g' → VRs s.heap as xs → KRs s.heap kw ks →
    (∀ v x σ' h' tk,Φ v σ' → Good c σ' h' → StepC σ σ' s.heap h' → VR h' v x → R (.ok (.ret x)) { s with heap := h',toks := tk }) →
    codeAny (model c.prog c.w) A (.call g' ⟨xs,ks⟩) R s
/-- a call,as an operation -/
noncomputable def Cw (c : Cx) (d : Nat) (hf : Bool) (σ : Store) (g : AV) (as : List AV) (kw : List (Str × AV)) (Φ : AV → Store → Prop) : Prop :=
  ∀ (A : Around) (s : Shared) (g' : Value) (xs : List Value) (ks : List (Str × Value)) (Q : Value → Shared → Prop) (E : Value → Shared → Prop),c.Ok → Room c d hf A → Good c σ s.heap → VR s.heap g g' → VRs s.heap as xs → KRs s.heap kw ks →
    (∀ v x σ' h' tk,Φ v σ' → Good c σ' h' → StepC σ σ' s.heap h' → VR h' v x → Q x { s with heap := h',toks := tk }) →
    wpAny (model c.prog c.w) A (call g' xs ks) Q E s
theorem Ca.cw {c : Cx} {d : Nat} {hf : Bool} {σ : Store} {g : AV} {as : List AV} {kw : List (Str × AV)} {Φ : AV → Store → Prop} (h : Ca c d hf σ g as kw Φ) : Cw c d hf σ g as kw Φ :=
  fun A s g' xs ks _ _ ok rm G vg va vk k => wpAny_call (h A s g' xs ks _ ok rm G vg va vk k)
end Mine

set_option autoImplicit false
set_option maxRecDepth 100000
namespace Mine
open PySem PySem.W PySem.Calls PyProof.Rows

noncomputable def ap1 {α : Type} (t : Value → Sem α) : List Value → Sem α
  | [a] => t a
  | _ => Sem.unsupported "ap"
noncomputable def ap2 {α : Type} (t : Value → Value → Sem α) : List Value → Sem α
  | [a,b] => t a b
  | _ => Sem.unsupported "ap"
noncomputable def ap3 {α : Type} (t : Value → Value → Value → Sem α) : List Value → Sem α
  | [a,b,d] => t a b d
  | _ => Sem.unsupported "ap"

section
variable {c : Cx} {f : Fn} {ℓ : Locs} {σ : Store}

theorem Tr.mono {α β : Type} {as : List AV} {t : Env → List Value → Sem α} {R : Heap → β → α → Prop} {Φ Ψ : β → Store → Prop} (h : Tr c f ℓ σ as t R Φ) (k : ∀ b σ',Φ b σ' → Ψ b σ') : Tr c f ℓ σ as t R Ψ :=
  fun A p s xs Q E ok rm H vs q => h A p s xs Q E ok rm H vs fun b a σ' h' tk x => q b a σ' h' tk (k b σ' x)
theorem StW.mono {t : Env → Sem Flow} {Φ Ψ : AF → Locs → Store → Prop} (h : StW c f ℓ σ t Φ) (k : ∀ b ℓ' σ',Φ b ℓ' σ' → Ψ b ℓ' σ') : StW c f ℓ σ t Ψ :=
  fun A p s Q E ok rm H q => h A p s Q E ok rm H fun b a ℓ' σ' h' tk x => q b a ℓ' σ' h' tk (k b ℓ' σ' x)
theorem Ca.mono {d : Nat} {hf : Bool} {g : AV} {as : List AV} {kw : List (Str × AV)} {Φ Ψ : AV → Store → Prop} (h : Ca c d hf σ g as kw Φ) (k : ∀ b σ',Φ b σ' → Ψ b σ') : Ca c d hf σ g as kw Ψ :=
  fun A s g' xs ks R ok rm H a b e q => h A s g' xs ks R ok rm H a b e fun v x σ' h' tk z => q v x σ' h' tk (k v σ' z)
theorem Cw.mono {d : Nat} {hf : Bool} {g : AV} {as : List AV} {kw : List (Str × AV)} {Φ Ψ : AV → Store → Prop} (h : Cw c d hf σ g as kw Φ) (k : ∀ b σ',Φ b σ' → Ψ b σ') : Cw c d hf σ g as kw Ψ :=
  fun A s g' xs ks Q E ok rm H a b e q => h A s g' xs ks Q E ok rm H a b e fun v x σ' h' tk z => q v x σ' h' tk (k v σ' z)
theorem Room.le {d d' : Nat} {hf : Bool} {A : Around} (r : Room c d hf A) (h : d' ≤ d) : Room c d' hf A := ⟨r.frames,by have := r.depth; omega,by have := r.units; omega,r.hand⟩
theorem Room.free {d : Nat} {hf hf' : Bool} {A : Around} (r : Room c d hf A) (h : hf' = true → hf = true) : Room c d hf' A := ⟨r.frames,r.depth,r.units,fun e => r.hand (h e)⟩

/-! ## names,constants -/
theorem Ja {x : Str} {pos : Pos} {v : AV} {Φ : AV → Store → Prop} (hk : f.kind x = some .local) (h : ℓ x = some v) (q : Φ v σ) (hd : (x == ("__debug__" : Str)) = false := by decide) : Ev c f ℓ σ (.Name x pos) Φ := by
  intro A p s xs Q E ok rm H _ k
  obtain ⟨m,n,r⟩ := H.ns
  obtain ⟨v',e,vr⟩ := r x v h hk
  exact wpAny_Name (wpAny_loadName_local (env := f.env p) H.isFn hk n e (k v v' σ s.heap s.toks q H .refl vr)) hd
theorem Jl {x : Str} {pos : Pos} {v : AV} {Φ : AV → Store → Prop} (hk : f.kind x = some .cell) (h : ℓ x = some v) (q : Φ v σ) (hd : (x == ("__debug__" : Str)) = false := by decide) : Ev c f ℓ σ (.Name x pos) Φ := by
  intro A p s xs Q E ok rm H _ k
  obtain ⟨a,v',e,ic,vr⟩ := H.cell x v h (.inl hk)
  exact wpAny_Name (wpAny_loadName_cell (env := f.env p) H.isFn hk e ic (k v v' σ s.heap s.toks q H .refl vr)) hd
theorem Qf {x : Str} {pos : Pos} {v : Value} {av : AV} {Φ : AV → Store → Prop} (hk : f.kind x = some .globalImplicit) (e : nsIn c.K mainGlobals x = some (some v)) (vr : ∀ h,(∀ b o,c.h₀.get? b = some o → h.get? b = some o) → VR h av v) (q : Φ av σ)
    (hd : (x == ("__debug__" : Str)) = false := by decide) : Ev c f ℓ σ (.Name x pos) Φ := by
  intro A p s xs Q E ok rm H _ k
  exact Name_function_global (env := f.env p) H.isFn hk (loadGlobal_global (ok.g.keeps H.good.keep) (mg_of ok.X ok.g e) (k av v σ s.heap s.toks q H .refl (vr _ H.good.keep))) hd
theorem Jt {x : Str} {pos : Pos} {v : Value} {Φ : AV → Store → Prop} (hk : f.kind x = some .globalImplicit) (e : nsIn c.K mainGlobals x = some none) (hv : bootBuiltins x = some v) (q : Φ (.val v) σ)
    (hn : x ≠ "__name__" := by decide) (hd : (x == ("__debug__" : Str)) = false := by decide) : Ev c f ℓ σ (.Name x pos) Φ := by
  intro A p s xs Q E ok rm H _ k
  exact Name_function_global (env := f.env p) H.isFn hk (loadGlobal_builtin (ok.g.keeps H.good.keep) (mg_none_of ok.X ok.g e) (ok.b.keeps H.good.keep) ((ok.bi x hn).trans hv) (k (.val v) v σ s.heap s.toks q H .refl (.val v))) hd
theorem Ji {i : Int} {k : Nat} {pos : Pos} {Φ : AV → Store → Prop} (q : Φ (.int i) σ) : Ev c f ℓ σ (.Constant (.int i) k pos) Φ := by
  intro A p s xs Q E ok rm H _ kk
  exact wpAny_Constant_int (kk _ _ σ s.heap _ q H .refl (.int i _))
theorem Jg {x : Str} {k : Nat} {pos : Pos} {Φ : AV → Store → Prop} (q : Φ (.str x) σ) : Ev c f ℓ σ (.Constant (.str x) k pos) Φ := by
  intro A p s xs Q E ok rm H _ kk
  exact wpAny_Constant_str (kk _ _ σ s.heap _ q H .refl (.str x _))
theorem Jz {k : Nat} {pos : Pos} {Φ : AV → Store → Prop} (q : Φ .none σ) : Ev c f ℓ σ (.Constant .none k pos) Φ := by
  intro A p s xs Q E ok rm H _ kk
  exact wpAny_Constant_none (kk _ _ σ s.heap s.toks q H .refl .none)
theorem Qw {b : Bool} {k : Nat} {pos : Pos} {Φ : AV → Store → Prop} (q : Φ (.bool b) σ) : Ev c f ℓ σ (.Constant (.bool b) k pos) Φ := by
  intro A p s xs Q E ok rm H _ kk
  exact wpAny_Constant_bool (kk _ _ σ s.heap s.toks q H .refl (.bool b))

/-! ## operators -/
theorem J8 {l r : Expr} {op : Operator} {pos : Pos} {Φ : AV → Store → Prop} (h : Ev c f ℓ σ l fun a σ₁ => Ev c f ℓ σ₁ r fun b σ₂ => Op c f ℓ σ₂ [a,b] (ap2 (binaryOp op)) Φ) : Ev c f ℓ σ (.BinOp l op r pos) Φ := by
  intro A p s xs Q E ok rm H _ k
  refine wpAny_BinOp (h A p s [] _ E ok rm H .nil fun a a' σ₁ h₁ t₁ q₁ H₁ s₁ va => ?_)
  refine q₁ A p _ [] _ E ok rm H₁ .nil fun b b' σ₂ h₂ t₂ q₂ H₂ s₂ vb => ?_
  exact q₂ A p _ [a',b'] Q E ok rm H₂ (.cons (va.mono (s₂.tk H₁)) (.one vb)) fun v v' σ₃ h₃ t₃ q₃ H₃ s₃ vv => k v v' σ₃ h₃ t₃ q₃ H₃ ((s₁.trans H₁ s₂).trans H₂ s₃) vv
theorem Yr {l r : Expr} {op : CmpOp} {pos : Pos} {Φ : AV → Store → Prop} (h : Ev c f ℓ σ l fun a σ₁ => Ev c f ℓ σ₁ r fun b σ₂ => Op c f ℓ σ₂ [a,b] (ap2 (compareOp op)) Φ)
    (hm : behindInMarks op r = false := by with_unfolding_all rfl) : Ev c f ℓ σ (.Compare l [op] [r] pos) Φ := by
  intro A p s xs Q E ok rm H _ k
  refine wpAny_Compare1 (h A p s [] _ E ok rm H .nil fun a a' σ₁ h₁ t₁ q₁ H₁ s₁ va => ?_) hm
  refine q₁ A p _ [] _ E ok rm H₁ .nil fun b b' σ₂ h₂ t₂ q₂ H₂ s₂ vb => ?_
  exact q₂ A p _ [a',b'] Q E ok rm H₂ (.cons (va.mono (s₂.tk H₁)) (.one vb)) fun v v' σ₃ h₃ t₃ q₃ H₃ s₃ vv => k v v' σ₃ h₃ t₃ q₃ H₃ ((s₁.trans H₁ s₂).trans H₂ s₃) vv
theorem Jf {l r : Expr} {op : CmpOp} {pos : Pos} {Φ : Bool → Store → Prop} (h : Ev c f ℓ σ l fun a σ₁ => Ev c f ℓ σ₁ r fun b σ₂ => Op c f ℓ σ₂ [a,b] (ap2 (compareOp op)) fun v σ₃ => ∃ b,v = .bool b ∧ Φ b σ₃)
    (hm : behindInMarks op r = false := by with_unfolding_all rfl) : Te c f ℓ σ (.Compare l [op] [r] pos) Φ := by
  intro A p s xs Q E ok rm H _ k
  refine wpAny_isTrue_Compare1 (h A p s [] _ E ok rm H .nil fun a a' σ₁ h₁ t₁ q₁ H₁ s₁ va => ?_) hm
  refine q₁ A p _ [] _ E ok rm H₁ .nil fun b b' σ₂ h₂ t₂ q₂ H₂ s₂ vb => ?_
  refine q₂ A p _ [a',b'] _ E ok rm H₂ (.cons (va.mono (s₂.tk H₁)) (.one vb)) fun v v' σ₃ h₃ t₃ q₃ H₃ s₃ vv => ?_
  obtain ⟨z,rfl,q₄⟩ := q₃
  cases vv with
  | bool => exact wpAny_truthy_bool (k z z σ₃ h₃ t₃ q₄ H₃ ((s₁.trans H₁ s₂).trans H₂ s₃) rfl)
theorem Jy {e : Expr} {Φ : Bool → Store → Prop} (h : Ev c f ℓ σ e fun v σ₁ => OpB c f ℓ σ₁ [v] (ap1 truthy) Φ)
    (he : ∀ env,isTrue e env (eval e env) = (do let v ← eval e env; standAt e.pos; holding [v] (truthy v)) := by intro _; rfl) : Te c f ℓ σ e Φ := by
  intro A p s xs Q E ok rm H _ k
  refine wpAny_isTrue_value (h A p s [] _ E ok rm H .nil fun a a' σ₁ h₁ t₁ q₁ H₁ s₁ va => ?_) (he _)
  exact q₁ A p _ [a'] Q E ok rm H₁ (.one va) fun b b' σ₂ h₂ t₂ q₂ H₂ s₂ vb => k b b' σ₂ h₂ t₂ q₂ H₂ (s₁.trans H₁ s₂) vb
theorem Hy {e : Expr} {pos : Pos} {Φ : Bool → Store → Prop} (h : Te c f ℓ σ e fun b σ₁ => Φ (!b) σ₁) : Te c f ℓ σ (.UnaryOp .Not e pos) Φ := by
  intro A p s xs Q E ok rm H _ k
  exact wpAny_isTrue_Not (h A p s [] _ E ok rm H .nil fun a a' σ₁ h₁ t₁ q₁ H₁ s₁ va => k (!a) (!a') σ₁ h₁ t₁ q₁ H₁ s₁ (by rw [va]))
/-- all of them,in order -/
noncomputable def TeAll (c : Cx) (f : Fn) (ℓ : Locs) : List Expr → Store → (Bool → Store → Prop) → Prop
  | [],σ,Φ => Φ true σ
  | e :: es,σ,Φ => Te c f ℓ σ e fun b σ₁ => if b = true then TeAll c f ℓ es σ₁ Φ else Φ false σ₁
noncomputable def TeAny (c : Cx) (f : Fn) (ℓ : Locs) : List Expr → Store → (Bool → Store → Prop) → Prop
  | [],σ,Φ => Φ false σ
  | e :: es,σ,Φ => Te c f ℓ σ e fun b σ₁ => if b = true then Φ true σ₁ else TeAny c f ℓ es σ₁ Φ
theorem Qy {es : List Expr} {pos : Pos} {Φ : Bool → Store → Prop} (h : TeAll c f ℓ es σ Φ) : Te c f ℓ σ (.BoolOp .And es pos) Φ := by
  intro A p s xs Q E ok rm H v0 k
  clear v0
  refine wpAny_isTrue_BoolOp ?_
  induction es generalizing σ s with
  | nil => exact wpAny_allTrue_And_nil (k true true σ s.heap s.toks h H .refl rfl)
  | cons e es ih =>
    refine wpAny_allTrue_And_cons (h A p s [] _ E ok rm H .nil fun a a' σ₁ h₁ t₁ q₁ H₁ s₁ va => ?_)
    subst va
    cases a with
    | false => exact k false false σ₁ h₁ t₁ q₁ H₁ s₁ rfl
    | true => exact ih q₁ { s with heap := h₁,toks := t₁ } H₁ fun b b' σ₂ h₂ t₂ q₂ H₂ s₂ vb => k b b' σ₂ h₂ t₂ q₂ H₂ (s₁.trans H₁ s₂) vb
theorem Ug {es : List Expr} {pos : Pos} {Φ : Bool → Store → Prop} (h : TeAny c f ℓ es σ Φ) : Te c f ℓ σ (.BoolOp .Or es pos) Φ := by
  intro A p s xs Q E ok rm H v0 k
  clear v0
  refine wpAny_isTrue_BoolOp ?_
  induction es generalizing σ s with
  | nil => exact wpAny_allTrue_Or_nil (k false false σ s.heap s.toks h H .refl rfl)
  | cons e es ih =>
    refine wpAny_allTrue_Or_cons (h A p s [] _ E ok rm H .nil fun a a' σ₁ h₁ t₁ q₁ H₁ s₁ va => ?_)
    subst va
    cases a with
    | true => exact k true true σ₁ h₁ t₁ q₁ H₁ s₁ rfl
    | false => exact ih q₁ { s with heap := h₁,toks := t₁ } H₁ fun b b' σ₂ h₂ t₂ q₂ H₂ s₂ vb => k b b' σ₂ h₂ t₂ q₂ H₂ (s₁.trans H₁ s₂) vb
theorem Qo {t a b : Expr} {pos : Pos} {Φ : AV → Store → Prop} (h : Te c f ℓ σ t fun z σ₁ => if z = true then Ev c f ℓ σ₁ a Φ else Ev c f ℓ σ₁ b Φ) : Ev c f ℓ σ (.IfExp t a b pos) Φ := by
  intro A p s xs Q E ok rm H _ k
  refine wpAny_IfExp (h A p s [] _ E ok rm H .nil fun z z' σ₁ h₁ t₁ q₁ H₁ s₁ vz => ?_)
  subst vz
  cases z <;> exact q₁ A p _ [] Q E ok rm H₁ .nil fun b b' σ₂ h₂ t₂ q₂ H₂ s₂ vb => k b b' σ₂ h₂ t₂ q₂ H₂ (s₁.trans H₁ s₂) vb
theorem ev_and2 {a b : Expr} {pos : Pos} {Φ : AV → Store → Prop} (h : Ev c f ℓ σ a fun v σ₁ => OpB c f ℓ σ₁ [v] (ap1 truthy) fun z σ₂ => if z = true then Ev c f ℓ σ₂ b Φ else Φ v σ₂) : Ev c f ℓ σ (.BoolOp .And [a,b] pos) Φ := by
  intro A p s xs Q E ok rm H _ k
  refine wpAny_And2 (h A p s [] _ E ok rm H .nil fun v v' σ₁ h₁ t₁ q₁ H₁ s₁ vv => ?_)
  refine q₁ A p _ [v'] _ E ok rm H₁ (.one vv) fun z z' σ₂ h₂ t₂ q₂ H₂ s₂ vz => ?_
  subst vz
  cases z with
  | false => exact k v v' σ₂ h₂ t₂ q₂ H₂ (s₁.trans H₁ s₂) (vv.mono (s₂.tk H₁))
  | true => exact q₂ A p _ [] Q E ok rm H₂ .nil fun b b' σ₃ h₃ t₃ q₃ H₃ s₃ vb => k b b' σ₃ h₃ t₃ q₃ H₃ ((s₁.trans H₁ s₂).trans H₂ s₃) vb
theorem ev_or2 {a b : Expr} {pos : Pos} {Φ : AV → Store → Prop} (h : Ev c f ℓ σ a fun v σ₁ => OpB c f ℓ σ₁ [v] (ap1 truthy) fun z σ₂ => if z = true then Φ v σ₂ else Ev c f ℓ σ₂ b Φ) : Ev c f ℓ σ (.BoolOp .Or [a,b] pos) Φ := by
  intro A p s xs Q E ok rm H _ k
  refine wpAny_Or2 (h A p s [] _ E ok rm H .nil fun v v' σ₁ h₁ t₁ q₁ H₁ s₁ vv => ?_)
  refine q₁ A p _ [v'] _ E ok rm H₁ (.one vv) fun z z' σ₂ h₂ t₂ q₂ H₂ s₂ vz => ?_
  subst vz
  cases z with
  | true => exact k v v' σ₂ h₂ t₂ q₂ H₂ (s₁.trans H₁ s₂) (vv.mono (s₂.tk H₁))
  | false => exact q₂ A p _ [] Q E ok rm H₂ .nil fun b b' σ₃ h₃ t₃ q₃ H₃ s₃ vb => k b b' σ₃ h₃ t₃ q₃ H₃ ((s₁.trans H₁ s₂).trans H₂ s₃) vb
theorem ev_not {e : Expr} {pos : Pos} {Φ : AV → Store → Prop} (h : Ev c f ℓ σ e fun v σ₁ => OpB c f ℓ σ₁ [v] (ap1 truthy) fun z σ₂ => Φ (.bool (!z)) σ₂) : Ev c f ℓ σ (.UnaryOp .Not e pos) Φ := by
  intro A p s xs Q E ok rm H _ k
  refine wpAny_UnaryOp (h A p s [] _ E ok rm H .nil fun v v' σ₁ h₁ t₁ q₁ H₁ s₁ vv => not_value ?_)
  refine q₁ A p _ [v'] _ E ok rm H₁ (.one vv) fun z z' σ₂ h₂ t₂ q₂ H₂ s₂ vz => ?_
  subst vz
  exact k _ _ σ₂ h₂ t₂ q₂ H₂ (s₁.trans H₁ s₂) (.bool _)
theorem ev_un {op : UnaryOp} {e : Expr} {pos : Pos} {Φ : AV → Store → Prop} (h : Ev c f ℓ σ e fun v σ₁ => Op c f ℓ σ₁ [v] (ap1 (unaryOp op)) Φ) : Ev c f ℓ σ (.UnaryOp op e pos) Φ := by
  intro A p s xs Q E ok rm H _ k
  refine wpAny_UnaryOp (h A p s [] _ E ok rm H .nil fun v v' σ₁ h₁ t₁ q₁ H₁ s₁ vv => ?_)
  exact q₁ A p _ [v'] Q E ok rm H₁ (.one vv) fun z z' σ₂ h₂ t₂ q₂ H₂ s₂ vz => k z z' σ₂ h₂ t₂ q₂ H₂ (s₁.trans H₁ s₂) vz
theorem Jh {e : Expr} {attr : Str} {pos : Pos} {Φ : AV → Store → Prop} (h : Ev c f ℓ σ e fun v σ₁ => Op c f ℓ σ₁ [v] (ap1 fun o => getAttr o attr true) Φ)
    (he : ∀ env,eval (.Attribute e attr pos) env = (do
      let o ← eval e env
      standAt pos.atName
      let r ← holding [o] (getAttr o attr true)
      letTemporaryGo e o r
      pure r) := by intro _; with_unfolding_all rfl) : Ev c f ℓ σ (.Attribute e attr pos) Φ := by
  intro A p s xs Q E ok rm H _ k
  refine Attribute_any_ (h A p s [] _ E ok rm H .nil fun v v' σ₁ h₁ t₁ q₁ H₁ s₁ vv => ?_) (he _)
  exact q₁ A p _ [v'] Q E ok rm H₁ (.one vv) fun z z' σ₂ h₂ t₂ q₂ H₂ s₂ vz => k z z' σ₂ h₂ t₂ q₂ H₂ (s₁.trans H₁ s₂) vz
theorem Jp {e i : Expr} {pos : Pos} {Φ : AV → Store → Prop} (h : Ev c f ℓ σ e fun v σ₁ => Ev c f ℓ σ₁ i fun w σ₂ => Op c f ℓ σ₂ [v,w] (ap2 (subscriptTail e i)) Φ) : Ev c f ℓ σ (.Subscript e i pos) Φ := by
  intro A p s xs Q E ok rm H _ k
  refine Subscript_ (h A p s [] _ E ok rm H .nil fun v v' σ₁ h₁ t₁ q₁ H₁ s₁ vv => ?_)
  refine q₁ A p _ [] _ E ok rm H₁ .nil fun b b' σ₂ h₂ t₂ q₂ H₂ s₂ vb => ?_
  exact q₂ A p _ [v',b'] Q E ok rm H₂ (.cons (vv.mono (s₂.tk H₁)) (.one vb)) fun z z' σ₃ h₃ t₃ q₃ H₃ s₃ vz => k z z' σ₃ h₃ t₃ q₃ H₃ ((s₁.trans H₁ s₂).trans H₂ s₃) vz

/-! ## displays -/
/-- expressions,in order -/
noncomputable def EvL (c : Cx) (f : Fn) (ℓ : Locs) : List Expr → Store → (List AV → Store → Prop) → Prop
  | [],σ,Φ => Φ [] σ
  | e :: es,σ,Φ => Ev c f ℓ σ e fun v σ₁ => EvL c f ℓ es σ₁ fun vs σ₂ => Φ (v :: vs) σ₂
noncomputable def plainE : Expr → Bool
  | .Starred .. => false
  | _ => true
theorem Qb {e : Expr} {es : List Expr} {env : Env} (h : plainE e = true) : starEach (e :: es) env = (false,eval e env) :: starEach es env := by
  cases e <;> first | rfl | cases h
theorem Ua {es : List Expr} {pos : Pos} {Φ : List AV → Store → Prop} (hp : es.all plainE = true) (h : EvL c f ℓ es σ Φ) : Tr c f ℓ σ [] (fun env _ => spliced (backTo pos (starEach es env))) VRs Φ := by
  intro A p s xs Q E ok rm H v0 k
  clear v0
  induction es generalizing σ s Q Φ with
  | nil => exact args_nil (k [] [] σ s.heap s.toks h H .refl .nil)
  | cons e es ih =>
    rw [List.all_cons,Bool.and_eq_true] at hp
    refine args_cons (h A p s [] _ E ok rm H .nil fun v v' σ₁ h₁ t₁ q₁ H₁ s₁ vv => ?_) (Qb hp.1)
    exact ih hp.2 q₁ { s with heap := h₁,toks := t₁ } _ H₁ fun vs vs' σ₂ h₂ t₂ q₂ H₂ s₂ vz => k (v :: vs) (v' :: vs') σ₂ h₂ t₂ q₂ H₂ (s₁.trans H₁ s₂) (.cons (vv.mono (s₂.tk H₁)) vz)
theorem Jq {es : List Expr} {n : Nat} {pos : Pos} {Φ : AV → Store → Prop} (h : EvL c f ℓ es σ fun vs σ₁ => vs.length ≤ 1000 ∧ Φ (.tup vs) σ₁) (hp : es.all plainE = true := by rfl) : Ev c f ℓ σ (.Tuple es n pos) Φ := by
  intro A p s xs Q E ok rm H _ k
  refine Tuple_ (Ua hp h A p s [] _ E ok rm H .nil fun vs vs' σ₁ h₁ t₁ q₁ H₁ s₁ vv => ?_)
  refine wpAny_newObj_type ?_ (by show vs'.toArray.size ≤ sizeLine; rw [List.size_toArray,← vv.length,sizeLine_eq]; have := q₁.1; omega)
  have H₂ := H₁.push (tupObj vs'.toArray)
  refine k _ _ σ₁ _ _ q₁.2 H₂ (s₁.trans H₁ (.ofC (.push _))) (.tup (xs := vs'.toArray) (Heap.get?_push_size _ rfl) ?_)
  simpa using vv.mono (TK.push _)
theorem J6 {es : List Expr} {pos : Pos} {Φ : AV → Store → Prop} (h : EvL c f ℓ es σ fun vs σ₁ => vs.length ≤ 1000 ∧ ∀ a,σ₁ a = none → Φ (.ref a) (σ₁.set a (.list vs))) (hp : es.all plainE = true := by rfl) : Ev c f ℓ σ (.List es pos) Φ := by
  intro A p s xs Q E ok rm H _ k
  refine List_ (Ua hp h A p s [] _ E ok rm H .nil fun vs vs' σ₁ h₁ t₁ q₁ H₁ s₁ vv => ?_)
  refine wpAny_newObj_type ?_ (by show vs'.toArray.size ≤ sizeLine; rw [List.size_toArray,← vv.length,sizeLine_eq]; have := q₁.1; omega)
  have r : OR c.prog c.w (h₁.push (listObj vs'.toArray 0)) (.list vs) (listObj vs'.toArray 0) := .list (by simpa using vv.mono (TK.push _))
  have H₂ := H₁.alloc r
  exact k _ _ _ _ _ (q₁.2 _ H₁.good.size_off) H₂ (s₁.trans H₁ (.ofC .alloc)) (.ref _)
end
end Mine

set_option autoImplicit false
set_option maxRecDepth 100000
namespace Mine
open PySem PySem.W PySem.Calls PyProof.Rows

section
variable {c : Cx} {f : Fn} {ℓ : Locs} {σ : Store}

/-! ## calls -/
noncomputable def CalleeOk (c : Cx) (g : Value) : Prop := keepIn c.K g = true ∨ ∀ a,g ≠ .ref a
theorem CalleeOk.looks {g : Value} (k : CalleeOk c g) {M : Model} (ok : c.Ok) (h : Heap) (kp : ∀ b o,c.h₀.get? b = some o → h.get? b = some o) :
    ∃ k,(k = Keeper.frame ∨ k = Keeper.machine ∨ k = Keeper.boundFrame) ∧ Looks M h (keeperOf g) k := by
  rcases k with k | k
  · exact keeps_K k h (ok.X.keeps kp)
  · refine ⟨.machine,.inr (.inl rfl),Looks.of_pure ?_⟩
    cases g <;> first | rfl | exact absurd rfl (k _)
theorem Zp {es : List Expr} {pos : Pos} {env : Env} (hp : es.all plainE = true) : (backTo pos (starEach es env)).any (·.1) = false := by
  induction es with
  | nil => rfl
  | cons e es ih =>
    rw [List.all_cons,Bool.and_eq_true] at hp
    rw [Qb hp.1]
    show (false || (backTo pos (starEach es env)).any (·.1)) = false
    rw [ih hp.2]; rfl

noncomputable def KeepBH (h h' : Heap) : Prop := ∀ b o,h.get? b = some o → h'.get? b = some o
noncomputable def KeepB (c : Cx) (h : Heap) : Prop := ∀ b o,c.h₀.get? b = some o → h.get? b = some o

/-- the callee and the first arguments are at hand; the rest is evaluated,and it is called -/
theorem run_call {es : List Expr} {pos : Pos} {g : Value} {first : List AV} {Φ : AV → Store → Prop} (hp : es.all plainE = true) (hc : CalleeOk c g)
    (h : EvL c f ℓ es σ fun as σ₂ => Cw c f.d f.hf σ₂ (.val g) (first ++ as) [] Φ) : Tr c f ℓ σ first (fun env xs => callWith pos g xs (backTo pos (starEach es env)) []) VR Φ := by
  intro A p s xs Q E ok rm H vf k
  refine callWith_of (P := KeepB c) (by rw [Zp hp]; rfl) (fun h' kp => hc.looks ok h' kp) ?_
  cases es with
  | nil =>
    refine evalArgs_nil3 ⟨H.good.keep,?_⟩
    have h : Cw c f.d f.hf σ (.val g) (first ++ []) [] Φ := h
    rw [List.append_nil] at h
    show wpAny _ _ (call g (xs ++ []) []) _ _ _
    rw [List.append_nil]
    exact h A s g xs [] _ E ok rm H.good (.val g) vf .nil fun v x σ' h' tk q g' st vr => k v x σ' h' tk q (H.call st g') (.ofC st) vr
  | cons e es =>
    rw [List.all_cons,Bool.and_eq_true] at hp
    rw [Qb hp.1]
    refine evalArgs_plain ?_
    have := Ua (pos := pos) (es := e :: es) (by rw [List.all_cons,hp.1,hp.2]; rfl) h A p s [] (fun vs s₁ => KeepB c s₁.heap ∧ wpAny (model c.prog c.w) A (call g (xs ++ vs) []) Q E s₁) E ok rm H .nil fun vs vs' σ₁ h₁ t₁ q₁ H₁ s₁ vv => ?_
    · replace this : wpAny _ _ (spliced (backTo pos (starEach (e :: es) (f.env p)))) _ _ _ := this
      rw [Qb hp.1] at this; exact this
    · refine ⟨H₁.good.keep,q₁ A _ g (xs ++ vs') [] _ E ok rm H₁.good (.val g) ((vf.mono (s₁.tk H)).append vv) .nil fun v x σ' h' tk q g' st vr => ?_⟩
      exact k v x σ' h' tk q (H₁.call st g') (s₁.trans H₁ (.ofC st)) vr

theorem Ju {fn : Expr} {es : List Expr} {pos : Pos} {Φ : AV → Store → Prop} (h : Ev c f ℓ σ fn fun g σ₁ => ∃ g',g = .val g' ∧ CalleeOk c g' ∧ EvL c f ℓ es σ₁ fun as σ₂ => Cw c f.d f.hf σ₂ (.val g') as [] Φ)
    (hp : es.all plainE = true := by rfl) (he : ∀ env,eval (.Call fn es [] pos) env = (do callWith pos (← eval fn env) [] (backTo pos (starEach es env)) (backToKw pos (keywordEach [] env))) := by intro _; rfl) :
    Ev c f ℓ σ (.Call fn es [] pos) Φ := by
  intro A p s xs Q E ok rm H _ k
  refine Call_ (h A p s [] _ E ok rm H .nil fun g g₁ σ₁ h₁ t₁ q₁ H₁ s₁ vg => ?_) (he _)
  obtain ⟨g',rfl,hc,q₂⟩ := q₁
  cases vg
  exact run_call (first := []) (pos := pos) hp hc q₂ A p _ [] Q E ok rm H₁ .nil fun z z' σ₂ h₂ t₂ q₂ H₂ s₂ vz => k z z' σ₂ h₂ t₂ q₂ H₂ (s₁.trans H₁ s₂) vz

/-- a method is found: the call's function and its object -/
noncomputable def MethOf (c : Cx) (σ : Store) (ov : AV) (name : Str) (g : Value) : Prop :=
  ∀ (A : Around) (s : Shared) (x : Value) (pl : Sem Bool) (Q : Value × List Value → Shared → Prop) (E : Value → Shared → Prop),c.Ok → Good c σ s.heap → VR s.heap ov x → Q (g,[x]) s → wpAny (model c.prog c.w) A (getMethod x name pl) Q E s
theorem Jk {o : Expr} {name : Str} {apos pos : Pos} {es : List Expr} {Φ : AV → Store → Prop} {pl : Env → Sem Bool}
    (h : Ev c f ℓ σ o fun ov σ₁ => ∃ g,MethOf c σ₁ ov name g ∧ CalleeOk c g ∧ EvL c f ℓ es σ₁ fun as σ₂ => Cw c f.d f.hf σ₂ (.val g) (ov :: as) [] Φ)
    (hp : es.all plainE = true := by rfl) (he : ∀ env,eval (.Call (.Attribute o name apos) es [] pos) env = (do
      let ov ← eval o env
      standAt apos.atName
      let (f,first) ← holding [ov] (getMethod ov name (pl env))
      callWith pos f first (backTo pos (starEach es env)) []) := by intro _; rfl) : Ev c f ℓ σ (.Call (.Attribute o name apos) es [] pos) Φ := by
  intro A p s xs Q E ok rm H _ k
  refine MethodCall_ (h A p s [] _ E ok rm H .nil fun ov ov' σ₁ h₁ t₁ q₁ H₁ s₁ vo => ?_) (he _)
  obtain ⟨g,hm,hc,q₂⟩ := q₁
  refine hm A _ ov' _ _ E ok H₁.good vo ?_
  exact run_call (first := [ov]) (pos := pos) hp hc q₂ A p _ [ov'] Q E ok rm H₁ (.one vo) fun z z' σ₂ h₂ t₂ q₂ H₂ s₂ vz => k z z' σ₂ h₂ t₂ q₂ H₂ (s₁.trans H₁ s₂) vz

/-! ## keyword arguments -/
theorem kw_run {ks : List Keyword} {pos : Pos} {Φ : List AV → Store → Prop} (h : EvL c f ℓ (ks.map (·.value)) σ Φ) : Tr c f ℓ σ [] (fun env _ => evalAll ((backToKw pos (keywordEach ks env)).map (·.2))) VRs Φ := by
  intro A p s xs Q E ok rm H v0 k
  clear v0
  induction ks generalizing σ s Q Φ with
  | nil => exact wpAny_evalAll_nil (k [] [] σ s.heap s.toks h H .refl .nil)
  | cons e es ih =>
    obtain ⟨n,e,q⟩ := e
    show wpAny _ _ (evalAll ((do let v ← eval e (f.env p); standAt pos; pure v) :: ((backToKw pos (keywordEach es (f.env p))).map (·.2)))) _ _ _
    refine wpAny_evalAll_cons (wpAny_bind (h A p s [] _ E ok rm H .nil fun v v' σ₁ h₁ t₁ q₁ H₁ s₁ vv => wpAny_bind (wpAny_standAt (wpAny_pure ?_))))
    exact ih q₁ { s with heap := h₁,toks := t₁ } _ H₁ fun vs vs' σ₂ h₂ t₂ q₂ H₂ s₂ vz => k (v :: vs) (v' :: vs') σ₂ h₂ t₂ q₂ H₂ (s₁.trans H₁ s₂) (.cons (vv.mono (s₂.tk H₁)) vz)
theorem kw_names {ks : List Keyword} {pos : Pos} {env : Env} : (backToKw pos (keywordEach ks env)).map (·.1) = ks.map (·.arg) := by
  induction ks with
  | nil => rfl
  | cons e es ih =>
    obtain ⟨n,e,q⟩ := e
    show n :: (backToKw pos (keywordEach es env)).map (·.1) = n :: es.map (·.arg)
    rw [ih]
theorem KRs.zip {h : Heap} : ∀ (ns : List Str) {vs : List AV} {xs : List Value},VRs h vs xs → KRs h (ns.zip vs) (ns.zip xs)
  | [],_,_,_ => .nil
  | _ :: _,_,_,.nil => .nil
  | _ :: ns,_,_,.cons a r => .cons a (KRs.zip ns r)
theorem filterMap_fst {α : Type} (l : List (Option Str × α)) : l.filterMap (·.1) = (l.map (·.1)).filterMap id := by
  induction l with
  | nil => rfl
  | cons a l ih =>
    obtain ⟨n,x⟩ := a
    rw [List.map_cons,List.filterMap_cons,List.filterMap_cons,ih]; rfl
theorem all_fst {α : Type} (q : Option Str → Bool) (l : List (Option Str × α)) : l.all (fun x => q x.1) = (l.map (·.1)).all q := by
  rw [List.all_map]; rfl

theorem ev_call_kw {fn : Expr} {es : List Expr} {ks : List Keyword} {pos : Pos} {Φ : AV → Store → Prop} {ns : List Str}
    (h : Ev c f ℓ σ fn fun g σ₁ => ∃ g',g = .val g' ∧ CalleeOk c g' ∧ EvL c f ℓ es σ₁ fun as σ₂ => EvL c f ℓ (ks.map (·.value)) σ₂ fun kvs σ₃ => Cw c f.d f.hf σ₃ (.val g') as (ns.zip kvs) Φ)
    (hns : ks.map (·.arg) = ns.map some := by rfl) (hes : es ≠ [] := by intro h; cases h) (hp : es.all plainE = true := by rfl) (he : ∀ env,eval (.Call fn es ks pos) env = (do callWith pos (← eval fn env) [] (backTo pos (starEach es env)) (backToKw pos (keywordEach ks env))) := by intro _; rfl) :
    Ev c f ℓ σ (.Call fn es ks pos) Φ := by
  intro A p s xs Q E ok rm H _ k
  show wpAny (model c.prog c.w) A (eval (.Call fn es ks pos) (f.env p)) Q E s
  rw [he]
  refine wpAny_bind (h A p s [] _ E ok rm H .nil fun g g₁ σ₁ h₁ t₁ q₁ H₁ s₁ vg => ?_)
  obtain ⟨g',rfl,hc,q₂⟩ := q₁
  cases vg
  have hnames := kw_names (ks := ks) (pos := pos) (env := f.env p)
  rw [hns] at hnames
  have hall : (backToKw pos (keywordEach ks (f.env p))).all (·.1.isSome) = true := by
    rw [all_fst Option.isSome,hnames]; simp
  have hnone : (backToKw pos (keywordEach ks (f.env p))).any (·.1.isNone) = false := by
    rw [List.any_eq_false]
    intro x hx
    have := List.all_eq_true.mp hall x hx
    cases e : x.1 with
    | none => rw [e] at this; cases this
    | some _ => simp
  have hfm : (backToKw pos (keywordEach ks (f.env p))).filterMap (·.1) = ns := by
    rw [filterMap_fst,hnames,List.filterMap_map]
    show List.filterMap (fun x => some x) ns = ns
    exact List.filterMap_some
  refine callWith_of (P := KeepB c) (by rw [Zp hp,hnone]; rfl) (fun h' kp => hc.looks ok h' kp) ?_
  cases es with
  | nil => exact absurd rfl hes
  | cons e es =>
    rw [List.all_cons,Bool.and_eq_true] at hp
    rw [Qb hp.1]
    refine evalArgs_kw hall ?_
    have := Ua (pos := pos) (es := e :: es) (by rw [List.all_cons,hp.1,hp.2]; rfl) q₂ A p { s with heap := h₁,toks := t₁ } [] (fun vs s₁ => wpAny (model c.prog c.w) A (evalAll ((backToKw pos (keywordEach ks (f.env p))).map (·.2))) (fun kvs s₂ => KeepB c s₂.heap ∧ wpAny (model c.prog c.w) A (call g₁ ([] ++ vs) (((backToKw pos (keywordEach ks (f.env p))).filterMap (·.1)).zip kvs)) Q E s₂) E s₁) E ok rm H₁ .nil fun vs vs' σ₂ h₂ t₂ q₂ H₂ s₂ vv => ?_
    · replace this : wpAny _ _ (spliced (backTo pos (starEach (e :: es) (f.env p)))) _ _ _ := this
      rw [Qb hp.1] at this; exact this
    · rw [hfm]
      refine kw_run (pos := pos) q₂ A p { s with heap := h₂,toks := t₂ } [] _ E ok rm H₂ .nil fun kvs kvs' σ₃ h₃ t₃ q₃ H₃ s₃ vk => ?_
      refine ⟨H₃.good.keep,q₃ A _ g₁ ([] ++ vs') _ _ E ok rm H₃.good (.val g₁) (vv.mono (s₃.tk H₂)) (KRs.zip ns vk) fun v x σ' h' tk q g'' st vr => ?_⟩
      exact k v x σ' h' tk q (H₃.call st g'') (((s₁.trans H₁ s₂).trans H₂ s₃).trans H₃ (.ofC st)) vr

/-! ## the call of a def -/
noncomputable def bindA : List (Str × AV) → Locs → Locs
  | [],ℓ => ℓ
  | (n,v) :: r,ℓ => bindA r (ℓ.set n v)
theorem bindL_of {h : Heap} {kind : Str → Option NameKind} : ∀ {ab : List (Str × AV)} {bs : List (Str × Value)} {ℓ : Locs} {m : Str → Option Value},KRs h ab bs →
    (∀ y v,ℓ y = some v → kind y = some .local → ∃ v',m y = some v' ∧ VR h v v') → ∀ y v,bindA ab ℓ y = some v → kind y = some .local → ∃ v',bindL kind bs m y = some v' ∧ VR h v v'
  | _,_,_,_,.nil,q => q
  | _,_,ℓ,m,.cons (k := n) (v := v) (x := x) a r,q => by
    refine fun y' u' hy' hk' => bindL_of (ℓ := ℓ.set n v) r (fun y u hy hk => ?_) y' u' hy' hk'
    by_cases e : y = n
    · subst e
      rw [Locs.set_same] at hy; cases hy
      exact ⟨x,by rw [if_pos hk]; exact if_pos rfl,a⟩
    · rw [Locs.set_ne e] at hy
      obtain ⟨u',h1,h2⟩ := q y u hy hk
      refine ⟨u',?_,h2⟩
      split
      · exact (if_neg e).trans h1
      · exact h1
theorem bindC_of {h : Heap} {kind : Str → Option NameKind} : ∀ {ab : List (Str × AV)} {bs : List (Str × Value)} {ℓ : Locs} {m : Str → Option Value},KRs h ab bs →
    (∀ y v,ℓ y = some v → kind y = some .cell → ∃ v',m y = some v' ∧ VR h v v') → ∀ y v,bindA ab ℓ y = some v → kind y = some .cell → ∃ v',bindC kind bs m y = some v' ∧ VR h v v'
  | _,_,_,_,.nil,q => q
  | _,_,ℓ,m,.cons (k := n) (v := v) (x := x) a r,q => by
    refine fun y' u' hy' hk' => bindC_of (ℓ := ℓ.set n v) r (fun y u hy hk => ?_) y' u' hy' hk'
    by_cases e : y = n
    · subst e
      rw [Locs.set_same] at hy; cases hy
      exact ⟨x,by rw [if_neg (by rw [hk]; decide)]; exact if_pos rfl,a⟩
    · rw [Locs.set_ne e] at hy
      obtain ⟨u',h1,h2⟩ := q y u hy hk
      refine ⟨u',?_,h2⟩
      split
      · exact h1
      · exact (if_neg e).trans h1
theorem bindA_mem : ∀ {ab : List (Str × AV)} {ℓ : Locs} {y : Str} {v : AV},bindA ab ℓ y = some v → (∃ u,(y,u) ∈ ab) ∨ ℓ y = some v
  | [],_,_,_,e => .inr e
  | (n,u) :: r,ℓ,y,v,e => by
    rcases bindA_mem (ab := r) e with ⟨u',hm⟩ | e
    · exact .inl ⟨u',.tail _ hm⟩
    · by_cases q : y = n
      · subst q; exact .inl ⟨u,.head _⟩
      · rw [Locs.set_ne q] at e; exact .inr e

noncomputable def retv : AF → AV
  | .ret v => v
  | _ => .none
theorem FR.retv {h : Heap} {r : AF} {fl : Flow} : FR h r fl → VR h (retv r) (match fl with | .ret v => v | _ => .none) := by
  intro x
  cases x with
  | ret v => exact v
  | _ => exact .none

/-- how a def's parameters are bound -/
noncomputable def Binds (c : Cx) (fd : FuncData) (as : List AV) (kw : List (Str × AV)) (ab : List (Str × AV)) : Prop :=
  ∀ (s : Shared) (xs : List Value) (ks : List (Str × Value)),c.Ok → KeepB c s.heap → VRs s.heap as xs → KRs s.heap kw ks → ∃ bs,BindsTo s fd ⟨xs,ks⟩ bs ∧ KRs s.heap ab bs

/-- a def of the text's -/
structure IsDef (K : Frag) (fa : Addr) (name qual : Str) (params : Arguments) (body : List Stmt) (scope : Scope) (dV kV doc pm cdv ct oc : Value) (an od : Option Addr) (osl : Array (Option Value)) : Prop where
  at_ : K.lookup fa = some ⟨oc,od,.func (fnOf name qual params body scope dV kV doc pm an cdv ct),osl⟩
  code : codeIn K cdv qual = true
  kind : scope.kind = .function
  co : scope.isCoroutine = false
  gen : scope.isGenerator = false
  cells : ((cellsFrom 0 scope.names []).map (·.1)).Nodup

noncomputable def kindOk (scope : Scope) (ab : List (Str × AV)) : Bool := ab.all fun y => scope.names.lookup y.1 == some .local || scope.names.lookup y.1 == some .cell

theorem def_enter {fa : Addr} {name qual : Str} {params : Arguments} {body : List Stmt} {scope : Scope} {dV kV doc pm cdv ct oc : Value} {an od : Option Addr} {osl : Array (Option Value)} {d : Nat} {hf : Bool} {as : List AV} {kw ab : List (Str × AV)} {A : Around} {s : Shared} {xs : List Value} {ks : List (Str × Value)} {R : Result → Shared → Prop}
    (D : IsDef c.K fa name qual params body scope dV kV doc pm cdv ct oc an od osl) (hb : Binds c (fnOf name qual params body scope dV kV doc pm an cdv ct) as kw ab) (hk : kindOk scope ab = true)
    (ok : c.Ok) (rm : Room c (d + 1) hf A) (G : Good c σ s.heap) (va : VRs s.heap as xs) (vk : KRs s.heap kw ks) (F : Fn) (hF : F = ⟨qual ++ ".<locals>.",scope,some fa,cdv,d,hf⟩)
    (k : ∀ p h₁ tk,Here (c.on (F.env p :: c.stk)) F (bindA ab fun _ => none) σ p h₁ → KeepBH s.heap h₁ → (∀ a,Own F p a → s.heap.objs.size ≤ a) → Room (c.on (F.env p :: c.stk)) d hf (A.deeper (F.env p)) → (∃ L,(F.env p).frame = some L ∧ s.heap.get? L = none) →
      wpAny (model c.prog c.w) (A.deeper (F.env p)) (execs body (F.env p)) (fun f s' => R (.ok (.ret (match f with | .ret v => v | _ => .none))) s')
        (fun e s' => wpAny (model c.prog c.w) (A.deeper (F.env p)) (leaving (F.env p) e) (fun _ s'' => R (.error e) s'') (fun e' s'' => R (.error e') s'') s') { s with heap := h₁,toks := tk }) :
    codeAny (model c.prog c.w) A (.call (.ref fa) ⟨xs,ks⟩) R s := by
  obtain ⟨bs,hbind,hrel⟩ := hb s xs ks ok G.keep va vk
  have X := ok.X.keeps G.keep
  have hkb : (bs.all fun y => scope.names.lookup y.1 == some .local || scope.names.lookup y.1 == some .cell) = true := by
    have e := hrel.names
    unfold kindOk at hk
    have : (bs.all fun y => scope.names.lookup y.1 == some .local || scope.names.lookup y.1 == some .cell) = (bs.map (·.1)).all fun y => scope.names.lookup y == some .local || scope.names.lookup y == some .cell := by rw [List.all_map]; rfl
    rw [this,← e,List.all_map]; exact hk
  have hroom : A.depth < recursionLimit := by have := rm.depth; show A.depth < 1000; omega
  refine codeAny_call_function hroom (X _ _ D.at_) rfl D.co D.gen rfl (codeRec_of X D.code) (hbind _ _ _ _ ?_)
  refine wpAny_newFunctionEnv_cells D.kind (fun x hx => (kindsX hkb) _ x hx) fun env' he s' x => ?_
  subst he
  refine ⟨(ok.lim.keeps G.keep).keeps x.toInCall.keep,codeAny_func ?_⟩
  obtain ⟨h₁,tk,rfl,_⟩ := x.done
  have keep := x.toInCall.keep
  have tk0 : TK s.heap h₁ := fun a xs e => keep a _ e
  let p : Pl := ⟨s.heap.objs.size,cellsFrom (s.heap.objs.size + 1) scope.names [],some s.heap.objs.size⟩
  have above : ∀ y a,p.cells.lookup y = some a → s.heap.objs.size < a := fun y a hy => x.above y a (mem_of_lookup hy)
  have offs : ∀ a,s.heap.objs.size ≤ a → σ a = none ∧ c.h₀.get? a = none := fun a ha => by
    refine ⟨?_,?_⟩
    · cases q : σ a with
      | none => rfl
      | some o => exact absurd (G.lt (a := a) (by rw [q]; simp)) (Nat.not_lt.mpr ha)
    · cases q : c.h₀.get? a with
      | none => rfl
      | some o => exact absurd (Heap.lt_size (G.keep _ _ q)) (Nat.not_lt.mpr ha)
  have off : ∀ a,a = p.L ∨ (∃ x,p.cells.lookup x = some a) → σ a = none ∧ c.h₀.get? a = none := by
    rintro a (rfl | ⟨y,hy⟩)
    · exact offs _ (Nat.le_refl _)
    · exact offs a (Nat.le_of_lt (above y a hy))
  subst hF
  have H : Here (c.on (Fn.env ⟨qual ++ ".<locals>.",scope,some fa,cdv,d,hf⟩ p :: c.stk)) ⟨qual ++ ".<locals>.",scope,some fa,cdv,d,hf⟩ (bindA ab fun _ => none) σ p h₁ := by
    refine ⟨⟨fun b o e => keep b o (G.keep b o e),fun a o e => let ⟨oc,q,r⟩ := G.obj a o e; ⟨oc,keep _ _ q,r.mono tk0⟩,G.new,G.stat,G.low,fun env he => ?_⟩,D.kind,⟨_,x.toInCall.ns,?_⟩,?_,fun y a hy => ⟨_,x.cell y a hy⟩,fun y z a hy hz => ?_,fun y hy => ?_,off,fun _ => ⟨c.stk,_,rfl,rfl⟩⟩
    · rcases List.mem_cons.mp he with rfl | he
      · exact ⟨by show scope.kind ≠ .module; rw [D.kind]; decide,_,_,rfl,x.toInCall.ns,(offs _ (Nat.le_refl _)).2,(offs _ (Nat.le_refl _)).1⟩
      · exact (G.fr env he).turn (fun L m _ ns _ _ => ⟨m,ns.at' (keep L)⟩) fun _ _ e => e
    · exact bindL_of (hrel.mono tk0) fun y v e => by cases e
    · intro y v hy hkk
      have hc : scope.names.lookup y = some .cell := by
        rcases hkk with hc | hc
        · exact hc
        · exfalso
          rcases bindA_mem hy with ⟨u,hm⟩ | e
          · have := List.all_eq_true.mp hk (y,u) hm
            have hc : scope.names.lookup y = some .free := hc
            rw [hc] at this
            simp at this
          · cases e
      obtain ⟨a,ha⟩ := Option.isSome_iff_exists.mp (cellsFrom_some scope.names (s.heap.objs.size + 1) [] (x := y) (.inl hc))
      obtain ⟨v',e,vr⟩ := bindC_of (hrel.mono tk0) (kind := fun y => scope.names.lookup y) (fun y v e => by cases e) y v hy hc
      exact ⟨a,v',ha,by have := x.cell y a ha; rw [show bindC (newEnv scope s.heap.objs.size mainGlobals (cellsFrom (s.heap.objs.size + 1) scope.names []) (qual ++ ".<locals>.") (some fa) cdv none builtinsNs).kindOf bs (fun _ => none) y = some v' from e] at this; exact this,vr⟩
    · exact name_of_addr x.apart (mem_of_lookup hy) (mem_of_lookup hz)
    · exact Option.isSome_iff_exists.mp (cellsFrom_some scope.names (s.heap.objs.size + 1) [] (x := y) (.inl hy))
  refine k p h₁ tk H keep ?_ ⟨Around.frames_deeper rm.frames,by have := rm.depth; show A.depth + 1 + 5 * d ≤ 900; omega,by have := rm.units; show A.units + 3 + 60 * d ≤ 9000; omega,rm.hand⟩ ⟨_,rfl,?_⟩
  · rintro a (rfl | ⟨y,_,hy⟩)
    · exact Nat.le_refl _
    · exact Nat.le_of_lt (above y a hy)
  · cases q : s.heap.get? s.heap.objs.size with
    | none => rfl
    | some o => exact absurd (Heap.lt_size q) (Nat.lt_irrefl _)

theorem J3 {fa : Addr} {name qual : Str} {params : Arguments} {body : List Stmt} {scope : Scope} {dV kV doc pm cdv ct oc : Value} {an od : Option Addr} {osl : Array (Option Value)} {d : Nat} {hf : Bool} {as : List AV} {kw ab : List (Str × AV)} {Φ : AV → Store → Prop}
    (D : IsDef c.K fa name qual params body scope dV kV doc pm cdv ct oc an od osl) (hb : Binds c (fnOf name qual params body scope dV kV doc pm an cdv ct) as kw ab) (hk : kindOk scope ab = true)
    (h : ∀ stk,Ss (c.on stk) ⟨qual ++ ".<locals>.",scope,some fa,cdv,d,hf⟩ (bindA ab fun _ => none) σ body fun r _ σ' => Φ (retv r) σ') : Ca c (d + 1) hf σ (.val (.ref fa)) as kw Φ := by
  intro A s g' xs ks R ok rm G vg va vk k
  cases vg
  refine def_enter D hb hk ok rm G va vk _ rfl fun p h₁ tk H keep above rm' _ => ?_
  refine h (Fn.env ⟨qual ++ ".<locals>.",scope,some fa,cdv,d,hf⟩ p :: c.stk) (A.deeper _) p { s with heap := h₁,toks := tk } _ _ ⟨ok.X,ok.g,ok.b,ok.lim,ok.bi⟩ rm' H fun r fl ℓ' σ' h' tk' q H' st fr => ?_
  have G' : Good c σ' h' := ⟨H'.good.keep,H'.good.obj,H'.good.new,H'.good.stat,H'.good.low,fun env he => H'.good.fr env (List.mem_cons_of_mem _ he)⟩
  refine k (retv r) _ σ' h' tk' q G' ⟨fun a o e hs _ => st.keep a o (keep a o e) hs fun ow => ?_,fun a e n => ?_,st.stay⟩ fr.retv
  · exact absurd (Heap.lt_size e) (Nat.not_lt.mpr (above a ow))
  · have := st.fresh a e n
    cases w : s.heap.get? a with
    | none => rfl
    | some o => rw [keep a o w] at this; cases this
end
end Mine

set_option autoImplicit false
set_option maxRecDepth 100000
namespace Mine
open PySem PySem.W PySem.Calls PyProof.Rows

/-! ## finite maps,as the dicts hold them -/
noncomputable abbrev Es := List (Str × AV)
noncomputable def Es.get (es : Es) (k : Str) : Option AV := (es.find? fun kv => decide (kv.1 = k)).map (·.2)
noncomputable def Es.has (es : Es) (k : Str) : Bool := es.any fun kv => decide (kv.1 = k)
noncomputable def Es.put (es : Es) (k : Str) (v : AV) : Es := if es.has k = true then es.map (fun kv => if kv.1 = k then (kv.1,v) else kv) else es ++ [(k,v)]
noncomputable def Es.del (es : Es) (k : Str) : Es := es.filter fun kv => decide (kv.1 ≠ k)

theorem Es.has_get (es : Es) (k : Str) : es.has k = (es.get k).isSome := by
  induction es with
  | nil => rfl
  | cons kv r ih =>
    unfold Es.has Es.get at *
    rw [List.any_cons,List.find?_cons]
    by_cases h : kv.1 = k
    · simp [h]
    · simp only [h,decide_false,Bool.false_or]; exact ih
theorem Es.get_put (es : Es) (k k' : Str) (v : AV) : (es.put k v).get k' = if k' = k then some v else es.get k' := by
  have key : ∀ r : Es,Es.get (r.map fun kv => if kv.1 = k then (kv.1,v) else kv) k' = if k' = k then (if Es.has r k = true then some v else none) else Es.get r k' := by
    intro r
    induction r with
    | nil => by_cases h : k' = k <;> simp [Es.get,Es.has,h]
    | cons kv r ih =>
      unfold Es.get Es.has at *
      rw [List.map_cons,List.find?_cons,List.any_cons,List.find?_cons]
      by_cases h1 : kv.1 = k
      · by_cases h2 : k' = k
        · subst h2; simp [h1]
        · have h4 : ¬ k = k' := fun e => h2 e.symm
          simp only [h1,if_true,h2,if_false,h4,decide_false] at ih ⊢
          exact ih
      · by_cases h2 : kv.1 = k'
        · have h3 : ¬ k' = k := fun e => h1 (h2.trans e)
          simp [h1,h2,h3]
        · simp only [h1,if_false,h2,decide_false,Bool.false_or] at ih ⊢
          exact ih
  unfold Es.put
  by_cases h : es.has k = true
  · rw [if_pos h,key]; simp [h]
  · rw [if_neg h]
    unfold Es.get
    rw [List.find?_append]
    by_cases h2 : k' = k
    · subst h2
      have hn : (es.find? fun kv => decide (kv.1 = k')) = none := by
        have := Es.has_get es k'
        rw [Bool.not_eq_true] at h
        rw [h] at this
        unfold Es.get at this
        cases q : es.find? fun kv => decide (kv.1 = k') with
        | none => rfl
        | some x => rw [q] at this; simp at this
      simp [hn]
    · have h3 : ¬ k = k' := fun e => h2 e.symm
      cases q : es.find? fun kv => decide (kv.1 = k') <;> simp [h2,h3]
theorem Es.get_put_same (es : Es) (k : Str) (v : AV) : (es.put k v).get k = some v := by rw [Es.get_put,if_pos rfl]
theorem Es.get_put_ne (es : Es) {k k' : Str} (v : AV) (h : k' ≠ k) : (es.put k v).get k' = es.get k' := by rw [Es.get_put,if_neg h]
theorem Es.get_del (es : Es) (k k' : Str) : (es.del k).get k' = if k' = k then none else es.get k' := by
  induction es with
  | nil => simp [Es.del,Es.get]
  | cons kv r ih =>
    unfold Es.del Es.get at *
    rw [List.filter_cons,List.find?_cons]
    by_cases h1 : kv.1 = k
    · simp only [h1,ne_eq,not_true_eq_false,decide_false,Bool.false_eq_true,if_false]
      rw [ih]
      by_cases h2 : k' = k
      · simp [h2]
      · have h3 : ¬ k = k' := fun e => h2 e.symm
        simp [h2,h3]
    · simp only [h1,ne_eq,not_false_eq_true,decide_true,if_true,List.find?_cons]
      by_cases h2 : kv.1 = k'
      · have h3 : ¬ k' = k := fun e => h1 (h2.trans e)
        simp [h2,h3]
      · simp only [h2,decide_false]; exact ih
section
variable {h : Heap} {es : Es} {kvs : List (Str × Value)}
theorem KRs.any (r : KRs h es kvs) (k : Str) : es.has k = kvs.any fun kv => decide (kv.1 = k) := by
  induction r with
  | nil => rfl
  | @cons k' _ _ vs xs _ _ ih =>
    show (decide (k' = k) || Es.has vs k) = (decide (k' = k) || xs.any fun kv => decide (kv.1 = k))
    rw [ih]
theorem KRs.get (r : KRs h es kvs) {k : Str} {v : AV} (e : es.get k = some v) : ∃ x,valueAt kvs k = some x ∧ VR h v x := by
  induction r with
  | nil => cases e
  | @cons k' v' x' vs xs a _ ih =>
    unfold Es.get at e ih
    unfold valueAt at ih ⊢
    rw [List.find?_cons] at e ⊢
    by_cases q : k' = k
    · simp only [q,decide_true,Option.map_some,Option.some.injEq] at e ⊢
      subst e; exact ⟨x',rfl,a⟩
    · simp only [q,decide_false] at e ⊢
      exact ih e
theorem KRs.get_none (r : KRs h es kvs) {k : Str} (e : es.get k = none) : valueAt kvs k = none := by
  induction r with
  | nil => rfl
  | @cons k' v' x' vs xs a _ ih =>
    unfold Es.get at e ih
    unfold valueAt at ih ⊢
    rw [List.find?_cons] at e ⊢
    by_cases q : k' = k
    · simp [q] at e
    · simp only [q,decide_false] at e ⊢
      exact ih e
theorem KRs.append {es' : Es} {kvs' : List (Str × Value)} (r : KRs h es kvs) (r' : KRs h es' kvs') : KRs h (es ++ es') (kvs ++ kvs') := by
  induction r with
  | nil => exact r'
  | cons a _ ih => exact .cons a ih
theorem KRs.map_put (r : KRs h es kvs) (k : Str) {v : AV} {x : Value} (a : VR h v x) : KRs h (es.map fun kv => if kv.1 = k then (kv.1,v) else kv) (kvs.map fun kv => if kv.1 = k then (kv.1,x) else kv) := by
  induction r with
  | nil => exact .nil
  | @cons k' v' x' vs xs b _ ih =>
    rw [List.map_cons,List.map_cons]
    by_cases q : k' = k
    · simp only [q,if_true]; exact .cons a ih
    · simp only [q,if_false]; exact .cons b ih
theorem KRs.put (r : KRs h es kvs) (k : Str) {v : AV} {x : Value} (a : VR h v x) : KRs h (es.put k v) (stored kvs k x) := by
  unfold Es.put stored
  rw [r.any k]
  split
  · exact r.map_put k a
  · exact r.append (.cons a .nil)
theorem KRs.del (r : KRs h es kvs) (k : Str) : KRs h (es.del k) (without kvs k) := by
  induction r with
  | nil => exact .nil
  | @cons k' v' x' vs xs b _ ih =>
    unfold Es.del without at *
    rw [List.filter_cons,List.filter_cons]
    by_cases q : k' = k
    · simp only [q,ne_eq,not_true_eq_false,decide_false,Bool.false_eq_true,if_false]; exact ih
    · simp only [q,ne_eq,not_false_eq_true,decide_true,if_true]; exact .cons b ih
end

section
variable {prog : Program} {w : World} {o : Obj} {kvs : List (Str × Value)} {name : Str}
theorem isStrOf_isStr (name : Str) (v : Value) : Value.isStrOf name v = v.isStr name := by cases v <;> rfl
theorem lookIn_of (i : o.IsDictOf (strKind prog w) kvs) : lookIn name o = some (valueAt kvs name) := by
  obtain ⟨es,ep,hx,hd,hk,hp,hn⟩ := i
  unfold lookIn
  rw [hd]
  dsimp only
  have := hp.find name
  have e : (fun e : DictEntry => (strKind prog w).is name e.key) = fun e => e.key.isStr name := by funext e; exact isStrOf_isStr name e.key
  rw [e] at this
  cases q : es.toList.find? (fun e => e.key.isStr name) with
  | some en => rw [q] at this; simp only [Option.map_some] at this; rw [← this]
  | none =>
    rw [q] at this
    simp only [Option.map_none] at this
    rw [← this,if_neg]
    rw [Bool.not_eq_true,List.any_eq_false]
    intro e he
    obtain ⟨k,hk',_⟩ := hk e (Array.mem_toList_iff.mp he)
    obtain ⟨t,ht⟩ := Value.isStrOf_shape hk'
    simp [DictEntry.refKey,ht]
theorem putName_is (i : o.IsDictOf (strKind prog w) kvs) (t : Tok) (v : Value) : (Obj.putName name (hashStr w name) (.str name t) v o).IsDictOf (strKind prog w) (stored kvs name v) := by
  obtain ⟨es,ep,hc,hd,hk,hp,hn⟩ := i
  obtain ⟨oc,od,odt,osl⟩ := o
  dsimp only at hd
  subst hd
  rw [Obj.putName_eq]
  unfold Obj.putNameByArray
  dsimp only
  have e : (fun e : DictEntry => e.key.isStr name) = fun e => (strKind prog w).is name e.key := by funext e; exact (isStrOf_isStr name e.key).symm
  rw [e]
  have hkey : (strKind prog w).is name (.str name t) = true := strKind_is prog w name t
  have hidx : (es.findIdx? fun e => (strKind prog w).is name e.key) = kvs.findIdx? fun kv => decide (kv.1 = name) := by
    rw [← hp.findIdx name]; obtain ⟨l⟩ := es; simp
  cases hi : es.findIdx? fun e => (strKind prog w).is name e.key with
  | some i =>
    refine ⟨_,_,hc,rfl,hk.modify _ _,?_,?_⟩
    · rw [stored,if_pos (any_of_findIdx_some (hidx ▸ hi))]
      have hl : (es.toList.findIdx? fun e => (strKind prog w).is name e.key) = some i := by rw [← hi]; obtain ⟨l⟩ := es; simp
      have := hp.modify hn hl v
      obtain ⟨l⟩ := es
      simpa using this
    · rw [stored,if_pos (any_of_findIdx_some (hidx ▸ hi)),keys_map_store]; exact hn
  | none =>
    have hnot : name ∉ kvs.map (·.1) := not_mem_of_findIdx_none (hidx ▸ hi)
    have hany : ¬ (kvs.any fun kv => decide (kv.1 = name)) = true := by
      rw [List.any_eq_true]; rintro ⟨kv,hkv,he⟩
      exact hnot (List.mem_map.mpr ⟨kv,hkv,of_decide_eq_true he⟩)
    refine ⟨_,_,hc,rfl,hk.push hkey _,?_,?_⟩
    · rw [stored,if_neg hany]
      have := hp.append hkey (hashStr w name) v
      obtain ⟨l⟩ := es
      simpa using this
    · rw [stored,if_neg hany,List.map_append,List.nodup_append]
      refine ⟨hn,by simp,?_⟩
      intro a ha b hb
      simp only [List.map_cons,List.map_nil,List.mem_singleton] at hb
      subst hb
      exact fun e => hnot (e ▸ ha)
end

section
variable {c : Cx} {f : Fn} {ℓ : Locs} {σ : Store}

/-! ## instances -/
theorem inst_at {h : Heap} (g : Good c σ h) {x C dx : Addr} {es : Es} (hx : σ x = some (.inst C dx)) (hd : σ dx = some (.dict es)) :
    ∃ od kvs,InstAt h x (instObj C dx) C (some od) ∧ h.get? dx = some od ∧ od.IsDictOf (strKind c.prog c.w) kvs ∧ KRs h es kvs := by
  obtain ⟨ox,e1,r1⟩ := g.obj x _ hx
  obtain ⟨od,e2,r2⟩ := g.obj dx _ hd
  cases r1
  cases r2 with
  | dict i r => exact ⟨od,_,⟨e1,rfl,rfl,e2⟩,e2,i,r⟩

noncomputable def handedA : AV → Bool
  | .val w => handedIn w
  | _ => true
theorem handed_of {h : Heap} {v : AV} {x : Value} (r : VR h v x) (e : handedA v = true) : handedIn x = true := by
  cases r <;> first | rfl | exact e

/-- an attribute of the object's own -/
theorem op_attr {x C dx : Addr} {es : Es} {name : Str} {v : AV} {attr : Option Value} {Φ : AV → Store → Prop} (hx : σ x = some (.inst C dx)) (hd : σ dx = some (.dict es)) (hv : es.get name = some v)
    (hg : plainGet c.K C name = true) (hh : hasDictIn c.K C = true) (ha : findIn c.K (.ref C) name = some attr) (hn : noGet c.K attr = true) (hi : handedA v = true) (q : Φ v σ) :
    Op c f ℓ σ [.ref x] (ap1 fun o => getAttr o name true) Φ := by
  intro A p s xs Q E ok rm H va k
  cases va with
  | cons vo r =>
    cases r; cases vo
    obtain ⟨od,kvs,I,e,i,r⟩ := inst_at H.good hx hd
    obtain ⟨v',ev,vr⟩ := r.get hv
    have X := ok.X.keeps H.good.keep
    have hl : lookIn name od = some (some v') := by rw [lookIn_of i,ev]
    have fo : findObj c.K C (some od) name = some (.value v') := by
      obtain ⟨cd,hc,hdd⟩ := any_some hh
      unfold findObj
      rw [hc,Option.bind_some,ha,Option.bind_some]
      have ow : PySem.W.ownOf cd (some od) name = some (some v') := by unfold PySem.W.ownOf; rw [if_pos hdd]; exact hl
      cases attr with
      | none => simp [ow]
      | some a =>
        have hn' : specialIn c.K a "__get__" = some none := beq_iff_eq.mp hn
        simp [hn',ow]
    exact get_value X I (plainGet_of hg).1 fo (handed_of vr hi) (k v v' σ s.heap _ q H .refl vr)

/-- an attribute of the class's -/
theorem op_attr_cls {x C dx : Addr} {es : Es} {name : Str} {a : Value} {v : AV} {Φ : AV → Store → Prop} (hx : σ x = some (.inst C dx)) (hd : σ dx = some (.dict es)) (hv : es.get name = none)
    (hg : plainGet c.K C name = true) (hh : hasDictIn c.K C = true) (ha : findIn c.K (.ref C) name = some (some a)) (hn : specialIn c.K a "__get__" = some none) (hi : handedIn a = true) (hc : copiedNames.contains name = false)
    (vr : ∀ h,VR h v a) (q : Φ v σ) : Op c f ℓ σ [.ref x] (ap1 fun o => getAttr o name true) Φ := by
  intro A p s xs Q E ok rm H va k
  cases va with
  | cons vo r =>
    cases r; cases vo
    obtain ⟨od,kvs,I,e,i,r⟩ := inst_at H.good hx hd
    have ev := r.get_none hv
    have X := ok.X.keeps H.good.keep
    have hl : lookIn name od = some none := by rw [lookIn_of i,ev]
    have fo : findObj c.K C (some od) name = some (.value a) := by
      obtain ⟨cd,hcd,hdd⟩ := any_some hh
      unfold findObj
      rw [hcd,Option.bind_some,ha,Option.bind_some]
      have ow : PySem.W.ownOf cd (some od) name = some none := by unfold PySem.W.ownOf; rw [if_pos hdd]; exact hl
      simp only [hn,Option.bind_some,ow,hc,Bool.false_and,Bool.false_eq_true,if_false,hi,if_true]
    exact get_value X I (plainGet_of hg).1 fo hi (k v a σ s.heap _ q H .refl (vr _))

/-- a method of the object's class -/
theorem meth_inst {x C dx fm : Addr} {es : Es} {name : Str} (hx : σ x = some (.inst C dx)) (hd : σ dx = some (.dict es)) (hv : es.get name = none)
    (hg : plainGet c.K C name = true) (hf : findIn c.K (.ref C) name = some (some (.ref fm))) (ht : isFn c.K (.ref fm) = true) : MethOf c σ (.ref x) name (.ref fm) := by
  intro A s xv pl Q E ok G vo q
  cases vo
  obtain ⟨od,kvs,I,e,i,r⟩ := inst_at G hx hd
  exact method_fn (ok.X.keeps G.keep) I (plainGet_of hg).1 (plainGet_of hg).2 hf (beq_iff_eq.mp ht) (by show (lookIn name od).map _ = _; rw [lookIn_of i,r.get_none hv]; rfl) q

/-- an attribute is stored -/
theorem opu_setattr {x C dx : Addr} {es : Es} {name : Str} {v : AV} {Φ : Store → Prop} (hx : σ x = some (.inst C dx)) (hd : σ dx = some (.dict es))
    (hs : findIn c.K (.ref C) "__setattr__" = some (some (.builtin "object.__setattr__"))) (hp : plainOver c.K C = true) (ht : takerIn c.K C name = some none) (hh : hasDictIn c.K C = true) (hz : es.length ≤ 1000)
    (q : Φ (σ.set dx (.dict (es.put name v)))) : OpU c f ℓ σ [.ref x,v] (ap2 fun o v => setAttr o name v) Φ := by
  intro A p s xs Q E ok rm H va k
  cases va with
  | cons vo r =>
    cases r with
    | cons vv r =>
      cases r; cases vo
      rename_i xv
      obtain ⟨od,kvs,I,D,i,r⟩ := inst_at H.good hx hd
      have X := ok.X.keeps H.good.keep
      refine set_plain X I hs ?_
      refine osa_open X I hp ht fun b => ?_
      obtain ⟨cd,hc,hd'⟩ := any_some hh
      obtain ⟨hxx,-,-,-⟩ := I
      have i' := putName_is (name := name) i (s.toks + 1) xv
      have nf : (Obj.putName name (hashStr c.w name) (.str name (s.toks + 1)) xv od).isFreed = false := by obtain ⟨es,ep,_,hd,_⟩ := i'; exact Obj.isFreed_of_dict hd
      have hs' : Heap.SameBut dx s.heap (s.heap.update dx (Obj.putName name (hashStr c.w name) (.str name (s.toks + 1)) xv)) := .update ..
      have D' : (s.heap.update dx (Obj.putName name (hashStr c.w name) (.str name (s.toks + 1)) xv)).get? dx = some (Obj.putName name (hashStr c.w name) (.str name (s.toks + 1)) xv od) := Heap.get?_update_self _ D nf
      have tk := TK.upd H.good hd hs'
      have H' : Here c f ℓ (σ.set dx (.dict (es.put name v))) p (s.heap.update dx (Obj.putName name (hashStr c.w name) (.str name (s.toks + 1)) xv)) :=
        H.upd hd hs' D' (.dict i' ((r.mono tk).put name (vv.mono tk)))
      refine wpAny_bind (wpAny_pure (wpAny_bind (wpAny_bind (wpAny_loadPart (o := instObj C dx) hxx ?_))))
      show wpAny _ _ (classData C >>= _) _ _ _
      refine wpAny_bind ((looks_clsIn X hc) _ _ _ _ (fun _ _ e => e) ?_)
      rw [hd']
      refine wpAny_pure (a := some dx) (wpAny_bind (wpAny_pure (wpAny_bind ?_)))
      unfold nsSet
      refine wpAny_bind (wpAny_bind (wpAny_askSetting (wpAny_pure (wpAny_bind (wpAny_mkText (wpAny_bind (wpAny_loadPart (by exact D) ?_)))))))
      obtain ⟨ds,ep,hcd,hdd,hk,hpp,hn⟩ := i
      rw [hdd]
      dsimp only
      have cc : aRefKeyMayBeTheName name ds = false := by
        rw [aRefKeyMayBeTheName_eq]
        unfold aRefKeyMayBeTheNameByArray
        have : ds.any (·.refKey) = false := by
          rw [Array.any_eq_false']
          intro e he
          obtain ⟨k,hk',_⟩ := hk e he
          obtain ⟨t,ht⟩ := Value.isStrOf_shape hk'
          simp [DictEntry.refKey,ht]
        rw [this,Bool.and_false]
      rw [cc]
      refine wpAny_updatePart D ?_
      obtain ⟨ds',ep',hcd',hdd',hk'',hpp',hn'⟩ := i'
      have hlen : ds'.size ≤ sizeLine + 1 := by
        have e1 := hpp'.length
        have e2 : ds'.toList.length = ds'.size := by simp
        have e3 : (stored kvs name xv).length ≤ kvs.length + 1 := by
          unfold stored; split <;> simp
        have e4 := r.length
        rw [sizeLine_eq]; omega
      refine wpAny_bind (wpAny_lookBehind D' (by rw [hdd']; exact pastItsLine_dict hlen) ?_)
      exact wpAny_pure (k () () _ _ _ q H' (.ofC (.upd hd hs')) trivial)
end
end Mine

set_option autoImplicit false
set_option maxRecDepth 100000
namespace Mine
open PySem PySem.W PySem.Calls PyProof.Rows

section
variable {c : Cx} {f : Fn} {ℓ : Locs} {σ σ' : Store} {h h' h₀ : Heap} {p : Pl}

/-! ## the heap grows,a hidden object turns -/
theorem Good.ext (g : Good c σ h) (k : ∀ b o,h.get? b = some o → h'.get? b = some o) : Good c σ h' :=
  ⟨fun b x e => k b x (g.keep b x e),fun a x e => let ⟨oc,p,r⟩ := g.obj a x e; ⟨oc,k _ _ p,r.mono fun _ _ e => k _ _ e⟩,g.new,g.stat,g.low,g.frExt k fun _ _ e => e⟩
theorem Step.ext {O : Addr → Prop} (k : ∀ b o,h.get? b = some o → h'.get? b = some o) : Step σ σ O h h' := ⟨fun a o e _ _ => .same (k a o e),fun _ a b => absurd a b,fun _ e => e⟩
theorem Here.ext (H : Here c f ℓ σ p h) (k : ∀ b o,h.get? b = some o → h'.get? b = some o) : Here c f ℓ σ p h' := H.call (.ext k) (H.good.ext k)
/-! ## classes -/
theorem Hz {C fI : Addr} {d : Nat} {hf : Bool} {as : List AV} {kw : List (Str × AV)} {Φ : AV → Store → Prop} (hm : makesIn c.K C = true) (hi : findIn c.K (.ref C) "__init__" = some (some (.ref fI))) (hfn : isFn c.K (.ref fI) = true)
    (q : ∀ x dx,σ dx = none → σ x = none → dx ≠ x → Ca c d hf ((σ.set dx (.dict [])).set x (.inst C dx)) (.val (.ref fI)) (.ref x :: as) kw fun v σ' => v = .none ∧ Φ (.ref x) σ') :
    Ca c (d + 1) hf σ (.val (.ref C)) as kw Φ := by
  intro A s g' xs ks R ok rm G vg va vk k
  cases vg
  have X := ok.X.keeps G.keep
  obtain ⟨hh,g,dr,t,os⟩ := s
  dsimp only at G va vk X k
  refine make_core (makes_of X hm) (looks_findIn X hi) (fun self => bind_fn X self (beq_iff_eq.mp hfn)) (.inl rfl) ?_
  have G₁ : Good c (σ.set hh.objs.size (.dict [])) (hh.push emptyDict) := G.alloc (.dict (kvs := []) ⟨#[],0,⟨rfl,rfl,rfl⟩,rfl,fun _ he => by simp at he,Pairs.nil,List.nodup_nil⟩ .nil)
  have sz : (hh.push emptyDict).objs.size = hh.objs.size + 1 := Heap.size_push _ _
  have G₂ : Good c ((σ.set hh.objs.size (.dict [])).set (hh.objs.size + 1) (.inst C hh.objs.size)) ((hh.push emptyDict).push (instObj C hh.objs.size)) := by
    have := G₁.alloc (o := .inst C hh.objs.size) (oc := instObj C hh.objs.size) .inst
    rwa [sz] at this
  have S₁ : StepC σ (σ.set hh.objs.size (.dict [])) hh (hh.push emptyDict) := .alloc
  have S₂ : StepC (σ.set hh.objs.size (.dict [])) ((σ.set hh.objs.size (.dict [])).set (hh.objs.size + 1) (.inst C hh.objs.size)) (hh.push emptyDict) ((hh.push emptyDict).push (instObj C hh.objs.size)) := by
    have := Step.alloc (σ := σ.set hh.objs.size (.dict [])) (h := hh.push emptyDict) (o := .inst C hh.objs.size) (oc := instObj C hh.objs.size)
    rwa [sz] at this
  have S := S₁.transC S₂
  have tk := S.tkC G
  have n1 : σ (hh.objs.size + 1) = none := by
    cases q : σ (hh.objs.size + 1) with
    | none => rfl
    | some o => exact absurd (G.lt (a := hh.objs.size + 1) (by rw [q]; simp)) (Nat.not_lt.mpr (Nat.le_succ _))
  refine q (hh.objs.size + 1) hh.objs.size G.size_off n1 (Nat.ne_of_lt (Nat.lt_succ_self _)) _ ⟨_,g,dr,t,os⟩ (.ref fI) (.ref (hh.objs.size + 1) :: xs) ks _ ok ?_ G₂ (.val _) (.cons (.ref _) (va.mono tk)) (vk.mono tk) fun v x σ' h' tk' qq G' S' vv => ?_
  · refine ⟨rm.frames,?_,?_,rm.hand⟩
    · have := rm.depth
      show A.depth + 1 + 5 * d ≤ 900
      omega
    · have := rm.units
      have e : (A.under (Code.builtin "type.__call__" ⟨.ref C :: xs,ks⟩)).units = A.units + (Code.builtin "type.__call__" ⟨.ref C :: xs,ks⟩).cUnits := rfl
      have e2 : (Code.builtin "type.__call__" ⟨.ref C :: xs,ks⟩).cUnits ≤ 50 := by
        have e3 : (Code.builtin "type.__call__" ⟨.ref C :: xs,ks⟩).frames = 0 := rfl
        show 1 + 3 * (Code.builtin "type.__call__" ⟨.ref C :: xs,ks⟩).frames ≤ 50
        rw [e3]; decide
      rw [e]; omega
  · obtain ⟨rfl,qq⟩ := qq
    cases vv
    exact And.intro rfl (k _ _ σ' h' tk' qq G' (S.transC S') (.ref _))

/-! ## statements -/
noncomputable def SeqK (c : Cx) (f : Fn) (rest : List Stmt) (Φ : AF → Locs → Store → Prop) : AF → Locs → Store → Prop
  | .next,ℓ,σ => Ss c f ℓ σ rest Φ
  | .brk,ℓ,σ => Φ .brk ℓ σ
  | .cont,ℓ,σ => Φ .cont ℓ σ
  | .ret v,ℓ,σ => Φ (.ret v) ℓ σ
theorem Jc {Φ : AF → Locs → Store → Prop} (q : Φ .next ℓ σ) : Ss c f ℓ σ [] Φ := by
  intro A p s Q E ok rm H k
  exact wpAny_execs_nil (k .next .next ℓ σ s.heap s.toks q H .refl .next)
theorem Jb {st : Stmt} {rest : List Stmt} {Φ : AF → Locs → Store → Prop} (q : St c f ℓ σ st (SeqK c f rest Φ)) : Ss c f ℓ σ (st :: rest) Φ := by
  intro A p s Q E ok rm H k
  refine wpAny_execs_cons (q A p s _ E ok rm H fun r fl ℓ₁ σ₁ h₁ t₁ q₁ H₁ s₁ fr => ?_)
  cases fr with
  | next => exact q₁ A p _ Q E ok rm H₁ fun r fl ℓ₂ σ₂ h₂ t₂ q₂ H₂ s₂ fr => k r fl ℓ₂ σ₂ h₂ t₂ q₂ H₂ (s₁.trans H₁ s₂) fr
  | brk => exact k .brk .brk ℓ₁ σ₁ h₁ t₁ q₁ H₁ s₁ .brk
  | cont => exact k .cont .cont ℓ₁ σ₁ h₁ t₁ q₁ H₁ s₁ .cont
  | ret v => exact k (.ret _) (.ret _) ℓ₁ σ₁ h₁ t₁ q₁ H₁ s₁ (.ret v)
theorem Jj {t : Expr} {a b : List Stmt} {pos : Pos} {Φ : AF → Locs → Store → Prop} (q : Te c f ℓ σ t fun z σ₁ => if z = true then Ss c f ℓ σ₁ a Φ else Ss c f ℓ σ₁ b Φ) : St c f ℓ σ (.If t a b pos) Φ := by
  intro A p s Q E ok rm H k
  refine wpAny_If (q A p s [] _ E ok rm H .nil fun z z' σ₁ h₁ t₁ q₁ H₁ s₁ vz => ?_)
  subst vz
  cases z <;> exact q₁ A p _ Q E ok rm H₁ fun r fl ℓ₂ σ₂ h₂ t₂ q₂ H₂ s₂ fr => k r fl ℓ₂ σ₂ h₂ t₂ q₂ H₂ (s₁.trans H₁ s₂) fr
theorem Jm {e : Expr} {pos : Pos} {Φ : AF → Locs → Store → Prop} (q : Ev c f ℓ σ e fun v σ₁ => Φ (.ret v) ℓ σ₁) : St c f ℓ σ (.Return (some e) pos) Φ := by
  intro A p s Q E ok rm H k
  exact wpAny_Return_some (q A p s [] _ E ok rm H .nil fun v v' σ₁ h₁ t₁ q₁ H₁ s₁ vv => k (.ret v) (.ret v') ℓ σ₁ h₁ t₁ q₁ H₁ s₁ (.ret vv))
theorem st_return_none {pos : Pos} {Φ : AF → Locs → Store → Prop} (q : Φ (.ret .none) ℓ σ) : St c f ℓ σ (.Return none pos) Φ := by
  intro A p s Q E ok rm H k
  exact wpAny_Return_none (k (.ret .none) (.ret .none) ℓ σ s.heap s.toks q H .refl (.ret .none))
theorem st_continue {pos : Pos} {Φ : AF → Locs → Store → Prop} (q : Φ .cont ℓ σ) : St c f ℓ σ (.Continue pos) Φ := by
  intro A p s Q E ok rm H k
  exact wpAny_Continue (k .cont .cont ℓ σ s.heap s.toks q H .refl .cont)
theorem J0 {e : Expr} {pos : Pos} {Φ : AF → Locs → Store → Prop} (q : Ev c f ℓ σ e fun _ σ₁ => Φ .next ℓ σ₁) (hs : ∀ env,swapsWith e none pos.line env = pure false := by intro _; rfl) : St c f ℓ σ (.Expr e pos) Φ := by
  intro A p s Q E ok rm H k
  refine wpAny_Expr_any (q A p s [] _ E ok rm H .nil fun v v' σ₁ h₁ t₁ q₁ H₁ s₁ vv => k .next .next ℓ σ₁ h₁ t₁ q₁ H₁ s₁ .next) ?_ (hs _)
  unfold interactive
  show (f.scope.kind == .module && _) = false
  rw [H.isFn]; rfl

/-! ## targets -/
theorem Je {x : Str} {pos : Pos} {v : AV} {Φ : Locs → Store → Prop} (hk : f.kind x = some .local) (q : Φ (ℓ.set x v) σ) : As c f ℓ σ (.Name x pos) v Φ := by
  intro A p s xv Q E ok rm H vv k
  obtain ⟨m,n,r⟩ := H.ns
  refine wpAny_assign_Name (wpAny_storeName_local (env := f.env p) hk n (fun h' hn hs => ?_) ?_)
  · obtain ⟨H',st⟩ := H.stored hk hn hs r vv
    exact k _ σ h' _ q H' st
  · show (f.scope.kind == .class || (f.scope.kind == .module && _)) = false
    rw [H.isFn]; rfl
theorem Hw {x : Str} {pos : Pos} {v : AV} {Φ : Locs → Store → Prop} (hfn : f.func.isSome = true) (hk : f.kind x = some .cell) (q : Φ (ℓ.set x v) σ) : As c f ℓ σ (.Name x pos) v Φ := by
  intro A p s xv Q E ok rm H vv k
  obtain ⟨a,ha⟩ := H.has x hk
  obtain ⟨v0,ic⟩ := H.cells x a ha
  refine wpAny_assign_Name (wpAny_storeName_cell (env := f.env p) H.isFn hk ha ic fun h' hc hs => ?_)
  obtain ⟨H',st⟩ := H.storedC hfn hk ha hc hs vv
  exact k _ σ h' _ q H' st
theorem Jw {o : Expr} {attr : Str} {pos : Pos} {v : AV} {Φ : Locs → Store → Prop} (q : Ev c f ℓ σ o fun ov σ₁ => OpU c f ℓ σ₁ [ov,v] (ap2 fun o v => setAttr o attr v) fun σ₂ => Φ ℓ σ₂) : As c f ℓ σ (.Attribute o attr pos) v Φ := by
  intro A p s xv Q E ok rm H vv k
  rw [assign_Attribute]
  refine wpAny_bind (wpAny_holding (q A p s [] _ E ok rm H .nil fun ov ov' σ₁ h₁ t₁ q₁ H₁ s₁ vo => wpAny_bind (wpAny_standAt (wpAny_bind (wpAny_holding ?_)))))
  exact q₁ A p _ [ov',xv] _ E ok rm H₁ (.cons vo (.one (vv.mono (s₁.tk H)))) fun _ _ σ₂ h₂ t₂ q₂ H₂ s₂ _ => wpAny_release (k ℓ σ₂ h₂ t₂ q₂ H₂ (s₁.trans H₁ s₂))
theorem Qt {o i : Expr} {pos : Pos} {v : AV} {Φ : Locs → Store → Prop} (q : Ev c f ℓ σ o fun ov σ₁ => Ev c f ℓ σ₁ i fun iv σ₂ => OpU c f ℓ σ₂ [ov,iv,v] (ap3 setItem) fun σ₃ => Φ ℓ σ₃) : As c f ℓ σ (.Subscript o i pos) v Φ := by
  intro A p s xv Q E ok rm H vv k
  rw [assign_Subscript]
  refine wpAny_bind (wpAny_holding (q A p s [] _ E ok rm H .nil fun ov ov' σ₁ h₁ t₁ q₁ H₁ s₁ vo => ?_))
  refine wpAny_bind (wpAny_holding (q₁ A p _ [] _ E ok rm H₁ .nil fun iv iv' σ₂ h₂ t₂ q₂ H₂ s₂ vi => wpAny_bind (wpAny_standAt (wpAny_bind (wpAny_holding ?_)))))
  exact q₂ A p _ [ov',iv',xv] _ E ok rm H₂ (.cons (vo.mono (s₂.tk H₁)) (.cons vi (.one ((vv.mono (s₁.tk H)).mono (s₂.tk H₁))))) fun _ _ σ₃ h₃ t₃ q₃ H₃ s₃ _ => wpAny_release (k ℓ σ₃ h₃ t₃ q₃ H₃ ((s₁.trans H₁ s₂).trans H₂ s₃))
/-- targets,in order -/
noncomputable def AsL (c : Cx) (f : Fn) : List Expr → List AV → Locs → Store → (Locs → Store → Prop) → Prop
  | [],[],ℓ,σ,Φ => Φ ℓ σ
  | t :: ts,v :: vs,ℓ,σ,Φ => As c f ℓ σ t v fun ℓ₁ σ₁ => AsL c f ts vs ℓ₁ σ₁ Φ
  | _,_,_,_,_ => False
theorem Yj {e : Expr} {es : List Expr} {env : Env} (h : plainE e = true) : assignEach (e :: es) env = (false,assign e env) :: assignEach es env := by
  cases e <;> first | rfl | cases h
theorem assignEach_star {es : List Expr} {env : Env} (hp : es.all plainE = true) : (assignEach es env).findIdx? (·.1) = none := by
  induction es with
  | nil => rfl
  | cons e es ih =>
    rw [List.all_cons,Bool.and_eq_true] at hp
    rw [Yj hp.1,List.findIdx?_cons]
    simp [ih hp.2]
theorem assignEach_len {es : List Expr} {env : Env} (hp : es.all plainE = true) : (assignEach es env).length = es.length := by
  induction es with
  | nil => rfl
  | cons e es ih =>
    rw [List.all_cons,Bool.and_eq_true] at hp
    rw [Yj hp.1,List.length_cons,List.length_cons,ih hp.2]
theorem AsL.len : ∀ {ts : List Expr} {vs : List AV} {ℓ : Locs} {σ : Store} {Φ : Locs → Store → Prop} {A : Around} {p : Pl} {s : Shared} {xs : List Value} {Q : Unit → Shared → Prop} {E : Value → Shared → Prop},c.Ok → Room c f.d f.hf A → Here c f ℓ σ p s.heap → VRs s.heap vs xs →
    (ts.all plainE = true) → AsL c f ts vs ℓ σ Φ → (∀ ℓ' σ' h' tk,Φ ℓ' σ' → Here c f ℓ' σ' p h' → Step σ σ' (Own f p) s.heap h' → Q () { s with heap := h',toks := tk }) →
    wpAny (model c.prog c.w) A (assignInOrder ((assignEach ts (f.env p)).map (·.2)) xs) Q E s
  | [],[],ℓ,σ,Φ,A,p,s,xs,Q,E,ok,rm,H,va,hp,q,k => by
    cases va
    exact wpAny_pure (k ℓ σ s.heap s.toks q H .refl)
  | t :: ts,v :: vs,ℓ,σ,Φ,A,p,s,xs,Q,E,ok,rm,H,va,hp,q,k => by
    cases va with
    | cons vv va =>
      rename_i x xs
      rw [List.all_cons,Bool.and_eq_true] at hp
      rw [Yj hp.1]
      show wpAny _ _ (holding xs (assign t (f.env p) x) >>= fun _ => assignInOrder ((assignEach ts (f.env p)).map (·.2)) xs) _ _ _
      have q : As c f ℓ σ t v fun ℓ₁ σ₁ => AsL c f ts vs ℓ₁ σ₁ Φ := q
      refine wpAny_bind (wpAny_holding (q A p s x _ E ok rm H vv fun ℓ₁ σ₁ h₁ t₁ q₁ H₁ s₁ => ?_))
      exact AsL.len (s := { s with heap := h₁,toks := t₁ }) ok rm H₁ (va.mono (s₁.tk H)) hp.2 q₁ fun ℓ₂ σ₂ h₂ t₂ q₂ H₂ s₂ => k ℓ₂ σ₂ h₂ t₂ q₂ H₂ (s₁.trans H₁ s₂)
  | [],_ :: _,_,_,_,_,_,_,_,_,_,_,_,_,_,_,q,_ => q.elim
  | _ :: _,[],_,_,_,_,_,_,_,_,_,_,_,_,_,_,q,_ => q.elim
theorem Qk {ts : List Expr} {n : Nat} {pos : Pos} {vs : List AV} {Φ : Locs → Store → Prop} (hf : f.hf = true) (hl : ts.length = vs.length) (q : AsL c f ts vs ℓ σ Φ) (hp : ts.all plainE = true := by rfl) : As c f ℓ σ (.Tuple ts n pos) (.tup vs) Φ := by
  intro A p s xv Q E ok rm H vv k
  cases vv with
  | tup e r =>
    rename_i a xs
    refine wpAny_assign_Tuple (rm.hand hf) ⟨_,e,rfl,0,rfl⟩ ?_ (assignEach_star hp) fun h' hx => ?_
    · rw [assignEach_len hp,hl,r.length,Array.length_toList]
    · have kp : ∀ b o,s.heap.get? b = some o → h'.get? b = some o := fun b o e => hx b o (Nat.ne_of_lt (Heap.lt_size e)) e
      have H' := H.ext kp
      exact AsL.len (s := { s with heap := h' }) ok rm H' (r.mono fun a xs e => kp _ _ e) hp q fun ℓ₂ σ₂ h₂ t₂ q₂ H₂ s₂ => k ℓ₂ σ₂ h₂ t₂ q₂ H₂ ((Step.ext kp).trans H' s₂)
theorem Jd {t e : Expr} {pos : Pos} {Φ : AF → Locs → Store → Prop} (q : Ev c f ℓ σ e fun v σ₁ => As c f ℓ σ₁ t v fun ℓ₂ σ₂ => Φ .next ℓ₂ σ₂)
    (hs : ∀ env,swapsWithSole [t] e pos.line env = pure false := by intro _; rfl) (hw : ∀ env,swappedStores [t] e env = pure none := by intro _; rfl) (hp : plainE t = true := by rfl) : St c f ℓ σ (.Assign [t] e pos) Φ := by
  intro A p s Q E ok rm H k
  show wpAny _ _ (exec (.Assign [t] e pos) (f.env p)) _ _ _
  rw [arm_exec_Assign]
  refine wpAny_bind (wpAny_standAt ?_)
  rw [hs]
  refine wpAny_bind (wpAny_pure ?_)
  rw [if_neg (by decide)]
  refine wpAny_bind (q A p s [] _ E ok rm H .nil fun v v' σ₁ h₁ t₁ q₁ H₁ s₁ vv => ?_)
  rw [hw]
  refine wpAny_bind (wpAny_pure ?_)
  rw [Yj hp]
  show wpAny _ A (do assignAll v' [assign t (f.env p)]; pure .next) Q E _
  refine wpAny_bind ?_
  exact q₁ A p _ v' _ E ok rm H₁ vv fun ℓ₂ σ₂ h₂ t₂ q₂ H₂ s₂ => wpAny_pure (k .next .next ℓ₂ σ₂ h₂ t₂ q₂ H₂ (s₁.trans H₁ s₂) .next)
theorem st_del_sub {o i : Expr} {dpos pos : Pos} {Φ : AF → Locs → Store → Prop} (q : Ev c f ℓ σ o fun ov σ₁ => Ev c f ℓ σ₁ i fun iv σ₂ => OpU c f ℓ σ₂ [ov,iv] (ap2 delItem) fun σ₃ => Φ .next ℓ σ₃) : St c f ℓ σ (.Delete [.Subscript o i dpos] pos) Φ := by
  intro A p s Q E ok rm H k
  refine wpAny_Delete (wpAny_deleteEach_cons (wpAny_delete_Subscript ?_))
  refine q A p s [] _ E ok rm H .nil fun ov ov' σ₁ h₁ t₁ q₁ H₁ s₁ vo => ?_
  refine q₁ A p _ [] _ E ok rm H₁ .nil fun iv iv' σ₂ h₂ t₂ q₂ H₂ s₂ vi => ?_
  exact q₂ A p _ [ov',iv'] _ E ok rm H₂ (.cons (vo.mono (s₂.tk H₁)) (.one vi)) fun _ _ σ₃ h₃ t₃ q₃ H₃ s₃ _ => wpAny_deleteEach_nil (k .next .next ℓ σ₃ h₃ t₃ q₃ H₃ ((s₁.trans H₁ s₂).trans H₂ s₃) .next)
end
end Mine

set_option autoImplicit false
set_option maxRecDepth 100000
namespace Mine
open PySem PySem.W PySem.Calls PyProof.Rows

section
variable {c : Cx} {f : Fn} {ℓ : Locs} {σ σ' : Store} {h h' : Heap} {p : Pl}

theorem VRs.set {v : AV} {x : Value} {vs : List AV} {xs : List Value} : VRs h vs xs → VR h v x → ∀ j,VRs h (vs.set j v) (xs.set j x)
  | .nil,_,_ => .nil
  | .cons _ r,a,0 => .cons a r
  | .cons b r,a,j + 1 => .cons b (r.set a j)
theorem VRs.size {vs : List AV} {xs : Array Value} (r : VRs h vs xs.toList) : vs.length = xs.size := r.length.trans Array.length_toList
/-! ## what the heap is asked -/
/-- a list: of the store's,or one of the text's own -/
noncomputable def ListIs (c : Cx) (σ : Store) (l : Addr) (vs : List AV) : Prop := σ l = some (.list vs) ∨ ∃ xs n,c.h₀.get? l = some (listObj xs n) ∧ ∀ h,KeepB c h → VRs h vs xs.toList
theorem Qg {l : Addr} {vs : List AV} (i : ListIs c σ l vs) (g : Good c σ h) : ∃ xs n,h.get? l = some (listObj xs n) ∧ VRs h vs xs.toList := by
  rcases i with i | ⟨xs,n,e,r⟩
  · obtain ⟨oc,e,r⟩ := g.obj l _ i
    cases r with
    | list r => exact ⟨_,_,e,r⟩
  · exact ⟨xs,n,g.keep _ _ e,r h g.keep⟩
theorem Q3 {d : Addr} {es : Es} (i : σ d = some (.dict es)) (g : Good c σ h) : ∃ kvs,h.DictOf (strKind c.prog c.w) d kvs ∧ KRs h es kvs ∧ (d == sysModules) = false := by
  obtain ⟨oc,e,r⟩ := g.obj d _ i
  cases r with
  | dict i' r => exact ⟨_,Heap.dictOf_iff.mpr ⟨oc,e,i'⟩,r,beq_eq_false_iff_ne.mpr (by rintro rfl; rw [g.low] at i; cases i)⟩

/-- a dict turned -/
theorem dict_turned {d : Addr} {es es' : Es} {kvs' : List (Str × Value)} (H : Here c f ℓ σ p h) (i : σ d = some (.dict es)) (hd : h'.DictOf (strKind c.prog c.w) d kvs') (hs : Heap.SameBut d h h') (r : TK h h' → KRs h' es' kvs') :
    Here c f ℓ (σ.set d (.dict es')) p h' ∧ Step σ (σ.set d (.dict es')) (Own f p) h h' := by
  obtain ⟨o',e',i'⟩ := Heap.dictOf_iff.mp hd
  exact ⟨H.upd i hs e' (.dict i' (r (TK.upd H.good i hs))),.ofC (.upd i hs)⟩
theorem Qc {a b v : AV} {t : Value → Value → Sem Value} {Φ : AV → Store → Prop}
    (q : ∀ (A : Around) (s : Shared) (x y : Value) (Q : Value → Shared → Prop) (E : Value → Shared → Prop),c.Ok → Room c f.d f.hf A → Good c σ s.heap → VR s.heap a x → VR s.heap b y →
      (∀ z tk,VR s.heap v z → Q z { s with toks := tk }) → wpAny (model c.prog c.w) A (t x y) Q E s) (φ : Φ v σ) : Op c f ℓ σ [a,b] (ap2 t) Φ := by
  intro A p s xs Q E ok rm H va k
  cases va with
  | cons va r => cases r with
    | cons vb r => cases r; exact q A s _ _ Q E ok rm H.good va vb fun z tk vz => k v z σ s.heap tk φ H .refl vz
theorem op1_of {a v : AV} {t : Value → Sem Value} {Φ : AV → Store → Prop}
    (q : ∀ (A : Around) (s : Shared) (x : Value) (Q : Value → Shared → Prop) (E : Value → Shared → Prop),c.Ok → Room c f.d f.hf A → Good c σ s.heap → VR s.heap a x →
      (∀ z tk,VR s.heap v z → Q z { s with toks := tk }) → wpAny (model c.prog c.w) A (t x) Q E s) (φ : Φ v σ) : Op c f ℓ σ [a] (ap1 t) Φ := by
  intro A p s xs Q E ok rm H va k
  cases va with
  | cons va r => cases r; exact q A s _ Q E ok rm H.good va fun z tk vz => k v z σ s.heap tk φ H .refl vz
theorem H0 {a : AV} {b : Bool} {t : Value → Sem Bool} {Φ : Bool → Store → Prop}
    (q : ∀ (A : Around) (s : Shared) (x : Value) (Q : Bool → Shared → Prop) (E : Value → Shared → Prop),c.Ok → Room c f.d f.hf A → Good c σ s.heap → VR s.heap a x →
      (∀ tk,Q b { s with toks := tk }) → wpAny (model c.prog c.w) A (t x) Q E s) (φ : Φ b σ) : OpB c f ℓ σ [a] (ap1 t) Φ := by
  intro A p s xs Q E ok rm H va k
  cases va with
  | cons va r => cases r; exact q A s _ Q E ok rm H.good va fun tk => k b b σ s.heap tk φ H .refl rfl

/-! ## ints,strs -/
theorem op_add {i j : Int} {Φ : AV → Store → Prop} (φ : Φ (.int (i + j)) σ) : Op c f ℓ σ [.int i,.int j] (ap2 (binaryOp .Add)) Φ :=
  Qc (fun A s x y Q E ok rm g va vb k => by cases va; cases vb; exact add_int (k _ _ (.int _ _))) φ
theorem Ys {i j : Int} {Φ : AV → Store → Prop} (hj : j ≠ 0) (φ : Φ (.int (i.fmod j)) σ) : Op c f ℓ σ [.int i,.int j] (ap2 (binaryOp .Mod)) Φ :=
  Qc (fun A s x y Q E ok rm g va vb k => by cases va; cases vb; exact mod_int' hj (k _ _ (.int _ _))) φ
theorem Qx {i j : Int} {Φ : AV → Store → Prop} (hj : j ≠ 0) (hp : Builtin.divisionGoesByPylong i j = false) (φ : Φ (.int (i.fdiv j)) σ) : Op c f ℓ σ [.int i,.int j] (ap2 (binaryOp .FloorDiv)) Φ :=
  Qc (fun A s x y Q E ok rm g va vb k => by cases va; cases vb; exact floordiv_int hj (k _ _ (.int _ _)) (.inl hp)) φ
theorem Yt {i j : Int} {Φ : AV → Store → Prop} (φ : Φ (.bool (i == j)) σ) : Op c f ℓ σ [.int i,.int j] (ap2 (compareOp .Eq)) Φ :=
  Qc (fun A s x y Q E ok rm g va vb k => by cases va; cases vb; exact eq_int (k _ s.toks (.bool _))) φ
theorem Yd {i j : Int} {Φ : AV → Store → Prop} (φ : Φ (.bool (i != j)) σ) : Op c f ℓ σ [.int i,.int j] (ap2 (compareOp .NotEq)) Φ :=
  Qc (fun A s x y Q E ok rm g va vb k => by cases va; cases vb; exact ne_int (k _ s.toks (.bool _))) φ
theorem op_gt_int {i j : Int} {Φ : AV → Store → Prop} (φ : Φ (.bool (decide (j < i))) σ) : Op c f ℓ σ [.int i,.int j] (ap2 (compareOp .Gt)) Φ :=
  Qc (fun A s x y Q E ok rm g va vb k => by cases va; cases vb; exact gt_int (k _ s.toks (.bool _))) φ
theorem Ql {i j : Str} {Φ : AV → Store → Prop} (φ : Φ (.bool (i == j)) σ) : Op c f ℓ σ [.str i,.str j] (ap2 (compareOp .Eq)) Φ :=
  Qc (fun A s x y Q E ok rm g va vb k => by cases va; cases vb; exact eq_str (k _ s.toks (.bool _))) φ
theorem Ye {i j : Str} {Φ : AV → Store → Prop} (φ : Φ (.bool (i != j)) σ) : Op c f ℓ σ [.str i,.str j] (ap2 (compareOp .NotEq)) Φ :=
  Qc (fun A s x y Q E ok rm g va vb k => by cases va; cases vb; exact ne_str (k _ s.toks (.bool _))) φ

noncomputable def AV.isNone : AV → Bool
  | .none => true
  | .val w => w == .none
  | _ => false
theorem isNone_of {v : AV} {x : Value} (r : VR h v x) : (x == Value.none) = v.isNone := by cases r <;> rfl
theorem Qv {v : AV} {Φ : AV → Store → Prop} (φ : Φ (.bool v.isNone) σ) : Op c f ℓ σ [v,.none] (ap2 (compareOp .Is)) Φ :=
  Qc (fun A s x y Q E ok rm g va vb k => by cases vb; exact is_none (by rw [isNone_of va]; exact k _ s.toks (.bool _))) φ
theorem Yk {v : AV} {Φ : AV → Store → Prop} (φ : Φ (.bool (!v.isNone)) σ) : Op c f ℓ σ [v,.none] (ap2 (compareOp .IsNot)) Φ :=
  Qc (fun A s x y Q E ok rm g va vb k => by cases vb; exact isNot_none (by rw [isNone_of va]; exact k _ s.toks (.bool _))) φ

/-! ## truth -/
theorem Ub {Φ : Bool → Store → Prop} (φ : Φ false σ) : OpB c f ℓ σ [.none] (ap1 truthy) Φ :=
  H0 (fun A s x Q E ok rm g va k => by cases va; exact truthy_none (k s.toks)) φ
theorem J4 {b : Bool} {Φ : Bool → Store → Prop} (φ : Φ b σ) : OpB c f ℓ σ [.bool b] (ap1 truthy) Φ :=
  H0 (fun A s x Q E ok rm g va k => by cases va; exact wpAny_truthy_bool (k s.toks)) φ
theorem tr_str {x : Str} {Φ : Bool → Store → Prop} (hz : x.length ≤ 1000) (φ : Φ ((x.length : Int) != 0) σ) : OpB c f ℓ σ [.str x] (ap1 truthy) Φ :=
  H0 (fun A s x Q E ok rm g va k => by cases va; exact PySem.P.truthy_str (by omega) (k _)) φ
theorem tr_list {l : Addr} {vs : List AV} {Φ : Bool → Store → Prop} (i : ListIs c σ l vs) (hz : vs.length ≤ 1000) (φ : Φ (!vs.isEmpty) σ) : OpB c f ℓ σ [.ref l] (ap1 truthy) Φ :=
  H0 (fun A s x Q E ok rm g va k => by
    cases va
    obtain ⟨xs,n,e,r⟩ := Qg i g
    have len := r.size
    refine wpAny_truthy_list ⟨_,e,rfl,n,rfl⟩ (by omega) ?_
    have : (!xs.isEmpty) = !vs.isEmpty := by
      cases vs with
      | nil => have : xs = #[] := Array.eq_empty_of_size_eq_zero len.symm; subst this; rfl
      | cons a b => simp at len ⊢; intro h; subst h; simp at len
    rw [this]; exact k _) φ
theorem tr_tup {vs : List AV} {Φ : Bool → Store → Prop} (hz : vs.length ≤ 1000) (φ : Φ (!vs.isEmpty) σ) : OpB c f ℓ σ [.tup vs] (ap1 truthy) Φ :=
  H0 (fun A s x Q E ok rm g va k => by
    cases va with
    | tup e r =>
      rename_i a xs
      have len := r.size
      refine truthy_tuple ⟨_,e,rfl,0,rfl⟩ (by omega) ?_
      have : (!xs.isEmpty) = !vs.isEmpty := by
        cases vs with
        | nil => have : xs = #[] := Array.eq_empty_of_size_eq_zero len.symm; subst this; rfl
        | cons a b => simp at len ⊢; intro h; subst h; simp at len
      rw [this]; exact k _) φ
theorem tr_dict {d : Addr} {es : Es} {Φ : Bool → Store → Prop} (i : σ d = some (.dict es)) (hz : es.length ≤ 1000) (φ : Φ (!es.isEmpty) σ) : OpB c f ℓ σ [.ref d] (ap1 truthy) Φ :=
  H0 (fun A s x Q E ok rm g va k => by
    cases va
    obtain ⟨kvs,hd,r,low⟩ := Q3 i g
    have len := r.length
    refine wpAny_truthy_dict low hd (by omega) ?_
    have : (!kvs.isEmpty) = !es.isEmpty := by cases r <;> rfl
    rw [this]; exact k _) φ

/-! ## dicts -/
theorem op_in {d : Addr} {es : Es} {k : Str} {Φ : AV → Store → Prop} (i : σ d = some (.dict es)) (φ : Φ (.bool (es.has k)) σ) : Op c f ℓ σ [.str k,.ref d] (ap2 (compareOp .In)) Φ :=
  Qc (fun A s x y Q E ok rm g va vb kk => by
    cases va; cases vb
    obtain ⟨kvs,hd,r,low⟩ := Q3 i g
    refine wpAny_in_of (strKind_is c.prog c.w k _) low hd.mapOf ?_
    have : (valueAt kvs k).isSome = es.has k := by
      rw [Es.has_get]
      cases e : es.get k with
      | none => rw [r.get_none e]; rfl
      | some v => obtain ⟨x,hx,_⟩ := r.get e; rw [hx]; rfl
    rw [this]; exact kk _ _ (.bool _)) φ
theorem Q7 {d : Addr} {es : Es} {k : Str} {Φ : AV → Store → Prop} (i : σ d = some (.dict es)) (φ : Φ (.bool (!es.has k)) σ) : Op c f ℓ σ [.str k,.ref d] (ap2 (compareOp .NotIn)) Φ :=
  Qc (fun A s x y Q E ok rm g va vb kk => by
    cases va; cases vb
    obtain ⟨kvs,hd,r,low⟩ := Q3 i g
    refine wpAny_notIn_of (strKind_is c.prog c.w k _) low hd.mapOf ?_
    have : (valueAt kvs k).isSome = es.has k := by
      rw [Es.has_get]
      cases e : es.get k with
      | none => rw [r.get_none e]; rfl
      | some v => obtain ⟨x,hx,_⟩ := r.get e; rw [hx]; rfl
    rw [this]; exact kk _ _ (.bool _)) φ

/-- the subscript is no slice -/
noncomputable def PlainSub (sl : Expr) : Prop := ∀ o i,subscripted sl false o i = operate [o,i] (getItem o i)
theorem Qa {e sl : Expr} {d : Addr} {es : Es} {k : Str} {v : AV} {Φ : AV → Store → Prop} (hs : PlainSub sl) (i : σ d = some (.dict es)) (hv : es.get k = some v) (φ : Φ v σ) : Op c f ℓ σ [.ref d,.str k] (ap2 (subscriptTail e sl)) Φ :=
  Qc (fun A s x y Q E ok rm g va vb kk => by
    cases va; cases vb
    obtain ⟨kvs,hd,r,low⟩ := Q3 i g
    obtain ⟨x,hx,vr⟩ := r.get hv
    exact tail_any hd.typeIs F.slot_dict_getitem.lookup (wpAny_getItem_of (strKind_is c.prog c.w k _) hd.mapOf hx (kk _ _ vr)) (hs _ _)) φ
theorem op_sub_list {e sl : Expr} {l : Addr} {vs : List AV} {i : Int} {v : AV} {Φ : AV → Store → Prop} (hs : PlainSub sl) (il : ListIs c σ l vs) (h0 : 0 ≤ i) (h1 : i < 2 ^ 63) (hv : vs[i.toNat]? = some v) (φ : Φ v σ) :
    Op c f ℓ σ [.ref l,.int i] (ap2 (subscriptTail e sl)) Φ :=
  Qc (fun A s x y Q E ok rm g va vb kk => by
    cases va; cases vb
    obtain ⟨xs,n,e,r⟩ := Qg il g
    obtain ⟨x,hx,vr⟩ := r.get hv
    have hl : s.heap.IsList l xs := ⟨_,e,rfl,n,rfl⟩
    exact tail_any hl.typeIs slot_list_getitem.lookup (wpAny_getItem_list hl h0 h1 (by rw [← Array.getElem?_toList]; exact hx) (kk _ s.toks vr)) (hs _ _)) φ
theorem Jo {e sl : Expr} {vs : List AV} {i : Int} {v : AV} {Φ : AV → Store → Prop} (hs : PlainSub sl) (h0 : 0 ≤ i) (h1 : i < 2 ^ 63) (hv : vs[i.toNat]? = some v) (φ : Φ v σ) :
    Op c f ℓ σ [.tup vs,.int i] (ap2 (subscriptTail e sl)) Φ :=
  Qc (fun A s x y Q E ok rm g va vb kk => by
    cases vb
    cases va with
    | tup e r =>
      rename_i a xs
      obtain ⟨x,hx,vr⟩ := r.get hv
      have lt : i.toNat < xs.size := by
        obtain ⟨q,_⟩ := List.getElem?_eq_some_iff.mp hx
        rw [Array.length_toList] at q; exact q
      refine tail_any (T := "tuple") ⟨_,e,rfl⟩ slot_tuple_getitem.lookup (PyProof.Rows.getItem_tuple (items := xs) ⟨_,e,rfl,0,rfl⟩ (by omega) h1 (j := i.toNat) ?_ (by rw [← Array.getElem?_toList]; exact hx) (kk _ s.toks vr)) (hs _ _)
      unfold seqIndex?
      have n0 : ¬ i < 0 := by omega
      have b1 : (decide (0 ≤ i) && decide (i < (xs.size : Int))) = true := by
        rw [decide_eq_true h0,decide_eq_true (by omega)]; rfl
      simp only [n0,if_false]
      rw [if_pos b1]) φ
theorem J5 {d : Addr} {es : Es} {k : Str} {v : AV} {Φ : Store → Prop} (i : σ d = some (.dict es)) (hz : es.length ≤ 1000) (φ : Φ (σ.set d (.dict (es.put k v)))) : OpU c f ℓ σ [.ref d,.str k,v] (ap3 setItem) Φ := by
  intro A p s xs Q E ok rm H va kk
  cases va with
  | cons vd r => cases r with
    | cons vk r => cases r with
      | cons vv r =>
        cases r; cases vd; cases vk
        obtain ⟨kvs,hd,r,low⟩ := Q3 i H.good
        refine wpAny_setItem_pairs (strKind_is c.prog c.w k _) hd (fun h' hd' hs => ?_) (by rw [← r.length,sizeLine_eq]; omega)
        obtain ⟨H',st⟩ := dict_turned (es' := es.put k v) H i hd' hs fun tk => (r.mono tk).put k (vv.mono tk)
        exact kk () () _ h' _ φ H' st trivial
end
end Mine

set_option autoImplicit false
set_option maxRecDepth 100000
namespace Mine
open PySem PySem.W PySem.Calls PyProof.Rows

/-! ## hidden objects -/
noncomputable def KeepBut (wr : List Addr) (h h' : Heap) : Prop := ∀ b o,b ∉ wr → h.get? b = some o → h'.get? b = some o

section
variable {c : Cx} {f : Fn} {ℓ : Locs} {σ σ' σ'' : Store} {h h' h₀ h'' : Heap} {p : Pl} {wr : List Addr}

noncomputable def Hids (c : Cx) (σ : Store) (h : Heap) (wr : List Addr) : Prop := ∀ b ∈ wr,σ b = none ∧ c.h₀.get? b = none ∧ (∀ env ∈ c.stk,env.frame ≠ some b) ∧ ∃ o,h.get? b = some o ∧ ∀ xs,o ≠ tupObj xs
theorem nt_of {b : Addr} (x : ∃ o vs,h.get? b = some o ∧ o.data = .fields vs) : ∃ o,h.get? b = some o ∧ ∀ xs,o ≠ tupObj xs := let ⟨o,vs,e,n⟩ := x; ⟨o,e,fun xs q => by rw [q] at n; cases n⟩
theorem Kp.fields {b : Addr} {o : Obj} {y : Option Obj} (x : ∃ o vs,h.get? b = some o ∧ o.data = .fields vs) (e : h.get? b = some o) (k : Kp o y) : y = some o := k.exact fun es ep q => by
  obtain ⟨o',vs,e',d⟩ := x; rw [e] at e'; cases e'; rw [q] at d; cases d
theorem Good.hidL (g : Good c σ h) (hw : Hids c σ h wr) (k : KeepBut wr h h') : Good c σ h' ∧ TK h h' := by
  have tk : TK h h' := fun a xs q => k a _ (fun m => by obtain ⟨_,_,_,o,e,n⟩ := hw a m; rw [q] at e; cases e; exact n _ rfl) q
  refine ⟨⟨fun a x q => k a x (fun m => by have := (hw a m).2.1; rw [q] at this; cases this) (g.keep a x q),fun a x q => ?_,g.new,g.stat,g.low,fun env he => (g.fr env he).turn (fun L m _ ns _ _ => ⟨m,ns.at' fun o e => k L o (fun mm => (hw L mm).2.2.1 env he (by assumption)) e⟩) fun _ _ e => e⟩,tk⟩
  obtain ⟨oc,r1,r2⟩ := g.obj a x q
  exact ⟨oc,k a _ (fun m => by have := (hw a m).1; rw [q] at this; cases this) r1,r2.mono tk⟩
theorem Step.ofKeep (k : KeepBut wr h h') : Step σ σ (fun a => a ∈ wr) h h' := ⟨fun a o e _ n => .same (k a o n e),fun _ a b => absurd a b,fun _ e => e⟩
theorem Here.hidL (H : Here c f ℓ σ p h) (hw : Hids c σ h wr) (k : KeepBut wr h h') (nl : ∀ b ∈ wr,b ≠ p.L ∧ ∀ x,p.cells.lookup x ≠ some b) : Here c f ℓ σ p h' := by
  obtain ⟨g,tk⟩ := H.good.hidL hw k
  refine H.stepO (Step.ofKeep k) tk g ?_
  rintro a (rfl | ⟨x,hx⟩) m
  · exact (nl _ m).1 rfl
  · exact (nl _ m).2 x hx
theorem Step.hidL {O : Addr → Prop} (x : Step σ σ' O h₀ h) (k : KeepBut wr h h') (hb : ∀ b ∈ wr,h₀.get? b = none) : Step σ σ' O h₀ h' :=
  ⟨fun a o e q n => (x.keep a o e q n).trans fun o' e' => .same (k a o' (fun m => by have := hb a m; rw [e] at this; cases this) e'),x.fresh,x.stay⟩
/-- a step of a narrower place's -/
theorem Step.trans2 {O O' : Addr → Prop} (al : ∀ a,O a → h'.get? a ≠ none) (x : Step σ σ' O h h') (y : Step σ' σ'' O' h' h'') (sub : ∀ a o,h.get? a = some o → O' a → O a) : Step σ σ'' O h h'' := by
  refine ⟨fun a o e q n => ?_,fun a q n => ?_,fun a e => y.stay a (x.stay a e)⟩
  · refine (x.keep a o e q n).trans fun o' e' => y.keep a o' e' ?_ fun q' => n (sub a o e q')
    cases z : σ' a with
    | none => rfl
    | some _ => have := x.fresh a q (by rw [z]; simp); rw [e] at this; cases this
  · cases z : σ' a with
    | some _ => exact x.fresh a q (by rw [z]; simp)
    | none =>
      have e := y.fresh a z n
      cases w : h.get? a with
      | none => rfl
      | some o =>
        have : ¬ O a := fun q => al a q e
        exact absurd e (x.keep a o w q this).alive
theorem Good.off (g : Good c σ h) {a : Addr} (e : h.get? a = none) : σ a = none := by
  cases q : σ a with
  | none => rfl
  | some o => obtain ⟨oc,e',_⟩ := g.obj a o q; rw [e] at e'; cases e'
theorem Good.off₀ (g : Good c σ h) {a : Addr} (e : h.get? a = none) : c.h₀.get? a = none := by
  cases q : c.h₀.get? a with
  | none => rfl
  | some o => have := g.keep _ _ q; rw [e] at this; cases this
theorem Here.alive (H : Here c f ℓ σ p h) {a : Addr} (o : a = p.L ∨ ∃ x,p.cells.lookup x = some a) : h.get? a ≠ none := by
  rcases o with rfl | ⟨x,hx⟩
  · obtain ⟨m,⟨o,es,ep,ho,hd,_⟩,_⟩ := H.ns
    rw [ho]; simp
  · obtain ⟨v,o,ho,hd⟩ := H.cells x a hx
    rw [ho]; simp
theorem Here.apart (H : Here c f ℓ σ p h) {b : Addr} (e : h.get? b = none) : b ≠ p.L ∧ ∀ x,p.cells.lookup x ≠ some b :=
  ⟨by rintro rfl; exact H.alive (.inl rfl) e,fun x hx => H.alive (.inr ⟨x,hx⟩) e⟩

/-! ## what is walked -/
structure Wk (c : Cx) (t : Expr) (vs : List AV) (I : Addr) (wr : List Addr) (Req : Store → Prop) (St : Nat → Heap → Prop) : Prop where
  frame : ∀ i h h',St i h → (∀ b ∈ wr,∀ o,h.get? b = some o → h'.get? b = some o) → TK h h' → St i h'
  cls : ∀ i h,St i h → ∀ b ∈ wr,∃ o vs,h.get? b = some o ∧ o.data = .fields vs
  turn : ∀ (A : Around) (s : Shared) (σ : Store) (i : Nat) (v : AV) (Q : Value → Shared → Prop) (N : Shared → Prop) (E E' : Value → Shared → Prop),A.handled = none → c.Ok → Good c σ s.heap → Req σ → St i s.heap → vs[i]? = some v →
    (∀ x h' tk,VR h' v x → St (i + 1) h' → KeepBut wr s.heap h' → Q x { s with heap := h',toks := tk }) →
    wpAny (model c.prog c.w) A (pyNext (.ref I)) (fun r s₁ => match r with | none => N s₁ | some x => wpAny (model c.prog c.w) A (letOwnedTupleGo t (.ref I) x) (fun _ s₂ => Q x s₂) E' s₁) E s
  done : ∀ (A : Around) (s : Shared) (σ : Store) (N : Shared → Prop) (E : Value → Shared → Prop),A.handled = none → c.Ok → Good c σ s.heap → Req σ → St vs.length s.heap →
    (∀ h' tk,KeepBut wr s.heap h' → N { s with heap := h',toks := tk }) → wpAny (model c.prog c.w) A (pyNext (.ref I)) (fun r s₁ => r = none ∧ N s₁) E s
  self : ∀ (A : Around) (s : Shared) (i : Nat) (Q : Value → Shared → Prop) (E : Value → Shared → Prop),St i s.heap → Q (.ref I) s → wpAny (model c.prog c.w) A (pyIter (.ref I)) Q E s

/-- an iterable,evaluated and opened -/
noncomputable def Itr (c : Cx) (f : Fn) (ℓ : Locs) (σ : Store) (it t : Expr) (Φ : List AV → (Store → Prop) → Store → Prop) : Prop :=
  ∀ (A : Around) (p : Pl) (s : Shared) (Q : Value → Shared → Prop) (E : Value → Shared → Prop),c.Ok → Room c f.d f.hf A → A.handled = none → Here c f ℓ σ p s.heap →
    (∀ I wr St vs Req σ₁ h' tk,Φ vs Req σ₁ → Wk c t vs I wr Req St → St 0 h' → Here c f ℓ σ₁ p h' → Step σ σ₁ (Own f p) s.heap h' → (∀ b ∈ wr,s.heap.get? b = none ∧ σ₁ b = none) → Q (.ref I) { s with heap := h',toks := tk }) →
    wpAny (model c.prog c.w) A (eval it (f.env p)) (fun x s₁ => wpAny (model c.prog c.w) A (pyIter x) Q E s₁) E s

noncomputable def LoopK (Inv : Nat → Locs → Store → Prop) (i : Nat) (Φ : AF → Locs → Store → Prop) : AF → Locs → Store → Prop
  | .next,ℓ,σ => Inv (i + 1) ℓ σ
  | .cont,ℓ,σ => Inv (i + 1) ℓ σ
  | .brk,ℓ,σ => Φ .next ℓ σ
  | .ret v,ℓ,σ => Φ (.ret v) ℓ σ

theorem Qu {t it : Expr} {body : List Stmt} {pos : Pos} {Φ : AF → Locs → Store → Prop} (hf : f.hf = true)
    (q : Itr c f ℓ σ it t fun vs Req σ₁ => ∃ Inv : Nat → Locs → Store → Prop,Inv 0 ℓ σ₁ ∧ (∀ i ℓ σ,Inv i ℓ σ → Req σ) ∧
      (∀ i v ℓ σ,vs[i]? = some v → Inv i ℓ σ → As c f ℓ σ t v fun ℓ' σ' => Ss c f ℓ' σ' body (LoopK Inv i Φ)) ∧ (∀ ℓ σ,Inv vs.length ℓ σ → Φ .next ℓ σ))
    (hs : ∀ env x,foldedSetIterable it env x = pure x := by intro _ _; rfl) : St c f ℓ σ (.For t it body [] pos) Φ := by
  intro A p s Q E ok rm H k
  have hh := rm.hand hf
  refine wpAny_For ?_ (hs _)
  refine q A p s _ E ok rm hh H fun I wr St vs Req σ₁ h₁ t₁ ⟨Inv,i0,hreq,hbody,hend⟩ W st₀ H₁ s₁ hwr => ?_
  have apart : ∀ b ∈ wr,b ≠ p.L ∧ ∀ x,p.cells.lookup x ≠ some b := fun b m => H.apart (hwr b m).1
  have off₀ : ∀ b ∈ wr,c.h₀.get? b = none := fun b m => H.good.off₀ (hwr b m).1
  have none₀ : ∀ b ∈ wr,s.heap.get? b = none := fun b m => (hwr b m).1
  refine codeAny_forLoop_any (fun n s' => ∃ i ℓi σi h' tk,s' = { s with heap := h',toks := tk } ∧ St i h' ∧ Here c f ℓi σi p h' ∧ Step σ σi (Own f p) s.heap h' ∧ Inv i ℓi σi ∧ (∀ b ∈ wr,σi b = none) ∧ i ≤ vs.length ∧ n = vs.length + 1 - i) ?_ (vs.length + 1)
    ⟨0,ℓ,σ₁,h₁,t₁,rfl,st₀,H₁,s₁,i0,fun b m => (hwr b m).2,Nat.zero_le _,rfl⟩
  rintro n s' ⟨i,ℓi,σi,h₂,t₂,rfl,st,H₂,s₂,inv,wn,le,rfl⟩
  have hids : Hids c σi h₂ wr := fun b m => ⟨wn b m,off₀ b m,H.good.notFrame (none₀ b m),nt_of (W.cls _ _ st b m)⟩
  by_cases lt : i < vs.length
  · refine W.turn A _ σi i vs[i] _ _ _ _ hh ok H₂.good (hreq _ _ _ inv) st (List.getElem?_eq_getElem lt) fun x h₃ t₃ vr st₃ k₃ => ?_
    have H₃ := H₂.hidL hids k₃ apart
    have s₃ := s₂.hidL k₃ none₀
    refine hbody i vs[i] ℓi σi (List.getElem?_eq_getElem lt) inv A p { s with heap := h₃,toks := t₃ } x _ _ ok rm H₃ vr fun ℓ₄ σ₄ h₄ t₄ q₄ H₄ s₄ => ?_
    have tk₄ := s₄.tk H₃
    have own₃ : ∀ b ∈ wr,¬ Own f p b := fun b m => by
      rintro (rfl | ⟨y,_,hy⟩)
      · exact (apart _ m).1 rfl
      · exact (apart _ m).2 y hy
    have keep₄ : ∀ b ∈ wr,∀ o,h₃.get? b = some o → h₄.get? b = some o := fun b m o e => Kp.fields (W.cls _ _ st₃ b m) e (s₄.keep b o e (wn b m) (own₃ b m))
    have st₄ : St (i + 1) h₄ := W.frame _ _ _ st₃ keep₄ tk₄
    have wn₄ : ∀ b ∈ wr,σ₄ b = none := fun b m => by
      cases z : σ₄ b with
      | none => rfl
      | some _ => have := s₄.fresh b (wn b m) (by rw [z]; simp); obtain ⟨o,_,e,_⟩ := W.cls _ _ st₃ b m; rw [e] at this; cases this
    refine q₄ A p { s with heap := h₄,toks := t₄ } _ _ ok rm H₄ fun r fl ℓ₅ σ₅ h₅ t₅ q₅ H₅ s₅ fr => ?_
    have S₅ := (s₃.trans H₃ s₄).trans H₄ s₅
    have again : Inv (i + 1) ℓ₅ σ₅ → ∃ m,m < vs.length + 1 - i ∧ ∃ i ℓi σi h' tk,({ s with heap := h₅,toks := t₅ } : Shared) = { s with heap := h',toks := tk } ∧ St i h' ∧ Here c f ℓi σi p h' ∧ Step σ σi (Own f p) s.heap h' ∧ Inv i ℓi σi ∧ (∀ b ∈ wr,σi b = none) ∧ i ≤ vs.length ∧ m = vs.length + 1 - i := fun inv₅ => by
      refine ⟨vs.length + 1 - (i + 1),by omega,i + 1,ℓ₅,σ₅,h₅,t₅,rfl,W.frame _ _ _ st₄ (fun b m o e => Kp.fields (W.cls _ _ st₄ b m) e (s₅.keep b o e (wn₄ b m) (own₃ b m))) (s₅.tk H₄),H₅,S₅,inv₅,fun b m => ?_,by omega,rfl⟩
      cases z : σ₅ b with
      | none => rfl
      | some _ => have := s₅.fresh b (wn₄ b m) (by rw [z]; simp); obtain ⟨o,_,e,_⟩ := W.cls _ _ st₄ b m; rw [e] at this; cases this
    cases fr with
    | next => exact again q₅
    | cont => exact again q₅
    | brk => exact k .next .next ℓ₅ σ₅ h₅ t₅ q₅ H₅ S₅ .next
    | ret vr => exact k (.ret _) (.ret _) ℓ₅ σ₅ h₅ t₅ q₅ H₅ S₅ (.ret vr)
  · have e : i = vs.length := by omega
    subst e
    refine wpAny_mono (W.done A _ σi (fun s' => wpAny (model c.prog c.w) A (execs [] (f.env p)) (fun f s₃ => Q f s₃) (notedBy (model c.prog c.w) A (f.env p) fun e s' => cameBackBy (model c.prog c.w) A (f.env p) E e s') s') _ hh ok H₂.good (hreq _ _ _ inv) st fun h₃ t₃ k₃ => ?_) (fun r s' hr => ?_) fun _ _ e => e
    · exact wpAny_execs_nil (k .next .next ℓi σi h₃ t₃ (hend _ _ inv) (H₂.hidL hids k₃ apart) (s₂.hidL k₃ none₀) .next)
    · obtain ⟨rfl,hr⟩ := hr; exact hr

/-! ## the iterables -/
theorem itr_of {it t : Expr} {Φ : List AV → (Store → Prop) → Store → Prop}
    (q : Ev c f ℓ σ it fun v σ₁ => ∀ (A : Around) (s : Shared) (x : Value) (Q : Value → Shared → Prop) (E : Value → Shared → Prop),Good c σ₁ s.heap → VR s.heap v x →
      (∀ I wr St vs Req h' tk,Φ vs Req σ₁ → Wk c t vs I wr Req St → St 0 h' → (∀ b o,s.heap.get? b = some o → h'.get? b = some o) → (∀ b ∈ wr,s.heap.get? b = none) → Q (.ref I) { s with heap := h',toks := tk }) →
      wpAny (model c.prog c.w) A (pyIter x) Q E s) : Itr c f ℓ σ it t Φ := by
  intro A p s Q E ok rm hh H k
  refine q A p s [] _ E ok rm H .nil fun v x σ₁ h₁ t₁ q₁ H₁ s₁ vv => ?_
  refine q₁ A { s with heap := h₁,toks := t₁ } x Q E H₁.good vv fun I wr St vs Req h₂ t₂ φ W st kp hw => ?_
  refine k I wr St vs Req σ₁ h₂ t₂ φ W st (H₁.ext kp) (s₁.trans H₁ (.ext kp)) fun b m => ⟨?_,H₁.good.off (hw b m)⟩
  cases e : s.heap.get? b with
  | none => rfl
  | some o =>
    have e' := hw b m
    by_cases ob : Own f p b
    · exact absurd e' (H₁.own_alive ob)
    · cases z : σ b with
      | none => exact absurd e' (s₁.keep b o e z ob).alive
      | some z' =>
        cases z₁ : σ₁ b with
        | none => exact absurd z₁ (s₁.stay b (by rw [z]; simp))
        | some o₁ => obtain ⟨oc,e₁,_⟩ := H₁.good.obj b o₁ z₁; rw [e₁] at e'; cases e'
end
end Mine

set_option autoImplicit false
set_option maxRecDepth 100000
namespace Mine
open PySem PySem.W PySem.Calls PyProof.Rows

section
variable {c : Cx} {f : Fn} {ℓ : Locs} {σ σ' σ'' : Store} {h h' h₀ h'' : Heap} {p : Pl} {wr : List Addr}

/-- the target asks no tuple back -/
noncomputable def Quiet (t : Expr) (vs : List AV) : Prop := (∀ it v,letOwnedTupleGo t it v = pure ()) ∨ ((∃ es n pos,t = .Tuple es n pos) ∧ ∀ v ∈ vs,∃ us,v = .tup us)
theorem Jx (x : Str) (pos : Pos) (vs : List AV) : Quiet (.Name x pos) vs := .inl fun _ _ => rfl

theorem letGo_tupiter {prog : Program} {w : World} {A : Around} {E : Value → Shared → Prop} {s : Shared} {elts : List Expr} {x1} {pos : Pos} {I l T : Addr} {i : Nat} {Q : Unit → Shared → Prop} (hit : s.heap.IsTupleIter I l i) (hQ : Q () s) :
    wpAny (model prog w) A (letOwnedTupleGo (.Tuple elts x1 pos) (.ref I) (.ref T)) Q E s := by
  obtain ⟨o,ho,hc,hd⟩ := hit
  unfold letOwnedTupleGo
  refine wpAny_bind (wpAny_load ho ?_)
  rw [hc,hd]
  show wpAny _ A (if (["enumerate","zip","dict_itemiterator","dict_reverseitemiterator","odict_iterator","itertools.zip_longest","itertools.pairwise"].contains "tuple_iterator" &&
      (#[.ref l,.int i 0] : Array Value)[0]? == some (rawInt T)) = true then _ else _) Q E s
  rw [if_neg (by
    intro h
    rw [show (["enumerate","zip","dict_itemiterator","dict_reverseitemiterator","odict_iterator","itertools.zip_longest","itertools.pairwise"].contains "tuple_iterator") = false from by decide,Bool.false_and] at h
    cases h)]
  exact wpAny_pure hQ

theorem ListIs.ne {l I : Addr} {vs : List AV} (i : ListIs c σ l vs) (g : Good c σ h) (e : h.get? I = none) : l ≠ I := by
  rintro rfl
  obtain ⟨xs,n,e',_⟩ := Qg i g
  rw [e] at e'; cases e'

theorem wk_list {t : Expr} {l I : Addr} {vs : List AV} (ht : Quiet t vs) (ne : l ≠ I) : Wk c t vs I [I] (fun σ => ListIs c σ l vs) (fun i h => h.IsListIter I l i) where
  frame := fun i h h' st kp _ => st.at fun o e => kp I (List.mem_singleton.mpr rfl) o e
  cls := fun i h st b m => by
    rw [List.mem_singleton] at m; subst m
    obtain ⟨o,ho,_,hd⟩ := st
    exact ⟨o,_,ho,hd⟩
  turn := fun A s σ i v Q N E E' hh ok g req st hv k => by
    obtain ⟨xs,n,e,r⟩ := Qg req g
    obtain ⟨x,hx,vr⟩ := r.get hv
    refine wpAny_pyNext_list_item st (items := xs) ⟨_,e,rfl,n,rfl⟩ (by rw [← Array.getElem?_toList]; exact hx) fun h' hit' hs' => ?_
    have kb : KeepBut [I] s.heap h' := fun b o nb e => (hs'.2 b fun q => nb (List.mem_singleton.mpr q)).trans e
    have tk : TK s.heap h' := fun a ys e => kb a _ (fun m => by
      rw [List.mem_singleton] at m; subst m
      obtain ⟨o,ho,hc,_⟩ := st
      rw [e] at ho; cases ho; exact absurd hc (by simp)) e
    have fin := k x h' s.toks (vr.mono tk) hit' kb
    rcases ht with ht | ⟨⟨es,m,pos,rfl⟩,ht⟩
    · exact wpAny_of_eq (ht _ _) fin
    · obtain ⟨us,rfl⟩ := ht v (List.mem_of_getElem? hv)
      cases vr with
      | tup e r => exact wpAny_letOwnedTupleGo_listiter hit' fin
  done := fun A s σ N E hh ok g req st k => by
    obtain ⟨xs,n,e,r⟩ := Qg req g
    refine wpAny_pyNext_list_end hh st (items := xs) ⟨_,e,rfl,n,rfl⟩ (by rw [r.size]; simp) fun h' hx => ⟨rfl,?_⟩
    exact k h' s.toks fun b o nb e => hx b o (fun q => nb (List.mem_singleton.mpr q)) e
  self := fun A s i Q E st hQ => wpAny_pyIter_listiter st hQ

theorem J1 {it t : Expr} {Φ : List AV → (Store → Prop) → Store → Prop}
    (q : Ev c f ℓ σ it fun v σ₁ => ∃ l vs,v = .ref l ∧ ListIs c σ₁ l vs ∧ Quiet t vs ∧ Φ vs (fun σ => ListIs c σ l vs) σ₁) : Itr c f ℓ σ it t Φ := by
  refine itr_of (q.mono fun v σ₁ ⟨l,vs,hv,il,ht,φ⟩ => ?_)
  intro A s x Q E g vr k
  subst hv
  cases vr
  obtain ⟨xs,n,e,r⟩ := Qg il g
  refine wpAny_pyIter_list ⟨_,e,rfl,n,rfl⟩ ?_
  have none₀ : s.heap.get? s.heap.objs.size = none := by
    cases z : s.heap.get? s.heap.objs.size with
    | none => rfl
    | some o => exact absurd (Heap.lt_size z) (Nat.lt_irrefl _)
  refine k _ [s.heap.objs.size] _ vs _ _ s.toks φ (wk_list ht (il.ne g none₀)) ⟨_,Heap.get?_push_size _ rfl,rfl,rfl⟩ (fun b o e => Heap.get?_push_of_some _ e) fun b m => ?_
  rw [List.mem_singleton] at m; subst m; exact none₀

theorem wk_tup {t : Expr} {a I : Addr} {vs : List AV} {xs : Array Value} (ht : Quiet t vs) : Wk c t vs I [I] (fun _ => True) (fun i h => h.IsTupleIter I a i ∧ h.get? a = some (tupObj xs) ∧ VRs h vs xs.toList) where
  frame := fun i h h' st kp tk => ⟨st.1.at fun o e => kp I (List.mem_singleton.mpr rfl) o e,tk _ _ st.2.1,st.2.2.mono tk⟩
  cls := fun i h st b m => by
    rw [List.mem_singleton] at m; subst m
    obtain ⟨o,ho,_,hd⟩ := st.1
    exact ⟨o,_,ho,hd⟩
  turn := fun A s σ i v Q N E E' hh ok g req st hv k => by
    obtain ⟨hit,e,r⟩ := st
    obtain ⟨x,hx,vr⟩ := r.get hv
    refine wpAny_pyNext_tuple_item hit (items := xs) ⟨_,e,rfl,0,rfl⟩ (by rw [← Array.getElem?_toList]; exact hx) fun h' hit' hs' => ?_
    have kb : KeepBut [I] s.heap h' := fun b o nb e => (hs'.2 b fun q => nb (List.mem_singleton.mpr q)).trans e
    have tk : TK s.heap h' := fun a ys e => kb a _ (fun m => by
      rw [List.mem_singleton] at m; subst m
      obtain ⟨o,ho,hc,_⟩ := hit
      rw [e] at ho; cases ho; exact absurd hc (by simp)) e
    have fin := k x h' s.toks (vr.mono tk) ⟨hit',tk _ _ e,r.mono tk⟩ kb
    rcases ht with ht | ⟨⟨es,m,pos,rfl⟩,ht⟩
    · exact wpAny_of_eq (ht _ _) fin
    · obtain ⟨us,rfl⟩ := ht v (List.mem_of_getElem? hv)
      cases vr with
      | tup e r => exact letGo_tupiter hit' fin
  done := fun A s σ N E hh ok g req st k => by
    obtain ⟨hit,e,r⟩ := st
    refine wpAny_pyNext_tuple_end hh hit (items := xs) ⟨_,e,rfl,0,rfl⟩ (by rw [r.size]; simp) fun h' hx => ⟨rfl,?_⟩
    exact k h' s.toks fun b o nb e => hx b o (fun q => nb (List.mem_singleton.mpr q)) e
  self := fun A s i Q E st hQ => wpAny_pyIter_tupleiter st.1 hQ

theorem itr_tup {it t : Expr} {Φ : List AV → (Store → Prop) → Store → Prop}
    (q : Ev c f ℓ σ it fun v σ₁ => ∃ vs,v = .tup vs ∧ Quiet t vs ∧ Φ vs (fun _ => True) σ₁) : Itr c f ℓ σ it t Φ := by
  refine itr_of (q.mono fun v σ₁ ⟨vs,hv,ht,φ⟩ => ?_)
  intro A s x Q E g vr k
  subst hv
  cases vr with
  | tup e r =>
    rename_i a xs
    refine wpAny_pyIter_tuple ⟨_,e,rfl,0,rfl⟩ ?_
    have none₀ : s.heap.get? s.heap.objs.size = none := by
      cases z : s.heap.get? s.heap.objs.size with
      | none => rfl
      | some o => exact absurd (Heap.lt_size z) (Nat.lt_irrefl _)
    refine k _ [s.heap.objs.size] _ vs _ _ s.toks φ (wk_tup (a := a) (xs := xs) ht) ⟨⟨_,Heap.get?_push_size _ rfl,rfl,rfl⟩,Heap.get?_push_of_some _ e,r.mono (TK.push _)⟩ (fun b o e => Heap.get?_push_of_some _ e) fun b m => ?_
    rw [List.mem_singleton] at m; subst m; exact none₀

/-- a call,its arguments at hand -/
theorem call_direct {fn : Expr} {es : List Expr} {pos : Pos} {Φ : List AV → Store → Prop} {g : Value} (hfn : Ev c f ℓ σ fn fun g' σ₁ => g' = .val g ∧ σ₁ = σ) (hc : CalleeOk c g) (h : EvL c f ℓ es σ Φ)
    (hne : es ≠ []) (hp : es.all plainE = true) (he : ∀ env,eval (.Call fn es [] pos) env = (do callWith pos (← eval fn env) [] (backTo pos (starEach es env)) (backToKw pos (keywordEach [] env)))) :
    ∀ (A : Around) (p : Pl) (s : Shared) (Q : Value → Shared → Prop) (E : Value → Shared → Prop),c.Ok → Room c f.d f.hf A → Here c f ℓ σ p s.heap →
    (∀ as xs σ' h' tk,Φ as σ' → Here c f ℓ σ' p h' → Step σ σ' (Own f p) s.heap h' → VRs h' as xs → wpAny (model c.prog c.w) A (call g xs []) Q E { s with heap := h',toks := tk }) →
    wpAny (model c.prog c.w) A (eval (.Call fn es [] pos) (f.env p)) Q E s := by
  intro A p s Q E ok rm H k
  refine Call_ (hfn A p s [] _ E ok rm H .nil fun g' x σ₁ h₁ t₁ q₁ H₁ s₁ vg => ?_) (he _)
  obtain ⟨rfl,rfl⟩ := q₁
  cases vg
  refine callWith_of (P := KeepB c) (by rw [Zp hp]; rfl) (fun h' kp => hc.looks ok h' kp) ?_
  cases es with
  | nil => exact absurd rfl hne
  | cons e es =>
    rw [List.all_cons,Bool.and_eq_true] at hp
    rw [Qb hp.1]
    refine evalArgs_plain ?_
    have := Ua (pos := pos) (es := e :: es) (by rw [List.all_cons,hp.1,hp.2]; rfl) h A p { s with heap := h₁,toks := t₁ } [] (fun vs s₁ => KeepB c s₁.heap ∧ wpAny (model c.prog c.w) A (call g ([] ++ vs) []) Q E s₁) E ok rm H₁ .nil fun vs vs' σ₂ h₂ t₂ q₂ H₂ s₂ vv => ?_
    · replace this : wpAny _ _ (spliced (backTo pos (starEach (e :: es) (f.env p)))) _ _ _ := this
      rw [Qb hp.1] at this; exact this
    · exact ⟨H₂.good.keep,k vs vs' σ₂ h₂ t₂ q₂ H₂ (s₁.trans H₁ s₂) vv⟩

/-! ## enumerate -/
end
end Mine

set_option autoImplicit false
set_option maxRecDepth 100000
namespace Mine
open PySem PySem.W PySem.Calls PyProof.Rows

noncomputable def clOf (g : Str → Addr) : List (Str × NameKind) → List (Str × Addr) → List (Str × Addr)
  | [],cs => cs
  | (n,k) :: r,cs => if k == .free then clOf g r ((n,g n) :: cs) else clOf g r cs
theorem closureFor_cells {scope : Scope} {env : Env} (g : Str → Addr) (h : ∀ n,(n,NameKind.free) ∈ scope.names → env.cells.lookup n = some (g n)) : closureFor scope env = pure (clOf g scope.names []) := by
  have key : ∀ (names : List (Str × NameKind)) (cs : List (Str × Addr)),(∀ n,(n,NameKind.free) ∈ names → env.cells.lookup n = some (g n)) →
      (forIn names cs fun (x : Str × NameKind) (r : List (Str × Addr)) => (if (x.2 == NameKind.free) = true then (do let a ← cellOf env x.1; pure (ForInStep.yield ((x.1,a) :: r))) else pure (ForInStep.yield r) : Sem (ForInStep (List (Str × Addr))))) = (pure (clOf g names cs) : Sem _) := by
    intro names
    induction names with
    | nil => intro cs _; rfl
    | cons y r ih =>
      intro cs hh
      obtain ⟨n,k⟩ := y
      rw [List.forIn_cons]
      have ihr := fun cs => ih cs fun n hn => hh n (List.mem_cons_of_mem _ hn)
      by_cases hk : (k == NameKind.free) = true
      · have hk' : k = .free := by simpa using hk
        subst hk'
        have e : cellOf env n = pure (g n) := by unfold cellOf; rw [hh n List.mem_cons_self]
        simp only [hk,if_true,e]
        show (forIn r ((n,g n) :: cs) _ : Sem _) = _
        rw [ihr]; rfl
      · simp only [hk,if_false,Bool.false_eq_true]
        show (forIn r cs _ : Sem _) = pure (if (k == NameKind.free) = true then clOf g r ((n,g n) :: cs) else clOf g r cs)
        rw [if_neg hk]
        exact ihr cs
  simp only [closureFor]
  have := key scope.names [] h
  show (forIn scope.names [] _ >>= fun r => pure r : Sem _) = _
  rw [show (forIn scope.names ([] : List (Str × Addr)) fun x r => (if (x.2 == NameKind.free) = true then (do let a ← cellOf env x.1; pure (ForInStep.yield ((x.1,a) :: r))) else pure (ForInStep.yield r) : Sem _)) = pure (clOf g scope.names []) from this]
  rfl
theorem clOf_mem {g : Str → Addr} : ∀ {names : List (Str × NameKind)} {cs : List (Str × Addr)} {n : Str} {a : Addr},(n,a) ∈ clOf g names cs → (n,a) ∈ cs ∨ (a = g n ∧ (n,NameKind.free) ∈ names)
  | [],_,_,_,h => .inl h
  | (m,k) :: r,cs,n,a,h => by
    unfold clOf at h
    by_cases hk : (k == NameKind.free) = true
    · rw [if_pos hk] at h
      have hk' : k = .free := by simpa using hk
      subst hk'
      rcases clOf_mem h with h | ⟨e,h⟩
      · rcases List.mem_cons.mp h with h | h
        · cases h; exact .inr ⟨rfl,List.mem_cons_self⟩
        · exact .inl h
      · exact .inr ⟨e,List.mem_cons_of_mem _ h⟩
    · rw [if_neg hk] at h
      rcases clOf_mem h with h | ⟨e,h⟩
      · exact .inl h
      · exact .inr ⟨e,List.mem_cons_of_mem _ h⟩
theorem clOf_has {g : Str → Addr} : ∀ {names : List (Str × NameKind)} {cs : List (Str × Addr)} {n : Str},((n,g n) ∈ cs ∨ (n,NameKind.free) ∈ names) → (n,g n) ∈ clOf g names cs
  | [],_,_,h => by rcases h with h | h; exact h; cases h
  | (m,k) :: r,cs,n,h => by
    unfold clOf
    by_cases hk : (k == NameKind.free) = true
    · rw [if_pos hk]
      have hk' : k = .free := by simpa using hk
      subst hk'
      apply clOf_has
      rcases h with h | h
      · exact .inl (List.mem_cons_of_mem _ h)
      · rcases List.mem_cons.mp h with h | h
        · cases h; exact .inl List.mem_cons_self
        · exact .inr h
    · rw [if_neg hk]
      apply clOf_has
      rcases h with h | h
      · exact .inl h
      · rcases List.mem_cons.mp h with h | h
        · cases h; simp at hk
        · exact .inr h
theorem Uc {α : Type} : ∀ {l : List (Str × α)} {n : Str} {a : α},(n,a) ∈ l → ∃ b,l.lookup n = some b
  | (m,b) :: r,n,a,h => by
    by_cases e : n = m
    · subst e; exact ⟨b,by simp [List.lookup]⟩
    · have : (n == m) = false := by simpa using e
      rcases List.mem_cons.mp h with h | h
      · cases h; exact absurd rfl e
      · obtain ⟨b',hb⟩ := Uc h
        exact ⟨b',by simp only [List.lookup,this]; exact hb⟩
theorem Yy {α : Type} : ∀ {l : List (Str × α)} {n : Str} {a : α},l.lookup n = some a → (n,a) ∈ l
  | (m,b) :: r,n,a,h => by
    by_cases e : n = m
    · subst e; simp [List.lookup] at h; subst h; exact List.mem_cons_self
    · have : (n == m) = false := by simpa using e
      simp only [List.lookup,this] at h
      exact List.mem_cons_of_mem _ (Yy h)

section
variable {c : Cx} {f : Fn} {ℓ : Locs} {σ σ' σ'' : Store} {h h' h₀ h'' : Heap} {p : Pl} {wr : List Addr}

noncomputable def relab (f : Fn) (scope : Scope) : Scope := relabel scope (f.env ⟨0,[],none⟩)
noncomputable def Fn.comp (f : Fn) (scope : Scope) : Fn := ⟨f.qual,relab f scope,none,f.cd,f.d,f.hf⟩
/-- what a comprehension sees of its place's names -/
noncomputable def Locs.comp (ℓ : Locs) (f : Fn) (scope : Scope) : Locs := fun x => if (f.comp scope).kind x = some .cell ∨ (f.comp scope).kind x = some .free then ℓ x else none

structure CompOk (f : Fn) (scope : Scope) : Prop where
  kind : scope.kind = .function
  cell : ∀ y ∈ scope.names,y.2 ≠ .cell
  names : ∀ y ∈ scope.names,y.2 = .local → scope.names.lookup y.1 = some .local
  free : ∀ y ∈ scope.names,y.2 = .free → f.kind y.1 = some .cell

theorem comp_kind {scope : Scope} (K : CompOk f scope) {x : Str} (h : (f.comp scope).kind x = some .cell ∨ (f.comp scope).kind x = some .free) : (x,NameKind.free) ∈ scope.names := by
  have hm : ∃ k,(x,k) ∈ (relab f scope).names ∧ (k = .cell ∨ k = .free) := by
    rcases h with h | h
    · exact ⟨_,Yy h,.inl rfl⟩
    · exact ⟨_,Yy h,.inr rfl⟩
  obtain ⟨k,hm,hk⟩ := hm
  obtain ⟨⟨n,k'⟩,hn,e⟩ := List.mem_map.mp (show (x,k) ∈ scope.names.map _ from hm)
  dsimp only at e
  split at e
  · rename_i q
    rw [Bool.and_eq_true,Bool.and_eq_true] at q
    have : k' = .free := by simpa using q.1.1
    cases e; subst this; exact hn
  · cases e
    rcases hk with rfl | rfl
    · exact absurd rfl (K.cell _ hn)
    · exact hn

theorem tests_run {ifs : List Expr} {Φ : Bool → Store → Prop} (q : TeAll c f ℓ ifs σ Φ) :
    Tr c f ℓ σ [] (fun env _ => forIn ifs true fun x r => if r = true then do let ok ← isTrue x env (eval x env); pure (ForInStep.yield ok) else pure (ForInStep.yield r)) (fun _ b b' => b = b') Φ := by
  intro A p s xs Q E ok rm H v0 k
  clear v0
  have stuck : ∀ (es : List Expr) (s : Shared) (Q : Bool → Shared → Prop),Q false s → wpAny (model c.prog c.w) A (forIn es false fun x r => if r = true then do let ok ← isTrue x (f.env p) (eval x (f.env p)); pure (ForInStep.yield ok) else pure (ForInStep.yield r)) Q E s := by
    intro es
    induction es with
    | nil => intro s Q hq; exact wpAny_pure hq
    | cons e es ih =>
      intro s Q hq
      rw [List.forIn_cons]
      simp only [Bool.false_eq_true,if_false]
      exact wpAny_bind (wpAny_pure (ih s Q hq))
  induction ifs generalizing σ s with
  | nil => exact wpAny_pure (k true true σ s.heap s.toks q H .refl rfl)
  | cons e es ih =>
    show wpAny _ A (forIn (e :: es) true fun x r => if r = true then do let ok ← isTrue x (f.env p) (eval x (f.env p)); pure (ForInStep.yield ok) else pure (ForInStep.yield r)) Q E s
    rw [List.forIn_cons]
    simp only [if_true]
    refine wpAny_bind (wpAny_bind (q A p s [] _ E ok rm H .nil fun b b' σ₁ h₁ t₁ q₁ H₁ s₁ vb => wpAny_pure ?_))
    subst vb
    cases b with
    | false => exact stuck es _ _ (k false false σ₁ h₁ t₁ q₁ H₁ s₁ rfl)
    | true => exact ih q₁ { s with heap := h₁,toks := t₁ } H₁ fun b b' σ₂ h₂ t₂ q₂ H₂ s₂ vb => k b b' σ₂ h₂ t₂ q₂ H₂ (s₁.trans H₁ s₂) vb

noncomputable def Store.le (σ σ' : Store) : Prop := ∀ a,σ a ≠ none → σ' a = σ a
theorem Store.le_set {σ : Store} {a : Addr} {o : AO} (h : σ a = none) : σ.le (σ.set a o) := fun b e => Store.set_ne (by rintro rfl; exact e h)

/-- what one turn of a comprehension does -/
noncomputable def CompTurn (c : Cx) (fC : Fn) (ℓC : Locs) (t elt : Expr) (ifs : List Expr) (g : AV → Option AV) (v : AV) (σ : Store) : Prop :=
  As c fC ℓC σ t v fun ℓ' σ' => σ' = σ ∧ (∀ x v,ℓC x = some v → ℓ' x = some v) ∧
    TeAll c fC ℓ' ifs σ fun b σ'' => σ'' = σ ∧ if b = true then Ev c fC ℓ' σ elt fun y σ₃ => σ₃ = σ ∧ g v = some y else g v = none

theorem codeAny_compLoop_go {prog : Program} {w : World} {A : Around} {R : Result → Shared → Prop} {s : Shared} {elt target iter : Expr} {ifs : List Expr} {scope : Scope} {pos : Pos} {it acc : Value} {env : Env} (I : Nat → Shared → Prop)
    (turn : ∀ n s,I n s → wpAny (model prog w) A (pyNext it) (fun r s₁ => match r with
      | none => R (.ok .next) s₁
      | some v => wpAny (model prog w) A (letOwnedTupleGo target it v) (fun _ s₁' => wpAny (model prog w) A (assign target env v) (fun _ s₂ =>
          wpAny (model prog w) A (forIn ifs true fun c r => if r = true then do let ok ← isTrue c env (eval c env); pure (ForInStep.yield ok) else pure (ForInStep.yield r)) (fun ok s₃ =>
            if ok = true then wpAny (model prog w) A (eval elt env) (fun x s₄ =>
              wpAny (model prog w) A (call (.builtin "list.append") [acc,x]) (fun _ s₅ => ∃ m,m < n ∧ I m s₅) (notedBy (model prog w) A env fun e s' => R (.error e) s') s₄) (notedBy (model prog w) A env fun e s' => R (.error e) s') s₃
            else ∃ m,m < n ∧ I m s₃) (notedBy (model prog w) A env fun e s' => R (.error e) s') s₂) (notedBy (model prog w) A env fun e s' => R (.error e) s') s₁') (notedBy (model prog w) A env fun e s' => R (.error e) s') s₁) (notedBy (model prog w) A env fun e s' => R (.error e) s') s)
    (n : Nat) (h : I n s) :
    codeAny (model prog w) A (.compLoop (.ListComp elt [⟨target,iter,ifs,0⟩] scope pos) 0 it acc env) R s := by
  refine codeAny_loop rfl I (fun n s hI => ?_) n h
  show wpAny _ A ((compTurn (.ListComp elt [⟨target,iter,ifs,0⟩] scope pos) 0 it acc env).onRaise (fun x => do noteFrame x env; theTreesLotGoes x)) _ _ s
  refine wpAny_noted ?_
  rw [compTurn_list]
  refine wpAny_bind (wpAny_standAt (wpAny_bind (wpAny_mono (turn n s hI) (fun r s₁ h₁ => ?_) fun _ _ h' => h')))
  cases r with
  | none => exact wpAny_pure h₁
  | some v =>
    refine wpAny_bind (wpAny_mono h₁ (fun _ s₁' h₁' => ?_) fun _ _ h' => h')
    refine wpAny_bind (wpAny_mono h₁' (fun _ s₂ h₂ => wpAny_bind (wpAny_mono h₂ (fun ok s₃ h₃ => ?_) fun _ _ h' => h')) fun _ _ h' => h')
    cases ok with
    | false => exact wpAny_pure ⟨rfl,h₃⟩
    | true =>
      exact wpAny_bind (wpAny_bind (wpAny_mono h₃ (fun x s₄ h₄ => wpAny_bind (wpAny_mono h₄ (fun _ s₅ h₅ => wpAny_pure (wpAny_pure ⟨rfl,h₅⟩)) fun _ _ h' => h')) fun _ _ h' => h'))

end
end Mine

set_option autoImplicit false
set_option maxRecDepth 100000
namespace Mine
open PySem PySem.W PySem.Calls PyProof.Rows

section
variable {c : Cx} {f : Fn} {ℓ : Locs} {σ σ' σ'' : Store} {h h' h₀ h'' : Heap} {p : Pl} {wr : List Addr}

theorem Here.weak {ℓ' : Locs} (H : Here c f ℓ' σ p h) (k : ∀ x v,ℓ x = some v → ℓ' x = some v) : Here c f ℓ σ p h :=
  ⟨H.good,H.isFn,let ⟨m,n,r⟩ := H.ns; ⟨m,n,fun x v e hk => r x v (k x v e) hk⟩,fun x v e hk => H.cell x v (k x v e) hk,H.cells,H.inj,H.has,H.off,H.top⟩

structure Two (c : Cx) (f : Fn) (ℓ : Locs) (p : Pl) (σ₀ : Store) (h₀ : Heap) (wr : List Addr) (σ : Store) (h : Heap) : Prop where
  H : Here c f ℓ σ p h
  S : Step σ₀ σ (Own f p) h₀ h
  wn : ∀ b ∈ wr,σ b = none

theorem Two.adv {fC : Fn} {pC : Pl} {ℓC ℓb : Locs} {σ₀ σa σb : Store} {ha hb : Heap} (T : Two c f ℓ p σ₀ h₀ wr σa ha) (HC : Here c fC ℓC σa pC ha) (HC' : Here c fC ℓb σb pC hb) (s : Step σa σb (Own fC pC) ha hb)
    (hC : ∀ a,Own fC pC a → a = pC.L) (nl : pC.L ≠ p.L) (nc : ∀ x,p.cells.lookup x ≠ some pC.L) (n0 : h₀.get? pC.L = none) (al : ∀ b ∈ wr,ha.get? b ≠ none) : Two c f ℓ p σ₀ h₀ wr σb hb where
  H := T.H.stepO s (s.tk HC) HC'.good (by
    rintro a (rfl | ⟨x,hx⟩) o
    · exact nl (hC _ o).symm
    · exact nc x ((hC _ o) ▸ hx))
  S := Step.trans2 (fun _ o => T.H.own_alive o) T.S s fun a o e q => by have := hC a q; subst this; rw [e] at n0; cases n0
  wn := fun b m => by
    cases z : σb b with
    | none => rfl
    | some _ => exact absurd (s.fresh b (T.wn b m) (by rw [z]; simp)) (al b m)

theorem comp_core {elt t iter : Expr} {ifs : List Expr} {scope : Scope} {pos pos' : Pos} {use : Option (Value → Sem Unit)} {Φ : Addr → Store → Prop} (hf : f.hf = true) (K : CompOk f scope)
    (q : Itr c f ℓ σ iter t fun vs Req σ₁ => ∃ g : AV → Option AV,vs.length ≤ 1000 ∧ (∀ σ',σ₁.le σ' → Req σ') ∧ (∀ v ∈ vs,∀ σ',σ₁.le σ' → CompTurn c (f.comp scope) (ℓ.comp f scope) t elt ifs g v σ') ∧
      ∀ D,σ₁ D = none → Φ D (σ₁.set D (.list (vs.filterMap g))))
    (hs : ∀ env x,foldedSetIterable iter env x = pure x) {A : Around} {s : Shared} {Q : Value → Shared → Prop} {E : Value → Shared → Prop} (ok : c.Ok) (rm : Room c f.d f.hf A) (H : Here c f ℓ σ p s.heap)
    (k : ∀ D σ' C h' tk m,Φ D σ' → Here c f ℓ σ' p h' → Step σ σ' (Own f p) s.heap h' → h'.Ns C m → σ' C = none → c.h₀.get? C = none → C ≠ p.L → (∀ x,p.cells.lookup x ≠ some C) → s.heap.get? C = none →
      compPost (model c.prog c.w) A E use Q (.ref D) C (.ok .next) { s with heap := h',toks := tk }) :
    wpAny (model c.prog c.w) A (comprehension (.ListComp elt [⟨t,iter,ifs,0⟩] scope pos) scope (f.env p) pos' (newList []) false (eval iter (f.env p)) use) Q E s := by
  have hh := rm.hand hf
  have hcells : ∀ n,(n,NameKind.free) ∈ scope.names → p.cells.lookup n = some ((p.cells.lookup n).getD 0) := fun n hn => by
    obtain ⟨a,ha⟩ := H.has n (K.free _ hn rfl)
    rw [ha]; rfl
  refine wpAny_comprehension_free (cl := clOf (fun n => (p.cells.lookup n).getD 0) scope.names []) rfl (hs _) (closureFor_cells _ hcells) K.kind K.names ?_
  refine q A p s _ E ok rm hh H fun I wr St vs Req σ₁ h₁ t₁ ⟨g,hz,hreq,hturn,hend⟩ W st₀ H₁ s₁ hwr => ?_
  have al₁ : ∀ b ∈ wr,h₁.get? b ≠ none := fun b m => by obtain ⟨o,_,e,_⟩ := W.cls _ _ st₀ b m; rw [e]; simp
  have apart : ∀ b ∈ wr,b ≠ p.L ∧ ∀ x,p.cells.lookup x ≠ some b := fun b m => H.apart (hwr b m).1
  have off₀ : ∀ b ∈ wr,c.h₀.get? b = none := fun b m => H.good.off₀ (hwr b m).1
  have none₀ : ∀ b ∈ wr,s.heap.get? b = none := fun b m => (hwr b m).1
  refine wpAny_newObj_type ?_ (by size_fits)
  -- the list
  have H₂ : Here c f ℓ (σ₁.set h₁.objs.size (.list [])) p (h₁.push (listObj #[] 0)) := H₁.alloc (.list .nil)
  have s₂ := s₁.trans H₁ (.ofC (Step.alloc (σ := σ₁) (h := h₁) (o := .list []) (oc := listObj #[] 0)))
  have off₁ := H₁.good.size_off
  have old₁ : ∀ b,h₁.get? b ≠ none → b < h₁.objs.size := fun b e => by
    cases z : h₁.get? b with
    | none => exact absurd z e
    | some o => exact Heap.lt_size z
  have wn₂ : ∀ b ∈ wr,(σ₁.set h₁.objs.size (.list [])) b = none := fun b m => by
    rw [Store.set_ne (Nat.ne_of_lt (old₁ b (al₁ b m)))]; exact (hwr b m).2
  have fresh : ∀ a,h₁.objs.size ≤ a → s.heap.get? a = none := fun a ha => by
    cases e : s.heap.get? a with
    | none => rfl
    | some o =>
      have e' : h₁.get? a = none := by
        cases z : h₁.get? a with
        | none => rfl
        | some o => exact absurd (Heap.lt_size z) (Nat.not_lt.mpr ha)
      by_cases ob : Own f p a
      · exact absurd e' (H₁.own_alive ob)
      · cases z : σ a with
        | none => exact absurd e' (s₁.keep a o e z ob).alive
        | some z' =>
          cases z₁ : σ₁ a with
          | none => exact absurd z₁ (s₁.stay a (by rw [z]; simp))
          | some o₁ => obtain ⟨oc,e₁,_⟩ := H₁.good.obj a o₁ z₁; rw [e₁] at e'; cases e'
  refine wpAny_newFunctionEnv K.cell (by intro y hy; simp at hy) (fun h₃ hns hsb => ?_) K.kind
  dsimp only at hns hsb
  show codeAny _ A (.compStart _ 0 (.ref I) (.ref h₁.objs.size) ((f.comp scope).env ⟨(h₁.push (listObj #[] 0)).objs.size,clOf (fun n => (p.cells.lookup n).getD 0) scope.names [],p.fr⟩)) _ _
  have sz : (h₁.push (listObj #[] 0)).objs.size = h₁.objs.size + 1 := Heap.size_push _ _
  generalize hC : (h₁.push (listObj #[] 0)).objs.size = C at hns hsb sz ⊢
  have kp₃ : ∀ b o,(h₁.push (listObj #[] 0)).get? b = some o → h₃.get? b = some o := fun b o e =>
    hsb.extBut b o (by have := Heap.lt_size e; rw [hC] at this; exact Nat.ne_of_lt this) (Heap.get?_push_of_some _ e)
  have H₃ := H₂.ext kp₃
  have s₃ := s₂.trans H₂ (.ext kp₃)
  have nC : s.heap.get? C = none := fresh C (by omega)
  have apC := H.apart nC
  have C₀ : c.h₀.get? C = none := H.good.off₀ nC
  have C₂ : (σ₁.set h₁.objs.size (.list [])) C = none := by
    refine H₂.good.off ?_
    cases z : (h₁.push (listObj #[] 0)).get? C with
    | none => rfl
    | some o => exact absurd (Heap.lt_size z) (by rw [hC]; exact Nat.lt_irrefl _)
  generalize hcl : clOf (fun n => (p.cells.lookup n).getD 0) scope.names [] = cl
  have clP : ∀ x a,cl.lookup x = some a → p.cells.lookup x = some a ∧ (x,NameKind.free) ∈ scope.names := fun x a e => by
    have := Yy e
    rw [← hcl] at this
    rcases clOf_mem this with h | ⟨e,h⟩
    · cases h
    · exact ⟨by rw [e]; exact hcells x h,h⟩
  have HC₃ : Here c (f.comp scope) (ℓ.comp f scope) (σ₁.set h₁.objs.size (.list [])) ⟨C,cl,p.fr⟩ h₃ := by
    refine ⟨H₃.good,K.kind,⟨_,hns,fun x v e hk => ?_⟩,fun x v e hk => ?_,fun x a e => H₃.cells x a (clP x a e).1,fun x y a e e' => H₃.inj x y a (clP x a e).1 (clP y a e').1,fun x e => ?_,?_,fun h => by cases h⟩
    · unfold Locs.comp at e
      rw [if_neg (by rw [hk]; simp)] at e; cases e
    · unfold Locs.comp at e
      rw [if_pos hk] at e
      have fr := comp_kind K hk
      obtain ⟨a,v',e1,ic,vr⟩ := H₃.cell x v e (.inl (K.free _ fr rfl))
      refine ⟨a,v',?_,ic,vr⟩
      obtain ⟨b,hb⟩ := Uc (l := cl) (n := x) (a := (p.cells.lookup x).getD 0) (by rw [← hcl]; exact clOf_has (.inr fr))
      show cl.lookup x = some a
      rw [hb]
      have := (clP x b hb).1
      rw [e1] at this; cases this; rfl
    · have fr := comp_kind K (.inl e)
      obtain ⟨b,hb⟩ := Uc (l := cl) (n := x) (a := (p.cells.lookup x).getD 0) (by rw [← hcl]; exact clOf_has (.inr fr))
      exact ⟨b,hb⟩
    · rintro a (rfl | ⟨x,hx⟩)
      · exact ⟨C₂,C₀⟩
      · exact H₃.off a (.inr ⟨x,(clP x a hx).1⟩)
  have ownC : ∀ a,Own (f.comp scope) ⟨C,cl,p.fr⟩ a → a = C := by
    rintro a (rfl | ⟨x,⟨e,_⟩,_⟩)
    · rfl
    · cases e
  have wC : ∀ b ∈ wr,b ≠ C := fun b m => Nat.ne_of_lt (by rw [sz]; exact Nat.lt_succ_of_lt (old₁ b (al₁ b m)))
  have st₃ : St 0 h₃ := W.frame _ _ _ st₀ (fun b m o e => kp₃ b o (Heap.get?_push_of_some _ e)) fun a xs e => kp₃ a _ (Heap.get?_push_of_some _ e)
  have loop : ∀ tk,codeAny (model c.prog c.w) A (.compLoop (.ListComp elt [⟨t,iter,ifs,0⟩] scope pos) 0 (.ref I) (.ref h₁.objs.size) ((f.comp scope).env ⟨C,cl,p.fr⟩)) (compPost (model c.prog c.w) A E use Q (.ref h₁.objs.size) C) { s with heap := h₃,toks := tk } := by
    intro tk
    refine codeAny_compLoop_go (fun n s' => ∃ i σi h' tk,s' = { s with heap := h',toks := tk } ∧ σi = σ₁.set h₁.objs.size (.list ((vs.take i).filterMap g)) ∧ St i h' ∧ Two c f ℓ p σ s.heap wr σi h' ∧ Here c (f.comp scope) (ℓ.comp f scope) σi ⟨C,cl,p.fr⟩ h' ∧
      i ≤ vs.length ∧ n = vs.length + 1 - i) ?_ (vs.length + 1) ⟨0,_,h₃,tk,rfl,by simp,st₃,⟨H₃,s₃,wn₂⟩,HC₃,Nat.zero_le _,rfl⟩
    rintro n s' ⟨i,σi,h₄,t₄,rfl,hσ,st,T,HC,le,rfl⟩
    have leσ : σ₁.le σi := hσ ▸ Store.le_set off₁
    have hids : Hids c σi h₄ wr := fun b m => ⟨T.wn b m,off₀ b m,H.good.notFrame (none₀ b m),nt_of (W.cls _ _ st b m)⟩
    by_cases lt : i < vs.length
    · refine W.turn A _ σi i vs[i] _ _ _ _ hh ok T.H.good (hreq _ leσ) st (List.getElem?_eq_getElem lt) fun x h₅ t₅ vr st₅ k₅ => ?_
      have T₅ : Two c f ℓ p σ s.heap wr σi h₅ := ⟨T.H.hidL hids k₅ apart,T.S.hidL k₅ none₀,T.wn⟩
      have HC₅ := HC.hidL hids k₅ fun b m => ⟨wC b m,fun x e => (apart b m).2 x (clP x b e).1⟩
      have al₅ : ∀ b ∈ wr,h₅.get? b ≠ none := fun b m => by obtain ⟨o,_,e,_⟩ := W.cls _ _ st₅ b m; rw [e]; simp
      have ownw : ∀ b ∈ wr,¬ Own (f.comp scope) ⟨C,cl,p.fr⟩ b := fun b m o => wC b m (ownC b o)
      refine hturn vs[i] (List.getElem_mem lt) σi leσ A ⟨C,cl,p.fr⟩ { s with heap := h₅,toks := t₅ } x _ _ ok rm HC₅ vr fun ℓ₆ σ₆ h₆ t₆ ⟨e₆,w₆,q₆⟩ HC₆ s₆ => ?_
      subst e₆
      have T₆ := T₅.adv HC₅ HC₆ s₆ ownC apC.1 apC.2 nC al₅
      have st₆ := W.frame _ _ h₆ st₅ (fun b m o e => Kp.fields (W.cls _ _ st₅ b m) e (s₆.keep b o e (T.wn b m) (ownw b m))) (s₆.tk HC₅)
      have al₆ : ∀ b ∈ wr,h₆.get? b ≠ none := fun b m => by obtain ⟨o,_,e,_⟩ := W.cls _ _ st₆ b m; rw [e]; simp
      refine tests_run q₆ A ⟨C,cl,p.fr⟩ { s with heap := h₆,toks := t₆ } [] _ _ ok rm HC₆ .nil fun b b' σ₇ h₇ t₇ ⟨e₇,q₇⟩ HC₇ s₇ vb => ?_
      subst e₇ vb
      have T₇ := T₆.adv HC₆ HC₇ s₇ ownC apC.1 apC.2 nC al₆
      have st₇ := W.frame _ _ h₇ st₆ (fun b m o e => Kp.fields (W.cls _ _ st₆ b m) e (s₇.keep b o e (T.wn b m) (ownw b m))) (s₇.tk HC₆)
      have al₇ : ∀ b ∈ wr,h₇.get? b ≠ none := fun b m => by obtain ⟨o,_,e,_⟩ := W.cls _ _ st₇ b m; rw [e]; simp
      cases b with
      | false =>
        simp only [Bool.false_eq_true,if_false] at q₇ ⊢
        refine ⟨vs.length + 1 - (i + 1),by omega,i + 1,σ₇,h₇,t₇,rfl,?_,st₇,T₇,HC₇.weak w₆,by omega,rfl⟩
        rw [hσ,List.take_add_one,List.getElem?_eq_getElem lt,List.filterMap_append]
        simp [q₇]
      | true =>
        simp only [if_true] at q₇ ⊢
        refine q₇ A ⟨C,cl,p.fr⟩ { s with heap := h₇,toks := t₇ } [] _ _ ok rm HC₇ .nil fun y y' σ₈ h₈ t₈ ⟨e₈,q₈⟩ HC₈ s₈ vy => ?_
        subst e₈
        have T₈ := T₇.adv HC₇ HC₈ s₈ ownC apC.1 apC.2 nC al₇
        have st₈ := W.frame _ _ h₈ st₇ (fun b m o e => Kp.fields (W.cls _ _ st₇ b m) e (s₈.keep b o e (T.wn b m) (ownw b m))) (s₈.tk HC₇)
        have al₈ : ∀ b ∈ wr,h₈.get? b ≠ none := fun b m => by obtain ⟨o,_,e,_⟩ := W.cls _ _ st₈ b m; rw [e]; simp
        have hD : σ₈ h₁.objs.size = some (.list ((vs.take i).filterMap g)) := by rw [hσ]; exact Store.set_same ..
        obtain ⟨xs,nn,eD,rD⟩ := Qg (.inl hD) T₈.H.good
        have len := rD.size
        have lenb : ((vs.take i).filterMap g).length ≤ vs.length := Nat.le_trans (List.length_filterMap_le _ _) (by rw [List.length_take]; omega)
        refine wpAny_list_append_plain (hsz := by rw [sizeLine_eq]; omega) ⟨_,eD⟩ fun h₉ hl₉ hs₉ => ?_
        obtain ⟨n₉,e₉⟩ := hl₉
        have orD : OR c.prog c.w h₉ (.list ((vs.take i).filterMap g ++ [y])) (listObj (xs.push y') n₉) := by
          refine .list ?_
          have tk := TK.upd T₈.H.good hD hs₉
          rw [Array.toList_push]
          exact (rD.mono tk).append (.one (vy.mono tk))
        have HC₉ := HC₈.upd hD hs₉ e₉ orD
        have T₉ := T₈.adv HC₈ HC₉ (.ofC (.upd hD hs₉)) ownC apC.1 apC.2 nC al₈
        refine ⟨vs.length + 1 - (i + 1),by omega,i + 1,_,h₉,t₈,rfl,?_,W.frame _ _ h₉ st₈ (fun b m o e => (hs₉.2 b (by rintro rfl; have := T.wn _ m; rw [hD] at this; cases this)).trans e) (TK.upd T₈.H.good hD hs₉),T₉,HC₉.weak w₆,by omega,rfl⟩
        rw [hσ,List.take_add_one,List.getElem?_eq_getElem lt,List.filterMap_append]
        funext a
        unfold Store.set
        split <;> simp [q₈]
    · have e : i = vs.length := by omega
      subst e
      refine wpAny_mono (W.done A _ σi (fun s' => compPost (model c.prog c.w) A E use Q (.ref h₁.objs.size) C (.ok .next) s') _ hh ok T.H.good (hreq _ leσ) st fun h₅ t₅ k₅ => ?_) (fun r s' hr => ?_) fun _ _ e => e
      · obtain ⟨m,hm,_⟩ := HC.ns
        have nCw : C ∉ wr := fun m => wC C m rfl
        refine k _ σi C h₅ t₅ m ?_ (T.H.hidL hids k₅ apart) (T.S.hidL k₅ none₀) (hm.at' fun o e => k₅ _ o nCw e) (HC.off C (.inl rfl)).1 C₀ apC.1 apC.2 nC
        rw [hσ,List.take_length]
        exact hend _ off₁
      · obtain ⟨rfl,hr⟩ := hr; exact hr
  exact codeAny_compStart_list (loop _) (W.self A _ 0 _ _ st₃ (loop _))

theorem Yz {elt t iter : Expr} {ifs : List Expr} {scope : Scope} {pos : Pos} {Φ : AV → Store → Prop} (hf : f.hf = true) (K : CompOk f scope)
    (q : Itr c f ℓ σ iter t fun vs Req σ₁ => ∃ g : AV → Option AV,vs.length ≤ 1000 ∧ (∀ σ',σ₁.le σ' → Req σ') ∧ (∀ v ∈ vs,∀ σ',σ₁.le σ' → CompTurn c (f.comp scope) (ℓ.comp f scope) t elt ifs g v σ') ∧
      ∀ D,σ₁ D = none → Φ (.ref D) (σ₁.set D (.list (vs.filterMap g))))
    (hs : ∀ env x,foldedSetIterable iter env x = pure x := by intro _ _; rfl) : Ev c f ℓ σ (.ListComp elt [⟨t,iter,ifs,0⟩] scope pos) Φ := by
  intro A p s xs Q E ok rm H _ k
  show wpAny _ A (eval (.ListComp elt [⟨t,iter,ifs,0⟩] scope pos) (f.env p)) Q E s
  rw [eval_ListComp]
  refine comp_core (use := none) (Φ := fun D σ' => Φ (.ref D) σ') hf K q hs ok rm H fun D σ' C h' tk m φ H' s' hn hC C₀ nl nc n0 => ⟨m,hn,fun h'' hs'' => ?_⟩
  have hw : Hids c σ' h' [C] := fun b mb => by
    rw [List.mem_singleton] at mb; subst mb
    obtain ⟨o,es,ep,ho,hd,_⟩ := hn
    exact ⟨hC,C₀,H.good.notFrame n0,o,ho,fun xs e => by rw [e] at hd; cases hd⟩
  have kb : KeepBut [C] h' h'' := fun b o nb e => (hs''.2 b fun q => nb (List.mem_singleton.mpr q)).trans e
  exact k (.ref D) (.ref D) σ' h'' tk φ (H'.hidL hw kb fun b mb => by rw [List.mem_singleton] at mb; subst mb; exact ⟨nl,nc⟩) (s'.hidL kb fun b mb => by rw [List.mem_singleton] at mb; subst mb; exact n0) (.ref _)

end
end Mine

set_option autoImplicit false
set_option maxRecDepth 100000
namespace Mine
open PySem PySem.W PySem.Calls PyProof.Rows

section
variable {c : Cx} {f : Fn} {ℓ : Locs} {σ σ' σ'' : Store} {h h' h₀ h'' : Heap} {p : Pl} {wr : List Addr} {d : Nat} {hf : Bool}

theorem cok {b : String} : CalleeOk c (.builtin b) := .inr fun _ e => by cases e
theorem Q8 {b : String} : CalleeOk c (.type b) := .inr fun _ e => by cases e

/-- an object of the heap's enters the store -/
theorem Good.enter {a : Addr} {o : AO} {oc : Obj} (g : Good c σ h) (e : h.get? a = some oc) (r : OR c.prog c.w h o oc) (n0 : c.h₀.get? a = none) (low : a ≠ sysModules) (nf : ∀ env ∈ c.stk,env.frame ≠ some a) : Good c (σ.set a o) h := by
  refine ⟨g.keep,fun b x q => ?_,fun b q => ?_,g.stat,(Store.set_ne low.symm).trans g.low,fun env he => ?_⟩
  · by_cases eb : b = a
    · subst eb; rw [Store.set_same] at q; cases q; exact ⟨oc,e,r⟩
    · rw [Store.set_ne eb] at q; exact g.obj b x q
  · by_cases eb : b = a
    · subst eb; exact n0
    · rw [Store.set_ne eb] at q; exact g.new b q
  · obtain ⟨k,L,m,ef,ns,h0,s0⟩ := g.fr env he
    exact ⟨k,L,m,ef,ns,h0,(Store.set_ne (by rintro rfl; exact nf env he ef)).trans s0⟩
theorem Step.enter {O : Addr → Prop} {a : Addr} {o : AO} (kp : ∀ b x,h.get? b = some x → h'.get? b = some x) (n : h.get? a = none) : Step σ (σ.set a o) O h h' := by
  refine ⟨fun b x e _ _ => .same (kp b x e),fun b q q' => ?_,fun b q => Store.set_some q⟩
  by_cases eb : b = a
  · subst eb; exact n
  · rw [Store.set_ne eb] at q'; exact absurd q q'
theorem Yg (h : Heap) : h.get? h.objs.size = none := by
  cases z : h.get? h.objs.size with
  | none => rfl
  | some o => exact absurd (Heap.lt_size z) (Nat.lt_irrefl _)

/-! ## methods of builtin objects -/
theorem Qd {l : Addr} {vs : List AV} {name : Str} {id : String} (il : ListIs c σ l vs) (slot : Slot "list" name id) (hty : typeOf (.builtin id) = pure (.type "method_descriptor")) : MethOf c σ (.ref l) name (.builtin id) := by
  intro A s x pl Q E ok g vr k
  cases vr
  obtain ⟨xs,n,e,r⟩ := Qg il g
  exact getMethod_builtin ⟨_,e,rfl⟩ PySem.F.plainAttrs_list slot hty (fun a ea => by cases ea; exact ⟨_,e,rfl⟩) k
theorem meth_dict {l : Addr} {es : Es} {name : Str} {id : String} (i : σ l = some (.dict es)) (slot : Slot "dict" name id) (hty : typeOf (.builtin id) = pure (.type "method_descriptor")) : MethOf c σ (.ref l) name (.builtin id) := by
  intro A s x pl Q E ok g vr k
  cases vr
  obtain ⟨kvs,hd,r,low⟩ := Q3 i g
  exact getMethod_builtin hd.typeIs PySem.F.plainAttrs_dict slot hty hd.mapOf.noDict k
theorem meth_str {y : Str} {name : Str} {id : String} (slot : Slot "str" name id) (hty : typeOf (.builtin id) = pure (.type "method_descriptor")) : MethOf c σ (.str y) name (.builtin id) := by
  intro A s x pl Q E ok g vr k
  cases vr
  exact getMethod_builtin (typeIs_str ..) PySem.F.plainAttrs_str slot hty (fun a ea => by cases ea) k

/-! ## helpers: a builtin is called -/
theorem cw1 {g : Value} {a : AV} {Φ : AV → Store → Prop}
    (q : ∀ (A : Around) (s : Shared) (x : Value) (Q : Value → Shared → Prop) (E : Value → Shared → Prop),c.Ok → Room c d hf A → Good c σ s.heap → VR s.heap a x →
      (∀ v y σ' h' tk,Φ v σ' → Good c σ' h' → StepC σ σ' s.heap h' → VR h' v y → Q y { s with heap := h',toks := tk }) → wpAny (model c.prog c.w) A (call g [x]) Q E s) : Cw c d hf σ (.val g) [a] [] Φ := by
  intro A s g' xs ks Q E ok rm G vg va vk k
  cases vg; cases vk
  cases va with
  | cons va r => cases r; exact q A s _ Q E ok rm G va k
theorem cw2 {g : Value} {a b : AV} {Φ : AV → Store → Prop}
    (q : ∀ (A : Around) (s : Shared) (x y : Value) (Q : Value → Shared → Prop) (E : Value → Shared → Prop),c.Ok → Room c d hf A → Good c σ s.heap → VR s.heap a x → VR s.heap b y →
      (∀ v y σ' h' tk,Φ v σ' → Good c σ' h' → StepC σ σ' s.heap h' → VR h' v y → Q y { s with heap := h',toks := tk }) → wpAny (model c.prog c.w) A (call g [x,y]) Q E s) : Cw c d hf σ (.val g) [a,b] [] Φ := by
  intro A s g' xs ks Q E ok rm G vg va vk k
  cases vg; cases vk
  cases va with
  | cons va r => cases r with
    | cons vb r => cases r; exact q A s _ _ Q E ok rm G va vb k
theorem cw3 {g : Value} {a b e : AV} {Φ : AV → Store → Prop}
    (q : ∀ (A : Around) (s : Shared) (x y z : Value) (Q : Value → Shared → Prop) (E : Value → Shared → Prop),c.Ok → Room c d hf A → Good c σ s.heap → VR s.heap a x → VR s.heap b y → VR s.heap e z →
      (∀ v y σ' h' tk,Φ v σ' → Good c σ' h' → StepC σ σ' s.heap h' → VR h' v y → Q y { s with heap := h',toks := tk }) → wpAny (model c.prog c.w) A (call g [x,y,z]) Q E s) : Cw c d hf σ (.val g) [a,b,e] [] Φ := by
  intro A s g' xs ks Q E ok rm G vg va vk k
  cases vg; cases vk
  cases va with
  | cons va r => cases r with
    | cons vb r => cases r with
      | cons vc r => cases r; exact q A s _ _ _ Q E ok rm G va vb vc k

theorem Qe {l : Addr} {vs : List AV} {v : AV} {Φ : AV → Store → Prop} (il : σ l = some (.list vs)) (hz : vs.length ≤ 1000) (φ : Φ .none (σ.set l (.list (vs ++ [v])))) : Cw c d hf σ (.val (.builtin "list.append")) [.ref l,v] [] Φ :=
  cw2 fun A s x y Q E ok rm g va vb k => by
    cases va
    obtain ⟨xs,n,e,r⟩ := Qg (.inl il) g
    refine wpAny_list_append_plain (hsz := by rw [sizeLine_eq]; have := r.size; omega) ⟨_,e⟩ fun h' hl hs => ?_
    obtain ⟨n',e'⟩ := hl
    have tk := TK.upd g il hs
    have orD : OR c.prog c.w h' (.list (vs ++ [v])) (listObj (xs.push y) n') := .list (by rw [Array.toList_push]; exact (r.mono tk).append (.one (vb.mono tk)))
    exact k .none .none _ h' s.toks φ (g.upd il hs e' orD) (.upd il hs) .none
theorem cw_get {D : Addr} {es : Es} {ky : Str} {Φ : AV → Store → Prop} (i : σ D = some (.dict es)) (φ : Φ ((es.get ky).getD .none) σ) : Cw c d hf σ (.val (.builtin "dict.get")) [.ref D,.str ky,.none] [] Φ :=
  cw3 fun A s x y z Q E ok rm g va vb vc k => by
    cases va; cases vb; cases vc
    obtain ⟨kvs,hd,r,low⟩ := Q3 i g
    refine call_meetsIn PySem.F.slot_dict_get hd.typeIs PySem.F.entry_dict_get (PySem.F.args_dict_get_3 _ _ _) (meets_dict_get_default (PySem.strKind c.prog c.w) D (strKind_is c.prog c.w ky _) low .none) ⟨_,hd.mapOf,?_⟩
    refine k _ _ σ s.heap _ φ g .refl ?_
    cases e : es.get ky with
    | none => rw [r.get_none e]; exact .none
    | some v => obtain ⟨x,hx,vr⟩ := r.get e; rw [hx]; exact vr
theorem cw_len_list {l : Addr} {vs : List AV} {Φ : AV → Store → Prop} (il : ListIs c σ l vs) (hz : vs.length ≤ 1000) (φ : Φ (.int vs.length) σ) : Cw c d hf σ (.val (.builtin "len")) [.ref l] [] Φ :=
  cw1 fun A s x Q E ok rm g va k => by
    cases va
    obtain ⟨xs,n,e,r⟩ := Qg il g
    have len := r.size
    refine call_len_list (items := xs) ⟨_,e,rfl,n,rfl⟩ (by omega) ?_
    exact k (.int vs.length) _ σ s.heap _ φ g .refl (by rw [len]; exact .int _ _)
theorem cw_isi_str {y : Str} {Φ : AV → Store → Prop} (φ : Φ (.bool true) σ) : Cw c d hf σ (.val (.builtin "isinstance")) [.str y,.val (.type "str")] [] Φ :=
  cw2 fun A s x z Q E ok rm g va vb k => by
    cases va; cases vb
    exact IsiPair.str_str (k _ _ σ s.heap s.toks φ g .refl (.bool true))
theorem cw_list {l : Addr} {vs : List AV} {Φ : AV → Store → Prop} (il : ListIs c σ l vs) (hz : vs.length ≤ 1000) (φ : ∀ a,σ a = none → Φ (.ref a) (σ.set a (.list vs))) : Cw c d hf σ (.val (.type "list")) [.ref l] [] Φ :=
  cw1 fun A s x Q E ok rm g va k => by
    cases va
    obtain ⟨xs,n,e,r⟩ := Qg il g
    refine call_list_seq l (.inl rfl) e rfl rfl (fun h' c' kp e' => ?_) (by rw [sizeLine_eq]; have := r.size; omega)
    have G' := g.ext kp
    have tk : TK s.heap h' := fun a ys e => kp _ _ e
    exact k _ _ _ h' s.toks (φ _ g.size_off) (G'.enter e' (.list (r.mono tk)) g.base_size g.size_low (g.notFrame (Yg _))) (Step.enter kp (Yg _)) (.ref _)
theorem cw_list_tup {vs : List AV} {Φ : AV → Store → Prop} (hz : vs.length ≤ 1000) (φ : ∀ a,σ a = none → Φ (.ref a) (σ.set a (.list vs))) : Cw c d hf σ (.val (.type "list")) [.tup vs] [] Φ :=
  cw1 fun A s x Q E ok rm g va k => by
    cases va with
    | tup e r =>
      refine call_list_seq _ (.inr rfl) e rfl rfl (fun h' c' kp e' => ?_) (by rw [sizeLine_eq]; have := r.size; omega)
      have G' := g.ext kp
      have tk : TK s.heap h' := fun a ys e => kp _ _ e
      exact k _ _ _ h' s.toks (φ _ g.size_off) (G'.enter e' (.list (r.mono tk)) g.base_size g.size_low (g.notFrame (Yg _))) (Step.enter kp (Yg _)) (.ref _)
theorem cw_tuple {l : Addr} {vs : List AV} {Φ : AV → Store → Prop} (il : ListIs c σ l vs) (hz : vs.length ≤ 1000) (φ : Φ (.tup vs) σ) : Cw c d hf σ (.val (.type "tuple")) [.ref l] [] Φ :=
  cw1 fun A s x Q E ok rm g va k => by
    cases va
    obtain ⟨xs,n,e,r⟩ := Qg il g
    refine call_tuple_list (items := xs) ⟨_,e,rfl,n,rfl⟩ (fun h' kp => ?_) (by rw [sizeLine_eq]; have := r.size; omega)
    have kp' : ∀ b o,s.heap.get? b = some o → (h'.push (tupObj xs)).get? b = some o := fun b o e => Heap.get?_push_of_some _ (kp b o e)
    exact k (.tup vs) _ σ _ s.toks φ (g.ext kp') (.ext kp') (.tup (Heap.get?_push_size _ rfl) (r.mono fun a ys e => kp' _ _ e))

/-! ## displays of dicts -/
theorem Qn {pos : Pos} {Φ : AV → Store → Prop} (φ : ∀ a,σ a = none → Φ (.ref a) (σ.set a (.dict []))) : Ev c f ℓ σ (.Dict [] [] pos) Φ := by
  intro A p s xs Q E ok rm H _ k
  refine wpAny_Dict_empty ?_
  have r : OR c.prog c.w (s.heap.push emptyDict) (.dict []) emptyDict := .dict (kvs := []) ⟨#[],0,⟨rfl,rfl,rfl⟩,rfl,fun _ he => by simp at he,Pairs.nil,List.nodup_nil⟩ .nil
  exact k _ _ _ _ s.toks (φ _ H.good.size_off) (H.alloc r) (.ofC .alloc) (.ref _)

/-! ## sums,slices -/
theorem op_add_list {l m : Addr} {vs ws : List AV} {Φ : AV → Store → Prop} (il : ListIs c σ l vs) (im : ListIs c σ m ws) (hz : vs.length + ws.length ≤ 1000) (φ : ∀ a,σ a = none → Φ (.ref a) (σ.set a (.list (vs ++ ws)))) :
    Op c f ℓ σ [.ref l,.ref m] (ap2 (binaryOp .Add)) Φ := by
  intro A p s xs Q E ok rm H va k
  cases va with
  | cons va r => cases r with
    | cons vb r =>
      cases r; cases va; cases vb
      obtain ⟨xs,n,e,r⟩ := Qg il H.good
      obtain ⟨ys,n2,e2,r2⟩ := Qg im H.good
      have l1 := r.size
      have l2 := r2.size
      refine concat_meets ⟨_,e,rfl⟩ ⟨_,e2,rfl⟩ PySem.noFill_list_add PySem.seq_list_add PySem.F.slot_list_add PySem.F.entry_list_add (PySem.F.args_list_add_2 _ _) (AutoSeq1.list___add___list_list_0 l xs n m ys n2 (by rw [sizeLine_eq]; omega)) ⟨e,e2,?_⟩
      have rr : OR c.prog c.w (s.heap.push (listObj (xs ++ ys) 0)) (.list (vs ++ ws)) (listObj (xs ++ ys) 0) := .list (by rw [Array.toList_append]; exact (r.append r2).mono (TK.push _))
      exact k _ _ _ _ s.toks (φ _ H.good.size_off) (H.alloc rr) (.ofC .alloc) (.ref _)
inductive Part : Option Expr → Option Int → Prop
  | none : Part none none
  | int (i : Int) (k : Nat) (pos : Pos) : Part (some (.Constant (.int i) k pos)) (some i)
theorem part_run {M : Model} {A : Around} {E : Value → Shared → Prop} {s : Shared} {env : Env} {e : Option Expr} {lo : Option Int} {Q : Value → Shared → Prop} (pt : Part e lo) (k : ∀ v tk,IsPart v lo → Q v { s with toks := tk }) : wpAny M A (evalPart e env) Q E s := by
  cases pt with
  | none => rw [evalPart_none]; exact wpAny_pure (k .none s.toks .none)
  | int i n pos => rw [evalPart_some]; exact wpAny_Constant_int (k _ _ (.int i _))
noncomputable def pick (vs : List AV) (lo hi : Option Int) : List AV := (vs.drop (lo.elim 0 (clipAt vs.length))).take (hi.elim vs.length (clipAt vs.length) - lo.elim 0 (clipAt vs.length))
theorem pick_of {vs : List AV} {xs : Array Value} {lo hi : Option Int} (r : VRs h vs xs.toList) : VRs h (pick vs lo hi) (slicePick xs lo hi none).toList := by
  rw [slicePick_plain]
  unfold pick
  rw [r.size]
  exact (r.drop _).take _
theorem ev_slice_list {e : Expr} {lower upper : Option Expr} {lo hi : Option Int} {spos pos : Pos} {Φ : AV → Store → Prop} (p1 : Part lower lo) (p2 : Part upper hi)
    (q : Ev c f ℓ σ e fun v σ₁ => ∃ l vs,v = .ref l ∧ ListIs c σ₁ l vs ∧ vs.length ≤ 1000 ∧ ∀ a,σ₁ a = none → Φ (.ref a) (σ₁.set a (.list (pick vs lo hi)))) : Ev c f ℓ σ (.Subscript e (.Slice lower upper none spos) pos) Φ := by
  intro A p s xs Q E ok rm H _ k
  refine Subscript_ (q A p s [] _ E ok rm H .nil fun v v' σ₁ h₁ t₁ q₁ H₁ s₁ vv => wpAny_Slice (part_run p1 fun vl t₂ pl => part_run p2 fun vu t₃ pu => ?_))
  obtain ⟨l,vs,rfl,il,hz,φ⟩ := q₁
  cases vv
  obtain ⟨ys,n,e,r⟩ := Qg il H₁.good
  rw [evalPart_none]
  refine wpAny_pure ?_
  have hl : (h₁.push { cls := .type "slice",data := .fields #[vl,vu,.none] }).IsList l ys := ⟨_,Heap.get?_push_of_some _ e,rfl,n,rfl⟩
  refine tail_any (ops := [.ref h₁.objs.size,.ref l]) (T := "list") hl.typeIs slot_list_getitem.lookup (wpAny_getItem_list_slice hl (Heap.IsSliceOf.new ..) pl pu .none (by simp) ?_ (by rw [sizeLine_eq]; have := r.size; omega)) rfl
  have H₂ := H₁.push { cls := .type "slice",data := .fields #[vl,vu,.none] }
  have rr : OR c.prog c.w ((h₁.push { cls := .type "slice",data := .fields #[vl,vu,.none] }).push (listObj (slicePick ys lo hi none) 0)) (.list (pick vs lo hi)) (listObj (slicePick ys lo hi none) 0) := .list ((pick_of r).mono ((TK.push _).trans (TK.push _)))
  have S₂ := s₁.trans H₁ (.ofC (Step.push (σ := σ₁) { cls := .type "slice",data := .fields #[vl,vu,.none] }))
  exact k _ _ _ _ _ (φ _ H₂.good.size_off) (H₂.alloc rr) (S₂.trans H₂ (.ofC .alloc)) (.ref _)
end
end Mine

set_option autoImplicit false
set_option maxRecDepth 100000
namespace Mine
open PySem PySem.W PySem.Calls PyProof.Rows

section
variable {c : Cx} {f : Fn} {ℓ : Locs} {σ σ' σ'' : Store} {h h' h₀ h'' : Heap} {p : Pl} {wr : List Addr} {d : Nat} {hf : Bool}

/-! ## data -/
mutual
inductive Dt (c : Cx) (σ : Store) : AV → PyData → Prop
  | none : Dt c σ .none .none
  | bool (b) : Dt c σ (.bool b) (.bool b)
  | int (i) : Dt c σ (.int i) (.int i)
  | str (x) : Dt c σ (.str x) (.str x)
  | list {l vs ds} : ListIs c σ l vs → DtAll c σ vs ds → Dt c σ (.ref l) (.list ds)
  | tup {vs ds} : DtAll c σ vs ds → Dt c σ (.tup vs) (.tuple ds)
inductive DtAll (c : Cx) (σ : Store) : List AV → List PyData → Prop
  | nil : DtAll c σ [] []
  | cons {v vs d ds} : Dt c σ v d → DtAll c σ vs ds → DtAll c σ (v :: vs) (d :: ds)
end
mutual
theorem Dt.reads {v : AV} {d : PyData} (g : Good c σ h) : Dt c σ v d → ∀ {x : Value},VR h v x → ∃ as,Reads h x d as
  | .none,_,r => by cases r; exact ⟨_,.none⟩
  | .bool b,_,r => by cases r; exact ⟨_,.bool b⟩
  | .int i,_,r => by cases r; exact ⟨_,.int i _⟩
  | .str x,_,r => by cases r; exact ⟨_,.str x _⟩
  | .list il ds,_,r => by
    cases r
    obtain ⟨xs,n,e,rr⟩ := Qg il g
    obtain ⟨as,q⟩ := DtAll.reads g ds rr
    exact ⟨_,.list e rfl rfl q⟩
  | .tup ds,_,r => by
    cases r with
    | tup e rr =>
      obtain ⟨as,q⟩ := DtAll.reads g ds rr
      exact ⟨_,.tuple e rfl rfl q⟩
theorem DtAll.reads {vs : List AV} {ds : List PyData} (g : Good c σ h) : DtAll c σ vs ds → ∀ {xs : List Value},VRs h vs xs → ∃ as,ReadsAll h xs ds as
  | .nil,_,r => by cases r; exact ⟨_,.nil⟩
  | .cons a b,_,r => by
    cases r with
    | cons u w =>
      obtain ⟨_,q1⟩ := a.reads g u
      obtain ⟨_,q2⟩ := b.reads g w
      exact ⟨_,.cons q1 q2⟩
end
theorem op_eq_data {a b : AV} {da db : PyData} {Φ : AV → Store → Prop} (ha : Dt c σ a da) (hb : Dt c σ b db) (sa : SeqAt.shaped da = true) (sb : SeqAt.shaped db = true) (φ : Φ (.bool (PyData.eqv da db)) σ) : Op c f ℓ σ [a,b] (ap2 (compareOp .Eq)) Φ :=
  Qc (fun A s x y Q E ok rm g va vb k => by
    obtain ⟨_,ra⟩ := ha.reads g va
    obtain ⟨_,rb⟩ := hb.reads g vb
    exact eq_dataH ra rb sa sb (by have := rm.units; show A.units + 64 < 9900; omega) (k _ s.toks (.bool _))) φ
theorem X6 {a b : AV} {da db : PyData} {Φ : AV → Store → Prop} (ha : Dt c σ a da) (hb : Dt c σ b db) (sa : SeqAt.shaped da = true) (sb : SeqAt.shaped db = true) (φ : Φ (.bool (!PyData.eqv da db)) σ) : Op c f ℓ σ [a,b] (ap2 (compareOp .NotEq)) Φ :=
  Qc (fun A s x y Q E ok rm g va vb k => by
    obtain ⟨_,ra⟩ := ha.reads g va
    obtain ⟨_,rb⟩ := hb.reads g vb
    exact ne_dataH ra rb sa sb (by have := rm.units; show A.units + 64 < 9900; omega) (k _ s.toks (.bool _))) φ

/-! ## lists of strs -/
noncomputable abbrev strsA (ss : List Str) : List AV := ss.map .str
theorem Qp : ∀ (ss : List Str),DtAll c σ (strsA ss) (ss.map PyData.str)
  | [] => .nil
  | x :: r => .cons (.str x) (Qp r)
theorem eqv_strs : ∀ ss ts : List Str,PyData.eqvAll (ss.map .str) (ts.map .str) = decide (ss = ts)
  | [],[] => by simp [PyData.eqvAll]
  | [],_ :: _ => by simp [PyData.eqvAll]
  | _ :: _,[] => by simp [PyData.eqvAll]
  | a :: r,b :: t => by
    simp only [List.map_cons,PyData.eqvAll,PyData.eqv,eqv_strs r t]
    by_cases h : a = b <;> by_cases h' : r = t <;> simp [h,h']
theorem Uh : ∀ {ss : List Str},(∀ x ∈ ss,PyData.strOk x = true) → PyData.canLayAll0 (ss.map .str) = true
  | [],_ => by simp [PyData.canLayAll0]
  | a :: r,h => by
    simp only [List.map_cons,PyData.canLayAll0,PyData.canLay0,Bool.and_eq_true]
    exact ⟨h a List.mem_cons_self,Uh fun x hx => h x (List.mem_cons_of_mem _ hx)⟩
theorem X7 : ∀ ss : List Str,PyData.depthAll (ss.map .str) = 0
  | [] => by simp [PyData.depthAll]
  | a :: r => by simp [PyData.depthAll,PyData.depth,X7 r]
theorem Q9 {ss : List Str} (h : ∀ x ∈ ss,PyData.strOk x = true) : SeqAt.shaped (.list (ss.map .str)) = true := by
  unfold SeqAt.shaped
  rw [Bool.and_eq_true]
  refine ⟨by simp only [PyData.canLay0]; exact Uh h,decide_eq_true ?_⟩
  simp only [PyData.depth,X7]; omega
theorem op_eq_strs {l m : Addr} {ss ts : List Str} {Φ : AV → Store → Prop} (il : ListIs c σ l (strsA ss)) (im : ListIs c σ m (strsA ts)) (hs : ∀ x ∈ ss,PyData.strOk x = true) (ht : ∀ x ∈ ts,PyData.strOk x = true) (φ : Φ (.bool (decide (ss = ts))) σ) :
    Op c f ℓ σ [.ref l,.ref m] (ap2 (compareOp .Eq)) Φ :=
  op_eq_data (.list il (Qp ss)) (.list im (Qp ts)) (Q9 hs) (Q9 ht) (by simp only [PyData.eqv]; rw [eqv_strs]; exact φ)
theorem Zq {l m : Addr} {ss ts : List Str} {Φ : AV → Store → Prop} (il : ListIs c σ l (strsA ss)) (im : ListIs c σ m (strsA ts)) (hs : ∀ x ∈ ss,PyData.strOk x = true) (ht : ∀ x ∈ ts,PyData.strOk x = true) (φ : Φ (.bool (!decide (ss = ts))) σ) :
    Op c f ℓ σ [.ref l,.ref m] (ap2 (compareOp .NotEq)) Φ :=
  X6 (.list il (Qp ss)) (.list im (Qp ts)) (Q9 hs) (Q9 ht) (by simp only [PyData.eqv]; rw [eqv_strs]; exact φ)
theorem Y0 : ∀ {ss : List Str} {xs : List Value},VRs h (strsA ss) xs → StrsAre xs ss
  | [],_,r => by cases r; exact .nil
  | a :: t,_,r => by
    cases r with
    | cons u w => cases u; exact .cons _ _ (Y0 w)
theorem Q5 {l : Addr} {ss : List Str} {k : Str} {Φ : AV → Store → Prop} (il : ListIs c σ l (strsA ss)) (φ : Φ (.bool (ss.any (· == k))) σ) : Op c f ℓ σ [.str k,.ref l] (ap2 (compareOp .In)) Φ :=
  Qc (fun A s x y Q E ok rm g va vb kk => by
    cases va; cases vb
    obtain ⟨xs,n,e,r⟩ := Qg il g
    exact in_list_strs (vs := xs.toList) ⟨_,e,rfl,n,rfl⟩ (Y0 r) (kk _ s.toks (.bool _))) φ
theorem Qj {l : Addr} {ss : List Str} {k : Str} {Φ : AV → Store → Prop} (il : ListIs c σ l (strsA ss)) (φ : Φ (.bool (!ss.any (· == k))) σ) : Op c f ℓ σ [.str k,.ref l] (ap2 (compareOp .NotIn)) Φ :=
  Qc (fun A s x y Q E ok rm g va vb kk => by
    cases va; cases vb
    obtain ⟨xs,n,e,r⟩ := Qg il g
    exact notin_list_strs (vs := xs.toList) ⟨_,e,rfl,n,rfl⟩ (Y0 r) (kk _ s.toks (.bool _))) φ
theorem op_in_str {x k : Str} {b : Bool} {Φ : AV → Store → Prop} (hb : (!(Builtin.Str.occurrences x k 0 x.length 1).isEmpty) = b) (φ : Φ (.bool b) σ) : Op c f ℓ σ [.str k,.str x] (ap2 (compareOp .In)) Φ :=
  Qc (fun A s y z Q E ok rm g va vb kk => by
    cases va; cases vb
    exact P.in_str (by rw [hb]; exact kk _ s.toks (.bool _))) φ
theorem op_neg {i : Int} {Φ : AV → Store → Prop} (φ : Φ (.int (-i)) σ) : Op c f ℓ σ [.int i] (ap1 (unaryOp .USub)) Φ :=
  op1_of (fun A s x Q E ok rm g va k => by cases va; exact neg_int (k _ _ (.int _ _))) φ
end
end Mine

set_option autoImplicit false
set_option maxRecDepth 100000
namespace Mine
open PySem PySem.W PySem.Calls PyProof.Rows

/-! ## sets of strs -/
noncomputable def addS (σ : List Str) (v : Str) : List Str := if v ∈ σ then σ else σ ++ [v]
noncomputable def dd (ys : List Str) : List Str := ys.foldl addS []
theorem addS_mem (σ : List Str) (v k : Str) : k ∈ addS σ v ↔ k ∈ σ ∨ k = v := by
  unfold addS; split
  · constructor
    · exact .inl
    · rintro (h | rfl) <;> assumption
  · simp
theorem addS_nodup {σ : List Str} (h : σ.Nodup) (v : Str) : (addS σ v).Nodup := by
  unfold addS; split
  · exact h
  · rename_i n
    rw [List.nodup_append]
    refine ⟨h,by simp,?_⟩
    intro a ha b hb
    simp only [List.mem_singleton] at hb
    subst hb
    exact fun e => n (e ▸ ha)
theorem dd_succ (ys : List Str) (i : Nat) (v : Str) (h : ys[i]? = some v) : dd (ys.take (i + 1)) = addS (dd (ys.take i)) v := by
  unfold dd; rw [List.take_add_one,h,List.foldl_append]; rfl
theorem foldl_mem (k : Str) : ∀ (ys σ : List Str),k ∈ ys.foldl addS σ ↔ k ∈ σ ∨ k ∈ ys
  | [],σ => by simp
  | y :: r,σ => by
    rw [List.foldl_cons,foldl_mem k r,addS_mem]
    simp only [List.mem_cons]
    constructor
    · rintro ((h | h) | h)
      · exact .inl h
      · exact .inr (.inl h)
      · exact .inr (.inr h)
    · rintro (h | h | h)
      · exact .inl (.inl h)
      · exact .inl (.inr h)
      · exact .inr h
theorem dd_mem (ys : List Str) (k : Str) : k ∈ dd ys ↔ k ∈ ys := by unfold dd; rw [foldl_mem]; simp
theorem foldl_nodup : ∀ (ys σ : List Str),σ.Nodup → (ys.foldl addS σ).Nodup
  | [],_,h => h
  | y :: r,σ,h => by rw [List.foldl_cons]; exact foldl_nodup r _ (addS_nodup h y)
theorem dd_nodup (ys : List Str) : (dd ys).Nodup := foldl_nodup ys [] List.nodup_nil
theorem addS_len (σ : List Str) (v : Str) : (addS σ v).length = if v ∈ σ then σ.length else σ.length + 1 := by unfold addS; split <;> simp
theorem dd_len (ys : List Str) : (dd ys).length ≤ ys.length := by
  have : ∀ (ys σ : List Str),(ys.foldl addS σ).length ≤ σ.length + ys.length := by
    intro ys
    induction ys with
    | nil => intro σ; simp
    | cons y r ih => intro σ; rw [List.foldl_cons]; have := ih (addS σ y); rw [addS_len] at this; rw [List.length_cons]; split at this <;> omega
  unfold dd; simpa using this ys []

theorem str_at : ∀ {vs : List Value} {ys : List Str},StrsAre vs ys → ∀ (i : Nat) (v : Value),vs[i]? = some v → ∃ y t,v = .str y t ∧ ys[i]? = some y
  | _,_,.nil,i,v,h => by simp at h
  | _,_,.cons y t hr,0,v,h => by simp at h; exact ⟨y,t,h.symm,rfl⟩
  | _,_,.cons y t hr,i + 1,v,h => by
    simp only [List.getElem?_cons_succ] at h
    obtain ⟨y',t',e,q⟩ := str_at hr i v h
    exact ⟨y',t',e,by simpa using q⟩
section
variable {prog : Program} {w : World} {A : Around} {E : Value → Shared → Prop} {s : Shared}

theorem setOf_congr {h : Heap} {a : Addr} {S S' : Str → Bool} {n n' : Nat} (hS : h.SetOf (PySem.strKind prog w) a S n) (e : ∀ k,S k = S' k) (en : n = n') : h.SetOf (PySem.strKind prog w) a S' n' := by
  have : S = S' := funext e
  subst this; subst en; exact hS

theorem setOf_at {h h' : Heap} {a : Addr} {S : Str → Bool} {n : Nat} (hS : h.SetOf (PySem.strKind prog w) a S n) (k : ∀ o,h.get? a = some o → h'.get? a = some o) : h'.SetOf (PySem.strKind prog w) a S n :=
  let ⟨o,es,ep,t,ho,r⟩ := hS; ⟨o,es,ep,t,k o ho,r⟩

theorem set_loop {R : Result → Shared → Prop} {I : Addr} {fp wr : List Addr} {ys : List Str} {P : Nat → Value → Prop} {St : Nat → Heap → Prop} (W : Walks prog w A.in1 I fp wr ys.length P St) (S : Addr) (hSf : S ∉ fp)
    (hval : ∀ i v,P i v → ∃ y t,v = .str y t ∧ ys[i]? = some y) (hb : ys.length + 1 < scanBound) :
    ∀ (k i : Nat) (s : Shared),ys.length - i = k → i ≤ ys.length → St i s.heap →
      s.heap.SetOf (PySem.strKind prog w) S (fun x => decide (x ∈ dd (ys.take i))) (dd (ys.take i)).length →
      (∀ h' tk,(∀ b o,b ≠ S → b ∉ wr → s.heap.get? b = some o → h'.get? b = some o) → h'.SetOf (PySem.strKind prog w) S (fun x => decide (x ∈ dd ys)) (dd ys).length → R (.ok (.ret .none)) { s with heap := h',toks := tk }) →
      codeAny (model prog w) A (.builtin "set.update.loop" ⟨[.ref S,.ref I],[]⟩) R s := by
  have hSw : S ∉ wr := fun h => hSf (W.sub _ h)
  intro k
  induction k with
  | zero =>
    intro i s hk hi hst hS hR
    have hin : i = ys.length := by omega
    subst hin
    refine codeAny_builtin F.entry_set_update_loop ?_
    rw [Around.under_plainId F.plain_set_update_loop _]
    show wpAny _ A.in1 (pyNext (.ref I) >>= _) _ _ s
    refine wpAny_bind (W.done s _ _ hst fun h' tk kp => ?_)
    show wpAny _ A.in1 (ret Value.none) _ _ _
    rw [List.take_length] at hS
    exact wpAny_pure (hR h' tk (fun b o _ nb e => kp b o nb e) (setOf_at hS fun o e => kp S o hSw e))
  | succ k ih =>
    intro i s hk hi hst hS hR
    have hlt : i < ys.length := by omega
    refine codeAny_builtin F.entry_set_update_loop ?_
    rw [Around.under_plainId F.plain_set_update_loop _]
    show wpAny _ A.in1 (pyNext (.ref I) >>= _) _ _ s
    refine wpAny_bind (W.item i s _ _ hlt hst fun v h₁ tk₁ hP hst₁ kp₁ => ?_)
    obtain ⟨y,t,rfl,hy⟩ := hval i v hP
    have hS₁ := setOf_at (h' := h₁) hS fun o e => kp₁ S o hSw e
    show wpAny _ A.in1 (holding [Value.str y t] (setAdd S (.str y t)) >>= _) _ _ _
    refine wpAny_bind (wpAny_holding ?_)
    unfold setAdd
    refine wpAny_holding ?_
    refine wpAny_bind ((PySem.strKind prog w).pyHash (k := y) (strKind_is prog w y t) ?_)
    have hroom : (dd (ys.take i)).length + 1 < scanBound := by have := dd_len (ys.take i); rw [List.length_take] at this; omega
    refine wpAny_setAddHashed_of (knd := PySem.strKind prog w) (k := y) (strKind_is prog w y t) rfl hS₁ hroom fun h₂ hsb hS₂ => ?_
    have hSi : h₂.SetOf (PySem.strKind prog w) S (fun x => decide (x ∈ dd (ys.take (i + 1)))) (dd (ys.take (i + 1))).length := by
      refine setOf_congr hS₂ (fun x => ?_) ?_
      · rw [dd_succ ys i y hy,Bool.eq_iff_iff]
        simp only [Bool.or_eq_true,decide_eq_true_eq,addS_mem]
      · rw [dd_succ ys i y hy,addS_len]
        by_cases q : y ∈ dd (ys.take i) <;> simp [q]
    refine wpAny_pure ⟨plainId_quiet F.plain_set_update_loop _,ih (i + 1) _ (by omega) hlt (W.frame _ _ _ hst₁ fun b hb o e => ?_) hSi fun h' tk kp hS' => ?_⟩
    · rw [hsb.2 b (fun h : b = S => hSf (by rw [← h]; exact hb))]; exact e
    · refine hR h' tk (fun b o nb nw e => kp b o nb nw ?_) hS'
      exact (hsb.2 b nb).trans (kp₁ b o nw e)

theorem sub_tuple_set' : isSubtype (.type "tuple") (.type "set") = pure false := by rw [isSubtype_type]; kernel_rfl
theorem sub_tuple_frozenset' : isSubtype (.type "tuple") (.type "frozenset") = pure false := by rw [isSubtype_type]; kernel_rfl

set_option maxHeartbeats 3200000 in
theorem call_set_strs {l : Addr} {T : String} {items : Array Value} {n : Nat} {ys : List Str} {Q : Value → Shared → Prop} (hT : T = "list" ∨ T = "tuple")
    (hh : A.handled = none) (hl : s.heap.get? l = some { cls := .type T,data := .seq items n }) (hi : StrsAre items.toList ys) (hb : ys.length + 1 < scanBound)
    (h : ∀ (h' : Heap) (tk : Nat),h'.SetOf (PySem.strKind prog w) s.heap.objs.size (fun k => decide (k ∈ dd ys)) (dd ys).length →
      (∀ b o,b < s.heap.objs.size → s.heap.get? b = some o → h'.get? b = some o) → Q (.ref s.heap.objs.size) { s with heap := h',toks := tk }) :
    wpAny (model prog w) A (call (.type "set") [.ref l]) Q E s := by
  obtain ⟨c,tl,hmro⟩ := PySem.F.called_set.mro
  have hmade := PySem.F.called_set.made
  have hsub := PySem.F.called_set.sub
  refine wpAny_call (codeAny_of_tree ?_)
  show wpAny _ _ (callAny (.type "set") _) _ _ _
  refine wpAny_pure ⟨Code.quiet_builtin _ (by decide +kernel),codeAny_builtin PySem.F.entry_type_call ?_⟩
  rw [Around.under_plain (weight_type_call_type "set" [.ref l] []) rfl]
  have h1 := PySem.F.called_set.notType
  have h2 := PySem.F.called_set.canCreate
  have hct := PySem.F.typeCall_set_1 (.ref l)
  repeat (any_goals (first | assumption | wp_step))
  refine codeAny_mono (code_set_new_1 (.ref l) (E := E) (Q₁ := fun obj s₁ => ∃ led : Bool,obj = .ref s.heap.objs.size ∧ s₁ = { s with heap := s.heap.push { cls := .type "set",dict := none,data := .set #[] 0 (.fresh 0 0 led) } }) fun led => ⟨led,rfl,rfl⟩) fun r s₁ hr => ?_
  cases r with
  | error e => exact hr
  | ok fl =>
    cases fl with
    | ret obj =>
      obtain ⟨led,rfl,rfl⟩ := hr
      generalize hSO : ({ cls := .type "set",dict := none,data := .set #[] 0 (.fresh 0 0 led) } : Obj) = SO
      have hS : (s.heap.push SO).get? s.heap.objs.size = some SO := Heap.get?_push_size _ (by subst hSO; rfl)
      have hTS : Shared.TypeIs { s with heap := s.heap.push SO } (.ref s.heap.objs.size) "set" := ⟨_,hS,by subst hSO; rfl⟩
      have hli := PySem.F.called_set.init.lookup
      have hbi := PySem.F.called_set.init.bind (.ref s.heap.objs.size)
      repeat (any_goals (first | assumption | wp_step))
      refine codeAny_mono (codeAny_call_builtin (R := wants (fun r s₂ => r = .none ∧ ∃ h' tk,s₂ = { s with heap := h',toks := tk } ∧
          h'.SetOf (PySem.strKind prog w) s.heap.objs.size (fun k => decide (k ∈ dd ys)) (dd ys).length ∧
          (∀ b o,b < s.heap.objs.size → s.heap.get? b = some o → h'.get? b = some o)) E) PySem.F.called_set.init.plain PySem.F.entry_set_init (check_set_init_1 hTS ?_)) fun r₂ s₂ hr₂ => ?_
      · have hlt : l < s.heap.objs.size := Heap.lt_size hl
        have hl' : (s.heap.push SO).get? l = some { cls := .type T,data := .seq items n } := Heap.get?_push_of_some _ hl
        have hT' : Shared.TypeIs { s with heap := s.heap.push SO } (.ref l) T := ⟨_,hl',rfl⟩
        have hsls : isSubtype (.type T) (.type "set") = pure false := by rcases hT with rfl | rfl; exact PySem.F.sub_list_set; exact sub_tuple_set'
        have hslf : isSubtype (.type T) (.type "frozenset") = pure false := by rcases hT with rfl | rfl; exact PySem.F.sub_list_frozenset; exact sub_tuple_frozenset'
        have hne : (Value.type T == Value.type "dict") = false := by rcases hT with rfl | rfl <;> decide
        have hh3 : A.in1.in1.in1.handled = none := by simp [hh]
        have sz1 : (s.heap.push SO).objs.size = s.heap.objs.size + 1 := Heap.size_push _ _
        have hneI : l ≠ (s.heap.push SO).objs.size := by rw [sz1]; exact Nat.ne_of_lt (Nat.lt_succ_of_lt hlt)
        have hSf : s.heap.objs.size ∉ [(s.heap.push SO).objs.size,l] := by
          rw [sz1]; simp only [List.mem_cons,List.not_mem_nil,or_false,not_or]
          exact ⟨Nat.ne_of_lt (Nat.lt_succ_self _),Nat.ne_of_gt hlt⟩
        have hys : items.size = ys.length := by rw [← Array.length_toList]; exact hi.length
        have hval : ∀ (i : Nat) (v : Value),items[i]? = some v → ∃ y t,v = .str y t ∧ ys[i]? = some y := fun i v hv => str_at hi i v (by rw [Array.getElem?_toList]; exact hv)
        have hS0 : ∀ IO,((s.heap.push SO).push IO).SetOf (PySem.strKind prog w) s.heap.objs.size (fun x => decide (x ∈ dd (ys.take 0))) (dd (ys.take 0)).length := fun IO => by
          have hget : ((s.heap.push SO).push IO).get? s.heap.objs.size = some { cls := .type "set",dict := none,data := .set #[] 0 (.fresh 0 0 led) } := (Heap.get?_push_of_some _ hS).trans (congrArg some hSO.symm)
          exact setOf_congr ((PyProof.Rows.setObjOf_fresh (knd := PySem.strKind prog w) led).setOf hget (by unfold scanBound; omega)) (fun _ => by simp [dd]) (by simp [dd])
        have hR : ∀ (IO : Obj) (h' : Heap) (tk : Nat),(∀ b o,b ≠ s.heap.objs.size → b ∉ [(s.heap.push SO).objs.size] → ((s.heap.push SO).push IO).get? b = some o → h'.get? b = some o) → 
            ∀ b o,b < s.heap.objs.size → s.heap.get? b = some o → h'.get? b = some o := fun IO h' tk kp b o hb e => by
          refine kp b o (Nat.ne_of_lt hb) ?_ (Heap.get?_push_of_some _ (Heap.get?_push_of_some _ e))
          rw [List.mem_singleton,sz1]; exact Nat.ne_of_lt (Nat.lt_succ_of_lt hb)
        have hILp : T = "list" → (s.heap.push SO).IsList l items := fun e => by subst e; exact ⟨_,hl',rfl,n,rfl⟩
        have hITp : T = "tuple" → (s.heap.push SO).IsTuple l items := fun e => by subst e; exact ⟨_,hl',rfl,n,rfl⟩
        subst hSO
        unfold Builtin.«set.__init__» noKeywords Builtin.Frozenset.updateFrom
        generalize hPI : pyIter = PI
        wp_walk
        subst hPI
        rcases hT with rfl | rfl
        · have hIL := hILp rfl
          refine wpAny_pyIter_list hIL ?_
          refine wpAny_bind (wpAny_runValue ?_)
          have W := Walks.list (prog := prog) (w := w) hh3 _ l hneI items
          rw [hys] at W
          refine set_loop W s.heap.objs.size hSf hval hb (ys.length - 0) 0 _ rfl (Nat.zero_le _) ⟨⟨_,Heap.get?_push_size _ rfl,rfl,rfl⟩,hIL.push _⟩ (hS0 _) fun h' tk kp hS' => ?_
          show wpAny _ _ _ _ _ _
          refine wpAny_pure ?_
          show wpAny _ _ (ret Value.none) _ _ _
          exact wpAny_pure ⟨rfl,h',tk,rfl,hS',hR _ h' tk kp⟩
        · have hIL := hITp rfl
          refine wpAny_pyIter_tuple hIL ?_
          refine wpAny_bind (wpAny_runValue ?_)
          have W := Walks.tuple (prog := prog) (w := w) hh3 _ l hneI items
          rw [hys] at W
          refine set_loop W s.heap.objs.size hSf hval hb (ys.length - 0) 0 _ rfl (Nat.zero_le _) ⟨⟨_,Heap.get?_push_size _ rfl,rfl,rfl⟩,hIL.push _⟩ (hS0 _) fun h' tk kp hS' => ?_
          show wpAny _ _ _ _ _ _
          refine wpAny_pure ?_
          show wpAny _ _ (ret Value.none) _ _ _
          exact wpAny_pure ⟨rfl,h',tk,rfl,hS',hR _ h' tk kp⟩
      · cases r₂ with
        | error e => exact hr₂
        | ok fl₂ =>
          cases fl₂ with
          | ret r =>
            obtain ⟨rfl,h',tk,rfl,hS',hk'⟩ := hr₂
            repeat (any_goals (first | assumption | wp_step))
            exact h _ _ hS' hk'
          | _ => exact hr₂.elim
    | _ => exact hr.elim
end
end Mine

set_option autoImplicit false
set_option maxRecDepth 100000
namespace Mine
open PySem PySem.W PySem.Calls PyProof.Rows
section
variable {prog : Program} {w : World} {A : Around} {E : Value → Shared → Prop} {s : Shared}

theorem entry_set_ne' : entryFor table "set.__ne__" = some Builtin.«frozenset.__ne__» :=
  entryFor_alias (id' := "frozenset.__ne__") (by kernel_rfl) rfl (by decide +kernel) (by kernel_rfl)

theorem forIn_const {α β : Type} (f : α → β → Sem (ForInStep β)) (b : β) : ∀ (l : List α),(∀ x ∈ l,f x b = pure (.yield b)) → (forIn l b f : Sem β) = pure b
  | [],_ => rfl
  | x :: r,h => by
    rw [List.forIn_cons,h x List.mem_cons_self]
    exact forIn_const f b r fun y hy => h y (List.mem_cons_of_mem _ hy)

theorem elem_str {es : List (Int × Value)} (hel : ElemsOf (PySem.strKind prog w) es) {e : Int × Value} (he : e ∈ es) : ∃ k t,e.2 = .str k t ∧ e.1 = (PySem.strKind prog w).hash k := by
  obtain ⟨⟨k,hk,hh⟩,_⟩ := hel e he
  obtain ⟨t,ht⟩ := Value.isStrOf_shape hk
  exact ⟨k,t,ht,hh⟩

theorem walk_strs {a b : Addr} {S' : Str → Bool} {m : Nat} {oa : Obj} {es : Array (Int × Value)} {ep : Nat} {t : SetTable} {Q : List (Int × Value) → Shared → Prop} (ha : s.heap.get? a = some oa) (hd : oa.data = .set es ep t) (hf : t.fits es.size = true)
    (hel : ElemsOf (PySem.strKind prog w) es.toList) (hb : s.heap.SetOf (PySem.strKind prog w) b S' m) (h : Q es.toList s) : wpAny (model prog w) A (Builtin.Frozenset.walkUnseen a b) Q E s := by
  obtain ⟨ob,es',ep',t',hob,_,hdb,helb,_,_,hfb,_⟩ := hb
  unfold Builtin.Frozenset.walkUnseen
  refine wpAny_bind (wpAny_setEntries_of ha hd hf ?_)
  refine wpAny_bind (wpAny_setEntries_of hob hdb hfb ?_)
  refine wpAny_bind (wpAny_of_eq (forIn_const _ _ _ fun x hx => ?_) (wpAny_pure h))
  have : ∃ k t,x.2 = .str k t := by
    rcases List.mem_append.mp hx with hx | hx
    · obtain ⟨k,t,e,_⟩ := elem_str hel hx; exact ⟨k,t,e⟩
    · obtain ⟨k,t,e,_⟩ := elem_str helb hx; exact ⟨k,t,e⟩
  obtain ⟨k,t,e⟩ := this
  obtain ⟨x1,x2⟩ := x
  dsimp only at e
  subst e
  rfl
theorem sub_strs {a b : Addr} {S S' : Str → Bool} {n m : Nat} {Q : Bool → Shared → Prop} (id : String) (ha : s.heap.SetOf (PySem.strKind prog w) a S n) (hb : s.heap.SetOf (PySem.strKind prog w) b S' m) (hnm : n = m)
    (h : ∀ r,(r = true ↔ ∀ k,S k = true → S' k = true) → Q r s) : wpAny (model prog w) A (Builtin.Frozenset.subsetOf id a b) Q E s := by
  have hb' := hb
  obtain ⟨oa,es,ep,t,hoa,_,hda,hela,hmem,_,hfa,hn⟩ := ha
  obtain ⟨ob,es',ep',t',hob,_,hdb,helb,hmemb,_,hfb,hm⟩ := hb
  unfold Builtin.Frozenset.subsetOf Builtin.Frozenset.sizeOf
  refine wpAny_bind (wpAny_bind (wpAny_setEntries_of hoa hda hfa (wpAny_pure ?_)))
  refine wpAny_bind (wpAny_bind (wpAny_setEntries_of hob hdb hfb (wpAny_pure ?_)))
  rw [if_neg (by omega)]
  refine wpAny_bind (wpAny_setEpoch_of hoa hda hfa ?_)
  refine wpAny_bind (walk_strs hoa hda hfa hela hb' ?_)
  have loop : ∀ (l : List (Int × Value)),(∀ e ∈ l,e ∈ es.toList) → ∀ (Q' : Option Bool × Unit → Shared → Prop),
      ((∀ e ∈ l,∀ k t,e.2 = .str k t → S' k = true) → Q' (none,()) s) → ((∃ e ∈ l,∃ k t,e.2 = .str k t ∧ S' k = false) → Q' (some false,()) s) →
      wpAny (model prog w) A (forIn l ((none : Option Bool),()) fun x _ => match x with
            | (h,x) => do
              let r ← holding [x] (setFind b x h)
              if r.isNone = true then pure (ForInStep.done (some false,()))
                else do
                  Builtin.Frozenset.unchanged id a ep
                  pure (ForInStep.yield ((none : Option Bool),()))) Q' E s := by
    intro l
    induction l with
    | nil => intro _ Q' h1 _; exact wpAny_pure (h1 fun e he => by cases he)
    | cons e r ih =>
      intro hl Q' h1 h2
      obtain ⟨k,t,e2,e1⟩ := elem_str hela (hl e List.mem_cons_self)
      obtain ⟨x1,x2⟩ := e
      dsimp only at e1 e2
      subst e1 e2
      rw [List.forIn_cons]
      refine wpAny_bind ?_
      refine wpAny_bind (wpAny_holding (wpAny_setFind_of (knd := PySem.strKind prog w) (k := k) (strKind_is prog w k t) rfl hb' fun r' hr' => ?_))
      cases hS : S' k with
      | false =>
        rw [hS] at hr'
        have : r'.isNone = true := by cases r' <;> simp_all
        rw [if_pos this]
        exact wpAny_pure (wpAny_pure (h2 ⟨_,List.mem_cons_self,k,t,rfl,hS⟩))
      | true =>
        rw [hS] at hr'
        have : ¬ r'.isNone = true := by cases r' <;> simp_all
        rw [if_neg this]
        unfold Builtin.Frozenset.unchanged
        refine wpAny_bind (wpAny_bind (wpAny_setEpoch_of hoa hda hfa ?_))
        rw [if_neg (by simp)]
        refine wpAny_pure (wpAny_pure ?_)
        refine ih (fun e he => hl e (List.mem_cons_of_mem _ he)) Q' (fun hall => h1 fun e he k' t' q => ?_) fun ⟨e,he,q⟩ => h2 ⟨e,List.mem_cons_of_mem _ he,q⟩
        rcases List.mem_cons.mp he with rfl | he
        · cases q; exact hS
        · exact hall e he k' t' q
  refine wpAny_bind (loop es.toList (fun _ h => h) _ (fun hall => ?_) fun ⟨e,he,k,t,e2,hS⟩ => ?_)
  · refine wpAny_pure (h true ⟨fun _ k hk => ?_,fun _ => rfl⟩)
    obtain ⟨e,he,hi⟩ := (hmem k).mp hk
    obtain ⟨t,ht⟩ := Value.isStrOf_shape hi
    exact hall e he k t ht
  · refine wpAny_pure (h false ⟨(fun h => by cases h),fun hh => ?_⟩)
    have := hh k ((hmem k).mpr ⟨e,he,by rw [e2]; exact strKind_is prog w k t⟩)
    rw [hS] at this; cases this
theorem ne_sets {a b : Addr} {S S' : Str → Bool} {n m : Nat} {Q : Value → Shared → Prop} (ha : s.heap.SetOf (PySem.strKind prog w) a S n) (hb : s.heap.SetOf (PySem.strKind prog w) b S' m) (hu : A.units < cLine)
    (h : ∀ r,(r = true ↔ n = m ∧ ∀ k,S k = true → S' k = true) → Q (.bool (!r)) s) : wpAny (model prog w) A (compareOp .NotEq (.ref a) (.ref b)) Q E s := by
  refine wpAny_richCompare_same_room (op := .NotEq) ha.typeIs hb.typeIs PySem.F.slot_set_ne (wpAny_call_entry PySem.F.slot_set_ne ha.typeIs entry_set_ne' ?_ (PySem.F.args_set_ne_2 _ _)) hu
  unfold Builtin.«frozenset.__ne__»
  show wpAny _ _ (Builtin.Frozenset.slot1 "__ne__" ⟨[.ref a,.ref b],[]⟩ >>= _) _ _ s
  refine wpAny_bind (m := Builtin.Frozenset.slot1 "__ne__" _) ?_
  unfold Builtin.Frozenset.slot1 slotArgs
  refine wpAny_bind (m := _ ) ?_
  show wpAny _ _ (pure (Value.ref a,[Value.ref b])) _ _ _
  refine wpAny_pure ?_
  show wpAny _ _ (pure (Value.ref a,Value.ref b)) _ _ _
  refine wpAny_pure ?_
  dsimp only
  have hb' := hb
  have ha' := ha
  obtain ⟨oa,es,ep,t,hoa,_,hda,hela,hmem,_,hfa,hn⟩ := ha
  obtain ⟨ob,es',ep',t',hob,_,hdb,helb,hmemb,_,hfb,hm⟩ := hb
  refine wpAny_bind ?_
  unfold Builtin.Frozenset.isAnySet
  refine wpAny_bind (wpAny_isInstance (T := "set") (b := true) hb'.typeIs PySem.F.sub_set_set ?_)
  refine wpAny_pure ?_
  simp only [Bool.not_true,Bool.false_eq_true,if_false]
  refine wpAny_bind (wpAny_pure ?_)
  refine wpAny_bind (wpAny_pure ?_)
  refine wpAny_bind (wpAny_bind (wpAny_setEntries_of hoa hda hfa (wpAny_pure ?_)))
  refine wpAny_bind (wpAny_bind (wpAny_setEntries_of hob hdb hfb (wpAny_pure ?_)))
  refine wpAny_bind ?_
  by_cases hnm : es.size = es'.size
  · rw [if_neg (by simp [hnm])]
    refine wpAny_bind ?_
    refine wpAny_bind (wpAny_isInstance (T := "set") (b := false) ha'.typeIs PySem.F.sub_set_frozenset ?_)
    refine wpAny_pure ?_
    simp only [Bool.false_eq_true,if_false]
    refine sub_strs _ ha' hb' (by omega) fun r hr => ?_
    exact wpAny_pure ⟨_,rfl,(fun x => nomatch x),h r ⟨fun e => ⟨by omega,hr.mp e⟩,fun e => hr.mpr e.2⟩⟩
  · rw [if_pos (by simp [hnm])]
    refine wpAny_pure ?_
    exact wpAny_pure ⟨_,rfl,(fun x => nomatch x),h false ⟨(fun e => by cases e),fun e => absurd (by omega) hnm⟩⟩

theorem noBool_set : typeLookup (.type "set") "__bool__" = pure none := by rw [typeLookup_type,builtinLookup_eq_fast]; kernel_rfl
theorem truthy_set {a : Addr} {S : Str → Bool} {n : Nat} {Q : Bool → Shared → Prop} (ha : s.heap.SetOf (PySem.strKind prog w) a S n) (h : Q (n != 0) { s with toks := s.toks + 1 + 1 }) : wpAny (model prog w) A (truthy (.ref a)) Q E s := by
  have hT := ha.typeIs
  obtain ⟨oa,es,ep,t,hoa,hex,hda,hela,hmem,hlt,hfa,hn⟩ := ha
  have hfit : (es.size : Int) < 2 ^ 63 := by unfold scanBound at hlt; omega
  have key : wpAny (model prog w) A (runValue (.builtin "len" ⟨[.ref a],[]⟩)) (fun r s' => r = .int es.size (s.toks + 1) ∧ Q (n != 0) s') E s := by
    refine wpAny_runValue (codeAny_builtin entry_len ?_)
    rw [Around.under_plainId plain_len _]
    exact wpAny_mono (wpAny_len_body_set (Q := fun r s' => r = .int es.size (s.toks + 1) ∧ Q (n != 0) s') hoa hex hda hfa hfit ⟨rfl,h⟩)
      (fun fin s' h' => by obtain ⟨r,rfl,hq⟩ := h'; exact hq) fun _ _ e => e
  unfold truthy
  dsimp only
  have e0 : ((es.size : Int) != 0) = (n != 0) := by rw [← hn]; cases es.size <;> simp; omega
  first
    | refine wpAny_bind (wpAny_callSpecial?_none (name := Str.ofString "__bool__") hT noBool_set ?_)
    | refine wpAny_bind (wpAny_pure (wpAny_bind (wpAny_callSpecial?_none (name := Str.ofString "__bool__") hT noBool_set ?_)))
  first
    | refine wpAny_bind (wpAny_specialOf (name := Str.ofString "__len__") hT PySem.F.slot_set_len.lookup ?_)
    | refine wpAny_bind (wpAny_pure (wpAny_bind (wpAny_specialOf (name := Str.ofString "__len__") hT PySem.F.slot_set_len.lookup ?_)))
  first
    | exact wpAny_bind (wpAny_mono key (fun r s' h' => by obtain ⟨rfl,hq⟩ := h'; rw [← e0] at hq; exact wpAny_pure hq) fun _ _ e => e)
    | exact wpAny_bind (wpAny_pure (wpAny_bind (wpAny_mono key (fun r s' h' => by obtain ⟨rfl,hq⟩ := h'; rw [← e0] at hq; exact wpAny_pure hq) fun _ _ e => e)))
theorem fmt_raw {prog : Program} {w : World} {A : Around} {E : Value → Shared → Prop} {s : Shared} {x : Str} {t u : Tok} {Q : Value → Shared → Prop} (hx : x.length ≤ 100) (h : ∀ y t' k,Q (.str y t') { s with toks := k }) :
    wpAny (model prog w) A (call (.builtin "str.format") [.str "Dependent file '{}' does not exist." t,.str x u]) Q E s := by
  refine' KFm.call_k ?kfmF ?kfmg ?kfmm ?_
  case kfmF => kfm_eq
  case kfmg => kfm_args
  case kfmm => kfm_run
  intro t' k
  exact h _ _ _
end

section
variable {c : Cx} {f : Fn} {ℓ : Locs} {σ σ' σ'' : Store} {h h' h₀ h'' : Heap} {p : Pl} {wr : List Addr} {d : Nat} {hf : Bool}

theorem cw_format {x : Str} {Φ : AV → Store → Prop} (hx : x.length ≤ 100) (φ : ∀ y,Φ (.str y) σ) : Cw c d hf σ (.val (.builtin "str.format")) [.str "Dependent file '{}' does not exist.",.str x] [] Φ :=
  cw2 fun A s a b Q E ok rm g va vb k => by
    cases va; cases vb
    exact fmt_raw hx fun y t' tk => k (.str y) _ σ s.heap tk (φ y) g .refl (.str _ _)

theorem set_at {a : Addr} {ss : List Str} (i : σ a = some (.set ss)) (g : Good c σ h) (hz : ss.length ≤ 1000) : ∃ S : Str → Bool,h.SetOf (PySem.strKind c.prog c.w) a S ss.length ∧ (∀ x,S x = true ↔ x ∈ ss) ∧ ss.Nodup := by
  obtain ⟨oc,e,r⟩ := g.obj a _ i
  cases r with
  | set si =>
    obtain ⟨S,so,hS⟩ := si.of
    exact ⟨S,so.setOf e (by unfold scanBound; omega),hS,si.nd⟩
theorem cw_set {l : Addr} {v : AV} {ys : List Str} {Φ : AV → Store → Prop} (hv : (v = .ref l ∧ ListIs c σ l (strsA ys)) ∨ v = .tup (strsA ys)) (hf' : hf = true) (hz : ys.length ≤ 1000) (φ : ∀ a,σ a = none → Φ (.ref a) (σ.set a (.set (dd ys)))) :
    Cw c d hf σ (.val (.type "set")) [v] [] Φ :=
  cw1 fun A s x Q E ok rm g va k => by
    have key : ∀ (t : Addr) (T : String) (items : Array Value) (n : Nat),(T = "list" ∨ T = "tuple") → s.heap.get? t = some { cls := .type T,data := .seq items n } → StrsAre items.toList ys → wpAny (model c.prog c.w) A (call (.type "set") [.ref t]) Q E s := by
      intro t T items n hT ht hs
      refine call_set_strs hT (rm.hand hf') ht hs (by unfold scanBound; omega) fun h' tk hS kp => ?_
      obtain ⟨o,ho,hso⟩ := hS.objOf
      have kp' : ∀ b o,s.heap.get? b = some o → h'.get? b = some o := fun b o e => kp b o (Heap.lt_size e) e
      have si : SetIs c.prog c.w (dd ys) o := ⟨hso.1.1,⟨_,hso,fun x => by simp⟩,dd_nodup ys⟩
      exact k _ _ _ h' tk (φ _ g.size_off) ((g.ext kp').enter ho (.set si) g.base_size g.size_low (g.notFrame (Yg _))) (Step.enter kp' (Yg _)) (.ref _)
    rcases hv with ⟨rfl,il⟩ | rfl
    · cases va
      obtain ⟨xs,n,e,r⟩ := Qg il g
      exact key l "list" xs n (.inl rfl) e (Y0 r)
    · cases va with
      | tup e r => exact key _ "tuple" _ 0 (.inr rfl) e (Y0 r)
theorem tr_set {a : Addr} {ss : List Str} {Φ : Bool → Store → Prop} (i : σ a = some (.set ss)) (hz : ss.length ≤ 1000) (φ : Φ (ss.length != 0) σ) : OpB c f ℓ σ [.ref a] (ap1 truthy) Φ :=
  H0 (fun A s x Q E ok rm g va k => by
    cases va
    obtain ⟨S,hS,_,_⟩ := set_at i g hz
    exact truthy_set hS (k _)) φ
theorem op_ne_set {a b : Addr} {ss ts : List Str} {Φ : AV → Store → Prop} (i : σ a = some (.set ss)) (j : σ b = some (.set ts)) (hz : ss.length ≤ 1000) (hy : ts.length ≤ 1000) (φ : ∀ r,(r = true ↔ ss.length = ts.length ∧ ∀ x ∈ ss,x ∈ ts) → Φ (.bool (!r)) σ) :
    Op c f ℓ σ [.ref a,.ref b] (ap2 (compareOp .NotEq)) Φ := by
  intro A p s xs Q E ok rm H va k
  cases va with
  | cons va r => cases r with
    | cons vb r =>
      cases r; cases va; cases vb
      obtain ⟨S,hS,hm,_⟩ := set_at i H.good hz
      obtain ⟨S',hS',hm',_⟩ := set_at j H.good hy
      refine ne_sets hS hS' (by have := rm.units; show A.units < 9900; omega) fun r hr => ?_
      refine k _ _ σ s.heap s.toks (φ r ?_) H .refl (.bool _)
      rw [hr]
      constructor
      · rintro ⟨e,q⟩; exact ⟨e,fun x hx => (hm' x).mp (q x ((hm x).mpr hx))⟩
      · rintro ⟨e,q⟩; exact ⟨e,fun x hx => (hm' x).mpr (q x ((hm x).mp hx))⟩
theorem op_notin_set {a : Addr} {ss : List Str} {k : Str} {Φ : AV → Store → Prop} (i : σ a = some (.set ss)) (hz : ss.length ≤ 1000) (φ : Φ (.bool (!decide (k ∈ ss))) σ) : Op c f ℓ σ [.str k,.ref a] (ap2 (compareOp .NotIn)) Φ :=
  Qc (fun A s x y Q E ok rm g va vb kk => by
    cases va; cases vb
    obtain ⟨S,hS,hm,_⟩ := set_at i g hz
    have e : S k = decide (k ∈ ss) := by rw [Bool.eq_iff_iff,hm]; simp
    exact wpAny_notInSet_of (strKind_is c.prog c.w k _) rfl hS (by rw [e]; exact kk _ _ (.bool _))) φ
end
end Mine

set_option autoImplicit false
set_option maxRecDepth 100000
namespace Mine
open PySem PySem.W PySem.Calls PyProof.Rows

section
variable {c : Cx} {f : Fn} {ℓ : Locs} {σ σ' σ'' : Store} {h h' h₀ h'' : Heap} {p : Pl} {wr : List Addr} {d : Nat} {hf : Bool}

/-! ## displays of dicts -/
noncomputable def EvP (c : Cx) (f : Fn) (ℓ : Locs) : List (Expr × Expr) → Store → (Es → Store → Prop) → Prop
  | [],σ,Φ => Φ [] σ
  | (k,v) :: r,σ,Φ => Ev c f ℓ σ k fun kv σ₁ => ∃ s,kv = .str s ∧ Ev c f ℓ σ₁ v fun vv σ₂ => EvP c f ℓ r σ₂ fun es σ₃ => Φ ((s,vv) :: es) σ₃
noncomputable def semPairs (pos : Pos) (pairs : List (Expr × Expr)) (env : Env) : List (Sem Value × Sem Value) := pairs.map fun kv => (eval kv.1 env,do let x ← eval kv.2 env; standAt pos; pure x)
theorem shape_pairs (pos : Pos) (env : Env) : ∀ pairs : List (Expr × Expr),(evalEachOpt (pairs.map fun kv => some kv.1) env).zip ((evalEach (pairs.map (·.2)) env).map fun v => do let x ← v; standAt pos; pure x) = (semPairs pos pairs env).map fun p => (some p.1,p.2)
  | [] => rfl
  | (k,v) :: r => by
    have ih := shape_pairs pos env r
    unfold semPairs at ih ⊢
    simp only [List.map_cons]
    show (_ :: _ : List _) = _
    rw [← ih]; rfl
theorem evp_run {pos : Pos} {pairs : List (Expr × Expr)} {Φ : Es → Store → Prop} (q : EvP c f ℓ pairs σ Φ) :
    Tr c f ℓ σ [] (fun env _ => evalPairs (semPairs pos pairs env)) (fun h es vs => ∃ kvs,Carries (PySem.strKind c.prog c.w) vs kvs ∧ KRs h es kvs) Φ := by
  intro A p s xs Q E ok rm H v0 k
  clear v0
  induction pairs generalizing σ s Q Φ with
  | nil => exact evalPairs_nil (k [] [] σ s.heap s.toks q H .refl ⟨[],trivial,.nil⟩)
  | cons kv r ih =>
    obtain ⟨ke,ve⟩ := kv
    refine evalPairs_cons (q A p s [] _ E ok rm H .nil fun kv kv' σ₁ h₁ t₁ ⟨ks,ek,q₁⟩ H₁ s₁ vk => ?_)
    subst ek
    cases vk with
    | str ks t =>
      refine wpAny_bind (q₁ A p _ [] _ E ok rm H₁ .nil fun vv vv' σ₂ h₂ t₂ q₂ H₂ s₂ vv₂ => wpAny_bind (wpAny_standAt (wpAny_pure ?_)))
      refine ih q₂ { s with heap := h₂,toks := t₂ } _ H₂ fun es vs σ₃ h₃ t₃ q₃ H₃ s₃ ⟨kvs,hc,kr⟩ => ?_
      exact k _ _ σ₃ h₃ t₃ q₃ H₃ ((s₁.trans H₁ s₂).trans H₂ s₃) ⟨(ks,vv') :: kvs,⟨strKind_is c.prog c.w ks t,rfl,hc⟩,.cons (vv₂.mono (s₃.tk H₂)) kr⟩
theorem ev_dict {pairs : List (Expr × Expr)} {keys : List (Option Expr)} {values : List Expr} {pos : Pos} {Φ : AV → Store → Prop} (hk : keys = pairs.map fun kv => some kv.1) (hv : values = pairs.map (·.2)) (h0 : pairs ≠ []) (hl : pairs.length ≤ 15)
    (q : ∀ D,σ D = none → EvP c f ℓ pairs (σ.set D (.dict [])) fun es σ₁ => (es.map (·.1)).Nodup ∧ σ₁ D = some (.dict []) ∧ Φ (.ref D) (σ₁.set D (.dict es))) : Ev c f ℓ σ (.Dict keys values pos) Φ := by
  intro A p s xs Q E ok rm H _ k
  subst hk hv
  refine wpAny_Dict_pairs (knd := PySem.strKind c.prog c.w) (pairs := semPairs pos pairs (f.env p)) (shape_pairs pos _ pairs) (by simp [semPairs,h0]) (by simp [semPairs,hl]) ?_
  have r : OR c.prog c.w (s.heap.push emptyDict) (.dict []) emptyDict := .dict (kvs := []) ⟨#[],0,⟨rfl,rfl,rfl⟩,rfl,fun _ he => by simp at he,Pairs.nil,List.nodup_nil⟩ .nil
  have H₁ := H.alloc r
  refine evp_run (pos := pos) (q _ H.good.size_off) A p { s with heap := s.heap.push emptyDict } [] _ E ok rm H₁ .nil fun es vs σ₂ h₂ t₂ ⟨nd,hD,φ⟩ H₂ s₂ ⟨kvs,hc,kr⟩ => ?_
  obtain ⟨kvs₀,hd₀,r₀,_⟩ := Q3 hD H₂.good
  cases r₀
  refine ⟨kvs,hc,hd₀,fun h' hd' hs => ?_⟩
  rw [merged_nil_of_nodup kvs (by rw [← kr.names]; exact nd)] at hd'
  obtain ⟨H₃,s₃⟩ := dict_turned (es' := es) H₂ hD hd' hs fun tk => kr.mono tk
  exact k _ _ _ h' _ φ H₃ (((Step.ofC .alloc).trans H₁ s₂).trans H₂ s₃) (.ref _)
end
section
section
variable {prog : Program} {w : World} {A : Around} {E : Value → Shared → Prop} {s : Shared}

end
end

section
variable {c : Cx} {f : Fn} {ℓ : Locs} {σ σ' σ'' : Store} {h h' h₀ h'' : Heap} {p : Pl} {wr : List Addr} {d : Nat} {hf : Bool}
end
end Mine

set_option autoImplicit false
set_option maxRecDepth 100000
namespace Mine
open PySem PySem.W PySem.Calls PyProof.Rows

/-! ## an exception of the text's own -/
noncomputable def excB : List Value := [.type "Exception",.type "BaseException",.type "object"]
structure ExcC (c : Cx) (x : Str) (C : Addr) : Prop where
  name : nsIn c.K mainGlobals x = some (some (.ref C))
  cls : excIn c.K C excB "Exception.__new__" = true
theorem ExcC.own {c : Cx} {x : Str} {C : Addr} (e : ExcC c x C) (ok : c.Ok) : OwnCls x C excB "Exception.__new__" c.mg c.h₀ := by
  refine ⟨mg_of ok.X ok.g e.name,?_⟩
  have X := ok.X
  have q := e.cls
  unfold excIn at q
  split at q
  · rename_i dd cd sl ho
    split at q
    · rename_i C' bm k0 k1 k2 k3 n k5 hm hs
      simp only [Bool.and_eq_true,beq_iff_eq,Bool.not_eq_true'] at q
      obtain ⟨⟨⟨⟨⟨rfl,rfl⟩,hdel⟩,ht⟩,hok⟩,hni⟩ := q
      obtain ⟨nm,bs,mro,ns,qn,hd,sn,sub,ab,col,del⟩ := cd
      dsimp only at hm hdel hok hni
      subst hm hdel
      have hsl : sl = #[k0,k1,k2,k3,some (.builtin "Exception.__new__"),k5] := by
        obtain ⟨l⟩ := sl
        simp only at hs
        rw [hs]
      subst hsl
      exact ⟨bm,ns,nm,qn,bs,hd,sn,sub,ab,col,dd,k0,k1,k2,k3,k5,_,X _ _ ho,.of_isNs (isNs_of_in X hok),nsMap_none_of_in X hok hni,tail_of_in X ht⟩
    · cases q
  · cases q

section
variable {c : Cx} {f : Fn} {ℓ : Locs} {σ σ' σ'' : Store} {h h' h₀ h'' h₁ : Heap} {p : Pl} {wr : List Addr} {d : Nat} {hf : Bool}

/-- what may be hidden while an exception flies -/
noncomputable def FsOk (c : Cx) (σ : Store) (h : Heap) (fs : List Addr) : Prop := (∀ b ∈ fs,(∃ m,h.Ns b m) ∧ σ b = none ∧ c.h₀.get? b = none) ∧ ∀ env ∈ c.stk,∀ b,env.frame = some b → b ∈ fs

theorem FsOk.flown {fs : List Addr} (k : FsOk c σ h fs) (g : Good c σ h) (st : (hideAll h fs).StaysIn h') (up : h.UpToSlots h') : Good c σ h' ∧ StepC σ σ h h' := by
  have ex : ∀ b o,h.get? b = some o → b ∉ fs → h'.get? b = some o := fun b o e n => st _ _ (hideAll_get _ e n)
  have tk : TK h h' := fun a xs e => ex _ _ e fun m => by
    obtain ⟨⟨_,o,_,_,ho,hd,_⟩,_⟩ := k.1 a m
    rw [e] at ho; cases ho; cases hd
  refine ⟨⟨fun b o e => ex _ _ (g.keep b o e) (fun m => by have := (k.1 b m).2.2; rw [e] at this; cases this),fun a o e => ?_,g.new,g.stat,g.low,fun env he => (g.fr env he).turn (fun L m _ ns _ _ => ⟨m,up.ns ns⟩) fun _ _ e => e⟩,⟨fun a o e _ _ => ?_,fun _ a b => absurd a b,fun _ e => e⟩⟩
  · obtain ⟨oc,e1,r⟩ := g.obj a o e
    exact ⟨oc,ex _ _ e1 (fun m => by have := (k.1 a m).2.1; rw [e] at this; cases this),r.mono tk⟩
  · by_cases m : a ∈ fs
    · obtain ⟨⟨_,o',es,ep,ho,hd,_⟩,_⟩ := k.1 a m
      rw [e] at ho; cases ho
      obtain ⟨sl,e'⟩ := up a o e fun vs q => by rw [hd] at q; cases q
      exact ⟨sl,e',fun q => absurd hd (q es ep)⟩
    · exact .same (ex _ _ e m)
theorem Good.funFrames (g : Good c σ h) {fs : List Addr} (k : ∀ env ∈ c.stk,∀ b,env.frame = some b → b ∈ fs) : ∀ {l : List Env},(∀ env ∈ l,env ∈ c.stk) → h.FunFrames (hideAll h fs) l
  | [],_ => trivial
  | env :: l,hl => by
    obtain ⟨kk,L,m,e,⟨o,es,ep,ho,hd,_⟩,_,_⟩ := g.fr env (hl env List.mem_cons_self)
    exact ⟨kk,⟨L,o,e,hideAll_none _ (k env (hl env List.mem_cons_self) L e),ho,fun vs q => by rw [hd] at q; cases q⟩,g.funFrames k fun env he => hl env (List.mem_cons_of_mem _ he)⟩

/-- an exception flies through the place; nothing of the store turned -/
structure Flies (c : Cx) (σ : Store) (C : Addr) (e : Addr) (h₁ h' : Heap) : Prop where
  ex : ∃ fs a0,FsOk c σ h₁ fs ∧ Heap.FlyingW (hideAll h₁ fs) c.stk e (.ref C) a0 h' ∧ h₁.UpToSlots h'

/-- a tree that raises -/
noncomputable def TrR (c : Cx) (f : Fn) (ℓ : Locs) (σ : Store) {α : Type} (t : Env → Sem α) (C : Addr) : Prop :=
  ∀ (A : Around) (p : Pl) (s : Shared) (Q : α → Shared → Prop) (E : Value → Shared → Prop),c.Ok → Room c f.d f.hf A → Here c f ℓ σ p s.heap →
    (∀ e h₁ h' tk,Here c f ℓ σ p h₁ → Step σ σ (Own f p) s.heap h₁ → Flies c σ C e h₁ h' → E (.ref e) { s with heap := h',toks := tk }) →
    wpAny (model c.prog c.w) A (t (f.env p)) Q E s
/-- a tree that raises anew -/
noncomputable def TrM (c : Cx) (f : Fn) (ℓ : Locs) (σ : Store) {α : Type} (t : Env → Sem α) (C : Addr) : Prop :=
  ∀ (A : Around) (p : Pl) (s : Shared) (Q : α → Shared → Prop) (E : Value → Shared → Prop),c.Ok → Room c f.d f.hf A → A.handled = none → Here c f ℓ σ p s.heap →
    (∀ e vs h₁ h' tk,Here c f ℓ σ p h₁ → Step σ σ (Own f p) s.heap h₁ → Heap.MadeExcOf h₁ h' e (.ref C) vs → E (.ref e) { s with heap := h',toks := tk }) →
    wpAny (model c.prog c.w) A (t (f.env p)) Q E s
/-- a call that raises -/
noncomputable def CaR (c : Cx) (d : Nat) (hf : Bool) (σ : Store) (g : AV) (as : List AV) (C : Addr) : Prop :=
  ∀ (A : Around) (s : Shared) (g' : Value) (xs : List Value) (R : Result → Shared → Prop),c.Ok → Room c d hf A → Good c σ s.heap → VR s.heap g g' → VRs s.heap as xs →
    (∀ e h₁ h' tk,Good c σ h₁ → StepC σ σ s.heap h₁ → Flies c σ C e h₁ h' → R (.error (.ref e)) { s with heap := h',toks := tk }) →
    codeAny (model c.prog c.w) A (.call g' ⟨xs,[]⟩) R s

theorem trm_if {t : Expr} {a b rest : List Stmt} {pos : Pos} {C : Addr} (q : Te c f ℓ σ t fun z σ₁ => z = true ∧ σ₁ = σ) (r : TrM c f ℓ σ (execs a) C) : TrM c f ℓ σ (execs (.If t a b pos :: rest)) C := by
  intro A p s Q E ok rm hh H k
  refine wpAny_execs_cons (wpAny_If (q A p s [] _ E ok rm H .nil fun z z' σ₁ h₁ t₁ ⟨e1,e2⟩ H₁ s₁ vz => ?_))
  subst e1 e2 vz
  rw [if_pos rfl]
  exact r A p _ _ E ok rm hh H₁ fun e vs h₂ h' tk H₂ s₂ hx => k e vs h₂ h' tk H₂ (s₁.trans H₁ s₂) hx
theorem trm_raise {x : Str} {np cpos pos : Pos} {e₀ : Expr} {rest : List Stmt} {C : Addr} (X : ExcC c x C) (hx : f.kind x = some .globalImplicit) (hp : plainE e₀ = true) (q : Ev c f ℓ σ e₀ fun _ σ₁ => σ₁ = σ) (hd : (x == ("__debug__" : Str)) = false := by decide) :
    TrM c f ℓ σ (execs (.Raise (some (.Call (.Name x np) [e₀] [] cpos)) none pos :: rest)) C := by
  intro A p s Q E ok rm hh H k
  refine wpAny_execs_cons ?_
  obtain ⟨tl,N,nm,qn,bs,hdct,sn,sub,ab,col,dd,k0,k1,k2,k3,k5,mN,hC,hN,hni,T⟩ := (X.own ok).obj
  refine wpAny_Raise_call_subT (C := C) (nm := nm) (q := qn) (N := N) (bs := bs) (bm := tl) (hdct := hdct) (sn := sn) (sub := sub) (ab := ab) (col := col) (dd := dd) (k0 := k0) (k1 := k1) (k2 := k2) (k3 := k3) (k5 := k5)
    PySem.F.excBase_Exception (mN := mN) (T.hasType PySem.F.excBase_Exception.hasBase) hh (Zp (by simp [hp])) hni ?_
  refine Name_function_global (env := f.env p) H.isFn hx (loadGlobal_global (ok.g.keeps H.good.keep) (mg_of ok.X ok.g X.name) ⟨rfl,?_⟩) hd
  have run := Ua (es := [e₀]) (pos := cpos) (f := f) (ℓ := ℓ) (Φ := fun vs σ₁ => σ₁ = σ ∧ vs.length ≤ 1) (by simp [hp]) (Tr.mono q fun v σ₁ e => ⟨e,by simp⟩)
  have := run A p s [] (fun vs s₂ => vs.length ≤ sizeLine ∧ KeepB c s₂.heap ∧ ∀ h' e,Heap.MadeExcOf s₂.heap h' e (.ref C) vs → E (.ref e) { s₂ with heap := h' }) E ok rm H .nil fun vs vs' σ₁ h₁ t₁ ⟨e1,hl⟩ H₁ s₁ vv => ?_
  · replace this : wpAny _ _ (spliced (backTo cpos (starEach [e₀] (f.env p)))) _ _ _ := this
    rw [Qb hp] at this ⊢
    exact evalArgs_plain (wpAny_mono this (fun vs s₂ h₂ => ⟨rfl,h₂.1,h₂.2.1 _ _ hC,hN.keeps h₂.2.1,T.keeps h₂.2.1,h₂.2.2⟩) fun _ _ y => y)
  · subst e1
    refine ⟨by rw [sizeLine_eq,← vv.length]; omega,H₁.good.keep,fun h' e hx => ?_⟩
    exact k e _ h₁ h' t₁ H₁ s₁ hx

/-- the call of a def that raises -/
theorem car_def {fa C : Addr} {name qual : Str} {params : Arguments} {body : List Stmt} {scope : Scope} {dV kV doc pm cdv ct oc : Value} {an od : Option Addr} {osl : Array (Option Value)} {as : List AV} {ab : List (Str × AV)}
    (D : IsDef c.K fa name qual params body scope dV kV doc pm cdv ct oc an od osl) (hb : Binds c (fnOf name qual params body scope dV kV doc pm an cdv ct) as [] ab) (hk : kindOk scope ab = true) (hf' : hf = true)
    (h : ∀ stk,TrM (c.on stk) ⟨qual ++ ".<locals>.",scope,some fa,cdv,d,hf⟩ (bindA ab fun _ => none) σ (execs body) C) : CaR c (d + 1) hf σ (.val (.ref fa)) as C := by
  intro A s g' xs R ok rm G vg va k
  cases vg
  refine def_enter D hb hk ok rm G va .nil _ rfl fun p h₁ tk H keep above rm' ⟨L,hL,nL⟩ => ?_
  refine h (Fn.env ⟨qual ++ ".<locals>.",scope,some fa,cdv,d,hf⟩ p :: c.stk) (A.deeper _) p { s with heap := h₁,toks := tk } _ _ ⟨ok.X,ok.g,ok.b,ok.lim,ok.bi⟩ rm' (rm'.hand hf') H fun e vs h₂ h₃ tk' H₂ st hx => ?_
  have G₂ : Good c σ h₂ := ⟨H₂.good.keep,H₂.good.obj,H₂.good.new,H₂.good.stat,H₂.good.low,fun env he => H₂.good.fr env (List.mem_cons_of_mem _ he)⟩
  have S₂ : StepC σ σ s.heap h₂ := by
    refine ⟨fun a o e hs _ => st.keep a o (keep a o e) hs fun ow => ?_,fun a e n => absurd e n,fun _ e => e⟩
    exact absurd (Heap.lt_size e) (Nat.not_lt.mpr (above a ow))
  generalize hEnv : Fn.env ⟨qual ++ ".<locals>.",scope,some fa,cdv,d,hf⟩ p = env at *
  have fsk : ∀ e' ∈ env :: c.stk,∀ b,e'.frame = some b → b ∈ (env :: c.stk).filterMap (·.frame) := fun e' he' b hb => List.mem_filterMap.mpr ⟨e',he',hb⟩
  have fok : FsOk c σ h₂ ((env :: c.stk).filterMap (·.frame)) := by
    refine ⟨fun b hb => ?_,fun e' he' b hb => fsk e' (List.mem_cons_of_mem _ he') b hb⟩
    obtain ⟨e',he',hf''⟩ := List.mem_filterMap.mp hb
    obtain ⟨_,L',m,hL',ns,a0,b0⟩ := H₂.good.fr e' he'
    rw [hf''] at hL'; cases hL'
    exact ⟨⟨m,ns⟩,b0,a0⟩
  refine wpAny_leaves_madeW (base := hideAll h₂ ((env :: c.stk).filterMap (·.frame))) (outer := c.stk) rm'.frames hL (fun b o e => of_hideAll _ e) (H₂.good.funFrames fsk fun _ he => he) hx fun h₄ t fl _ _ up => ?_
  exact k e h₂ h₄ tk' G₂ S₂ ⟨_,_,fok,fl,(Heap.UpToSlots.of_keeps hx.keeps).trans up⟩
end
end Mine

set_option autoImplicit false
set_option maxRecDepth 100000
namespace Mine
open PySem PySem.W PySem.Calls PyProof.Rows

section
variable {c : Cx} {f : Fn} {ℓ : Locs} {σ σ' σ'' : Store} {h h' h₀ h'' h₁ : Heap} {p : Pl} {wr : List Addr} {d : Nat} {hf : Bool}

theorem trr_meth {o : Expr} {name : Str} {apos pos : Pos} {e₀ : Expr} {pl : Env → Sem Bool} {C : Addr}
    (h : Ev c f ℓ σ o fun ov σ₁ => σ₁ = σ ∧ ∃ g,MethOf c σ ov name g ∧ CalleeOk c g ∧ Ev c f ℓ σ e₀ fun a σ₂ => σ₂ = σ ∧ CaR c f.d f.hf σ (.val g) [ov,a] C)
    (hp : plainE e₀ = true := by rfl) (he : ∀ env,eval (.Call (.Attribute o name apos) [e₀] [] pos) env = (do
      let ov ← eval o env
      standAt apos.atName
      let (f,first) ← holding [ov] (getMethod ov name (pl env))
      callWith pos f first (backTo pos (starEach [e₀] env)) []) := by intro _; rfl) : TrR c f ℓ σ (eval (.Call (.Attribute o name apos) [e₀] [] pos)) C := by
  intro A p s Q E ok rm H k
  refine MethodCall_ (h A p s [] _ E ok rm H .nil fun ov ov' σ₁ h₁ t₁ ⟨e1,g,hm,hc,q₂⟩ H₁ s₁ vo => ?_) (he _)
  subst e1
  refine hm A _ ov' _ _ E ok H₁.good vo ?_
  refine callWith_of (P := KeepB c) (by rw [Zp (by simp [hp])]; rfl) (fun h' kp => hc.looks ok h' kp) ?_
  have run := Ua (es := [e₀]) (pos := pos) (f := f) (ℓ := ℓ) (σ := σ₁) (Φ := fun as σ₂ => ∃ a,as = [a] ∧ σ₂ = σ₁ ∧ CaR c f.d f.hf σ₁ (.val g) [ov,a] C) (by simp [hp]) (Tr.mono q₂ fun v σ₂ e => ⟨v,rfl,e.1,e.2⟩)
  rw [Qb hp] at *
  refine evalArgs_plain ?_
  have := run A p { s with heap := h₁,toks := t₁ } [] (fun vs s₂ => KeepB c s₂.heap ∧ wpAny (model c.prog c.w) A (call g ([ov'] ++ vs) []) Q E s₂) E ok rm H₁ .nil fun vs vs' σ₂ h₂ t₂ ⟨a,ea,e2,q₃⟩ H₂ s₂ vv => ?_
  · replace this : wpAny _ _ (spliced (backTo pos (starEach [e₀] (f.env p)))) _ _ _ := this
    rw [Qb hp] at this; exact this
  · subst ea e2
    refine ⟨H₂.good.keep,wpAny_call (q₃ A { s with heap := h₂,toks := t₂ } g ([ov'] ++ vs') _ ok rm H₂.good (.val g) (.cons (vo.mono (s₂.tk H₁)) vv) fun e h₃ h₄ tk g₃ st fl => ?_)⟩
    exact k e h₃ h₄ tk (H₂.call st g₃) ((s₁.trans H₁ s₂).trans H₂ (.ofC st)) fl

theorem trr_assign {t e : Expr} {rest : List Stmt} {pos : Pos} {C : Addr} (q : TrR c f ℓ σ (eval e) C)
    (hs : ∀ env,swapsWithSole [t] e pos.line env = pure false := by intro _; rfl) : TrR c f ℓ σ (execs (.Assign [t] e pos :: rest)) C := by
  intro A p s Q E ok rm H k
  refine wpAny_execs_cons ?_
  show wpAny _ _ (exec (.Assign [t] e pos) (f.env p)) _ _ _
  rw [arm_exec_Assign]
  refine wpAny_bind (wpAny_standAt ?_)
  rw [hs]
  refine wpAny_bind (wpAny_pure ?_)
  rw [if_neg (by decide)]
  exact wpAny_bind (q A p s _ E ok rm H k)

/-- a try whose suite passes -/
theorem st_try {body orelse : List Stmt} {hd : ExceptHandler} {hds : List ExceptHandler} {pos : Pos} {Φ : AF → Locs → Store → Prop} (q : Ss c f ℓ σ body (SeqK c f orelse Φ)) : St c f ℓ σ (.Try body (hd :: hds) orelse [] pos) Φ := by
  intro A p s Q E ok rm H k
  show wpAny _ _ (exec (.Try body (hd :: hds) orelse [] pos) (f.env p)) _ _ _
  rw [arm_exec_Try]
  refine wpAny_bind (wpAny_standAt (wpAny_tryStmt_except ?_))
  refine q A p s _ _ ok rm H fun r fl ℓ₁ σ₁ h₁ t₁ q₁ H₁ s₁ fr => ?_
  cases fr with
  | next => exact q₁ A p _ Q E ok rm H₁ fun r fl ℓ₂ σ₂ h₂ t₂ q₂ H₂ s₂ fr => k r fl ℓ₂ σ₂ h₂ t₂ q₂ H₂ (s₁.trans H₁ s₂) fr
  | brk => exact k .brk .brk ℓ₁ σ₁ h₁ t₁ q₁ H₁ s₁ .brk
  | cont => exact k .cont .cont ℓ₁ σ₁ h₁ t₁ q₁ H₁ s₁ .cont
  | ret v => exact k (.ret _) (.ret _) ℓ₁ σ₁ h₁ t₁ q₁ H₁ s₁ (.ret v)

/-- the same place while an exception is being handled -/
noncomputable def Fn.busy (f : Fn) : Fn := { f with hf := false }
theorem Here.busy (H : Here c f ℓ σ p h) : Here c f.busy ℓ σ p h := ⟨H.good,H.isFn,H.ns,H.cell,H.cells,H.inj,H.has,H.off,H.top⟩
theorem Here.unbusy (H : Here c f.busy ℓ σ p h) : Here c f ℓ σ p h := ⟨H.good,H.isFn,H.ns,H.cell,H.cells,H.inj,H.has,H.off,H.top⟩

/-- a try whose suite raises what its clause names -/
theorem st_try_raise {x : Str} {np hpos pos : Pos} {body orelse suite : List Stmt} {b₀ : Stmt} {hds : List ExceptHandler} {C : Addr} {Φ : AF → Locs → Store → Prop} (X : ExcC c x C) (hx : f.kind x = some .globalImplicit) (hfn : f.func.isSome = true)
    (q : TrR c f ℓ σ (execs body) C) (q₂ : Ss c f.busy ℓ σ (b₀ :: suite) Φ) (hd : (x == ("__debug__" : Str)) = false := by decide) :
    St c f ℓ σ (.Try body (.ExceptHandler (some (.Name x np)) none (b₀ :: suite) hpos :: hds) orelse [] pos) Φ := by
  intro A p s Q E ok rm H k
  show wpAny _ _ (exec (.Try body (.ExceptHandler (some (.Name x np)) none (b₀ :: suite) hpos :: hds) orelse [] pos) (f.env p)) _ _ _
  rw [arm_exec_Try]
  refine wpAny_bind (wpAny_standAt (wpAny_tryStmt_except ?_))
  refine q A p s _ _ ok rm H fun e h₁ h₂ tk H₁ s₁ fl => ?_
  obtain ⟨fs,a0,fok,fly,up⟩ := fl.ex
  obtain ⟨outer,L,hstk,hL⟩ := H.top hfn
  have hfrm := rm.frames
  rw [hstk] at hfrm fly
  refine wpAny_looks_onW (s := { s with heap := h₂,toks := tk }) hfrm hL fly fun h₃ held₃ up₃ => ?_
  refine wpAny_landsW (s := { s with heap := h₃,toks := tk }) held₃ fun h₄ fly₄ up₄ => ?_
  obtain ⟨g₄,S₄⟩ := fok.flown H₁.good fly₄.1 ((up.trans up₃).trans up₄)
  have H₄ := H₁.call S₄ g₄
  obtain ⟨ob,hob,hobc⟩ := fly₄.there
  refine wpAny_handleBy_cons (codeAny_handlers_test ?_) (by intro q; cases q)
  refine Name_function_global (env := f.env p) H.isFn hx (loadGlobal_global (ok.g.keeps g₄.keep) (mg_of ok.X ok.g X.name) ?_) hd
  obtain ⟨tl,N,nm,qn,bs,hdct,sn,sub,ab,col,dd,k0,k1,k2,k3,k5,mN,hC,hN,hni,T⟩ := (X.own ok).obj
  refine wpAny_excMatches_sub_self (g₄.keep _ _ hC) hob hobc (T.hasType (by decide)) (codeAny_handlers_suite ?_)
  refine lands_againW (s := { s with heap := h₄,toks := tk }) fly₄ fun h₅ fly₅ up₅ => ?_
  obtain ⟨g₅,S₅⟩ := fok.flown H₁.good fly₅.1 (((up.trans up₃).trans up₄).trans up₅)
  have H₅ := H₁.call S₅ g₅
  refine q₂ (A.mark (some (.ref e))) p { s with heap := h₅,toks := tk } _ _ ok ⟨rm.frames,rm.depth,rm.units,fun h => by cases h⟩ H₅.busy fun r fl ℓ₆ σ₆ h₆ t₆ q₆ H₆ s₆ fr => ?_
  exact k r fl ℓ₆ σ₆ h₆ t₆ q₆ H₆.unbusy ((s₁.trans H₁ (.ofC S₅)).trans H₅ s₆) fr
end
end Mine

set_option autoImplicit false
set_option maxRecDepth 100000
namespace Mine
open PySem PySem.W PySem.Calls PyProof.Rows
section
variable {c : Cx} {f : Fn} {ℓ : Locs} {σ σ' σ'' : Store} {h h' h₀ h'' : Heap} {p : Pl} {wr : List Addr} {d : Nat} {hf : Bool}

/-! ## dict != dict,over data -/
inductive DtKv (c : Cx) (σ : Store) : Es → List (Str × PyData) → Prop
  | nil : DtKv c σ [] []
  | cons {k v x es ds} : Dt c σ v x → DtKv c σ es ds → DtKv c σ ((k,v) :: es) ((k,x) :: ds)
theorem DtKv.append {es es' : Es} {ds ds' : List (Str × PyData)} : DtKv c σ es ds → DtKv c σ es' ds' → DtKv c σ (es ++ es') (ds ++ ds')
  | .nil,s => s
  | .cons a r,s => .cons a (r.append s)
theorem DtKv.names {es : Es} {ds : List (Str × PyData)} : DtKv c σ es ds → es.map (·.1) = ds.map (·.1)
  | .nil => rfl
  | .cons _ r => by rw [List.map_cons,List.map_cons,r.names]
theorem DtKv.get {es : Es} {ds : List (Str × PyData)} : DtKv c σ es ds → ∀ {k : Str} {x : PyData},(k,x) ∈ ds → (ds.map (·.1)).Nodup → ∃ v,es.get k = some v ∧ Dt c σ v x
  | .cons (k := k') (v := v') (x := x') a r,k,x,hm,nd => by
    rw [List.map_cons,List.nodup_cons] at nd
    rcases List.mem_cons.mp hm with e | hm
    · cases e
      exact ⟨v',by unfold Es.get; rw [List.find?_cons]; simp,a⟩
    · obtain ⟨v,hv,hd⟩ := r.get hm nd.2
      have ne : k' ≠ k := by rintro rfl; exact nd.1 (List.mem_map.mpr ⟨(k',x),hm,rfl⟩)
      refine ⟨v,?_,hd⟩
      unfold Es.get at hv ⊢
      rw [List.find?_cons]
      simp only [ne,decide_false]; exact hv
theorem keq_hits_of {A : Around} {s : Shared} {kb : List (Str × Value)} {eb : Es} {D : List (Str × PyData)} (g : Good c σ s.heap) (rb : KRs s.heap eb kb) (hu : A.in1.units + 64 < cLine) (all : ∀ k x,(k,x) ∈ D → SeqAt.shaped x = true ∧ ∃ v,eb.get k = some v ∧ Dt c σ v x) :
    ∀ {ea : Es} {ka : List (Str × Value)} {Da : List (Str × PyData)},KRs s.heap ea ka → DtKv c σ ea Da → (∀ q,q ∈ Da → q ∈ D) → KeqHits A.in1 s kb ka true
  | _,_,_,.nil,.nil,_ => .nil
  | _,_,_,.cons ra r,.cons da dr,sub => by
    rename_i k v x vs xs x' ds
    obtain ⟨sh,v',hv',dv'⟩ := all k x' (sub _ (.head _))
    obtain ⟨y,hy,ry⟩ := rb.get hv'
    obtain ⟨_,q1⟩ := da.reads g ra
    obtain ⟨_,q2⟩ := dv'.reads g ry
    have e := keq_at (A := A) q1 q2 sh sh hu
    rw [SeqAt.eqv_refl _ (SeqAt.canLay_of_shaped sh)] at e
    have := KeqHits.hit (k := k) hy e (keq_hits_of g rb hu all r dr fun q hq => sub q (.tail _ hq))
    exact this
theorem op_ne_dict {a b : Addr} {es es' : Es} {D : List (Str × PyData)} {Φ : AV → Store → Prop} (ha : σ a = some (.dict es)) (hb : σ b = some (.dict es')) (da : DtKv c σ es D) (db : DtKv c σ es' D) (nd : (D.map (·.1)).Nodup)
    (sh : ∀ k x,(k,x) ∈ D → SeqAt.shaped x = true) (φ : Φ (.bool false) σ) : Op c f ℓ σ [.ref a,.ref b] (ap2 (compareOp .NotEq)) Φ :=
  Qc (fun A s x y Q E ok rm g va vb kk => by
    cases va; cases vb
    obtain ⟨ka,hda,ra,lowa⟩ := Q3 ha g
    obtain ⟨kb,hdb,rb,lowb⟩ := Q3 hb g
    have hu : A.units + 60 < cLine := by have := rm.units; show A.units + 60 < 9900; omega
    refine keq_ne (r := true) lowa lowb hda hdb (by have := rm.units; show A.units < 9900; omega) (fun _ => keq_hits_of (A := A) g rb (by have := rm.units; show A.in1.units + 64 < 9900; have : A.in1.units ≤ A.units + 1 := Nat.le_refl _; omega) (fun k x hm => ⟨sh k x hm,db.get hm nd⟩) ra da fun q hq => hq) ?_
    have : ka.length = kb.length := by
      rw [← ra.length,← rb.length]
      have h1 := congrArg List.length da.names
      have h2 := congrArg List.length db.names
      simp only [List.length_map] at h1 h2
      rw [h1,h2]
    rw [this,beq_self_eq_true]
    exact kk _ s.toks (.bool _)) φ

/-! ## isinstance of plain values -/
noncomputable def plainV : AV → Option (Value × Value)
  | .none => some (.none,.type "NoneType")
  | .bool b => some (.bool b,.type "bool")
  | _ => none
theorem cw_isi {v : AV} {x t C : Value} {r : Bool} {Φ : AV → Store → Prop} (hv : plainV v = some (x,t)) (e : kitOne c.K t C = some r) (φ : Φ (.bool r) σ) : Cw c d hf σ (.val (.builtin "isinstance")) [v,.val C] [] Φ :=
  cw2 fun A s x' z Q E ok rm g va vb k => by
    cases vb
    have X := Frag.In.keeps ok.X g.keep
    cases va with
    | none =>
      cases hv
      exact kia_one kitx_none X trivial e (by simp) fun tk => k _ _ σ s.heap tk φ g .refl (.bool r)
    | bool b =>
      cases hv
      exact kia_one kitx_bool X trivial e (by simp) fun tk => k _ _ σ s.heap tk φ g .refl (.bool r)
    | _ => cases hv

/-! ## sorted,over strs -/
theorem vrs_strs : ∀ {ss : List Str} {xs : List Value},StrsAre xs ss → VRs h (strsA ss) xs
  | _,_,.nil => .nil
  | _,_,.cons x t r => .cons (.str x t) (vrs_strs r)
theorem Zi {l : Addr} {ss : List Str} {Φ : AV → Store → Prop} (il : ListIs c σ l (strsA ss)) (hz : ss.length < 64) (φ : ∀ a ss',σ a = none → ss'.Perm ss → sortedS ss' = true → Φ (.ref a) (σ.set a (.list (strsA ss')))) :
    Cw c d hf σ (.val (.builtin "sorted")) [.ref l] [] Φ :=
  cw1 fun A s x Q E ok rm g va k => by
    cases va
    obtain ⟨xs,n,e,r⟩ := Qg il g
    have len := r.size
    refine sorted_strs (vs := xs.toList) (ss := ss) ⟨_,e,rfl,n,rfl⟩ (Y0 r) (by rw [Array.length_toList,← len]; simpa using hz) fun out ss' h1 h2 h3 => ?_
    obtain ⟨n',e'⟩ := sortedAll_at s.heap xs.toList out
    have kp : ∀ b o,s.heap.get? b = some o → (sortedAll s.heap xs.toList out).get? b = some o := fun b o e => sortedAll_old e
    have none1 : s.heap.get? (s.heap.objs.size + 1) = none := by
      cases z : s.heap.get? (s.heap.objs.size + 1) with
      | none => rfl
      | some o => exact absurd (Heap.lt_size z) (Nat.not_lt.mpr (Nat.le_succ _))
    have low : s.heap.objs.size + 1 ≠ sysModules := by
      obtain ⟨o,eo⟩ := g.stat
      have := Heap.lt_size (g.keep _ _ eo)
      exact Nat.ne_of_gt (Nat.lt_succ_of_lt (Nat.lt_trans (by decide) this))
    exact k _ _ _ _ s.toks (φ _ ss' (g.off none1) h2 h3) ((g.ext kp).enter e' (.list (vs := strsA ss') (vrs_strs h1)) (g.off₀ none1) low (g.notFrame none1)) (Step.enter kp none1) (.ref _)
end
end Mine

set_option autoImplicit false
set_option maxRecDepth 100000
namespace Mine
open PySem PySem.W PySem.Calls PyProof.Rows
section
variable {c : Cx} {f : Fn} {ℓ : Locs} {σ σ' σ'' : Store} {h h' h₀ h'' : Heap} {p : Pl} {wr : List Addr} {d : Nat} {hf : Bool}

/-! ## range -/
noncomputable def rangeA (n : Nat) : List AV := (List.range n).map fun (i : Nat) => .int i
theorem rangeA_len (n : Nat) : (rangeA n).length = n := by simp [rangeA]
theorem X8 {n i : Nat} {v : AV} (e : (rangeA n)[i]? = some v) : v = .int i ∧ i < n := by
  unfold rangeA at e
  rw [List.getElem?_map] at e
  cases h : (List.range n)[i]? with
  | none => rw [h] at e; cases e
  | some j =>
    rw [h] at e; cases e
    obtain ⟨h1,h2⟩ := List.getElem?_eq_some_iff.mp h
    rw [List.getElem_range] at h2
    rw [List.length_range] at h1
    exact ⟨by rw [h2],h1⟩
theorem wk_range {t : Expr} {I : Addr} {n : Nat} (ht : ∀ it v,letOwnedTupleGo t it v = pure ()) : Wk c t (rangeA n) I [I] (fun _ => True) (fun i h => IsRangeIter h I (i : Int) ((n : Int) - (i : Int)) 1) where
  frame := fun i h h' st kp _ => kp I (List.mem_singleton.mpr rfl) _ st
  cls := fun i h st b m => by
    rw [List.mem_singleton] at m; subst m
    exact ⟨_,_,st,rfl⟩
  turn := fun A s σ i v Q N E E' hh ok g req st hv k => by
    obtain ⟨rfl,hi⟩ := X8 hv
    refine wpAny_pyNext_range_item st (by omega) fun h' hit' hs' => ?_
    have kb : KeepBut [I] s.heap h' := fun b o nb e => (hs'.2 b fun q => nb (List.mem_singleton.mpr q)).trans e
    refine wpAny_of_eq (ht _ _) (k _ h' _ (.int _ _) ?_ kb)
    have e1 : ((i + 1 : Nat) : Int) = (i : Int) + 1 := by omega
    have e2 : (n : Int) - ((i + 1 : Nat) : Int) = (n : Int) - (i : Int) - 1 := by omega
    show IsRangeIter h' I ((i + 1 : Nat) : Int) ((n : Int) - ((i + 1 : Nat) : Int)) 1
    rw [e2,e1]; exact hit'
  done := fun A s σ N E hh ok g req st k => by
    rw [rangeA_len] at st
    refine wpAny_pyNext_range_end hh st (by omega) fun h' hx => ⟨rfl,?_⟩
    exact k h' s.toks fun b o nb e => hx b o (fun q => nb (List.mem_singleton.mpr q)) e
  self := fun A s i Q E st hQ => wpAny_pyIter_rangeiter st hQ
theorem itr_range {e : Expr} {t : Expr} {npos pos : Pos} {n : Nat} {Φ : List AV → (Store → Prop) → Store → Prop}
    (hg : f.kind "range" = some .globalImplicit) (hn : nsIn c.K mainGlobals "range" = some none) (ht : ∀ it v,letOwnedTupleGo t it v = pure ())
    (q : Ev c f ℓ σ e fun v σ₁ => v = .int n ∧ Φ (rangeA n) (fun _ => True) σ₁) (hs : Builtin.Range.small 0 n 1 = true := by decide) (hz : Builtin.Range.rangeSize 0 n 1 = n := by decide)
    (hp : plainE e = true := by rfl) (he : ∀ env,eval (.Call (.Name "range" npos) [e] [] pos) env = (do callWith pos (← eval (.Name "range" npos) env) [] (backTo pos (starEach [e] env)) (backToKw pos (keywordEach [] env))) := by intro _; rfl) :
    Itr c f ℓ σ (.Call (.Name "range" npos) [e] [] pos) t Φ := by
  intro A p s Q E ok rm hh H k
  refine call_direct (g := .type "range") (es := [e]) (Φ := fun as σ₁ => as = [.int n] ∧ Φ (rangeA n) (fun _ => True) σ₁)
    (Jt hg hn (by rfl) ⟨rfl,rfl⟩) (.inr fun _ => by simp) ?_ (by simp) (by simp [hp]) he A p s _ E ok rm H ?_
  · exact Tr.mono q fun v σ₁ ⟨a,b⟩ => ⟨by rw [a],b⟩
  · rintro as xs σ₁ h₁ t₁ ⟨rfl,φ⟩ H₁ s₁ va
    cases va with
    | cons vl r =>
      cases r; cases vl
      rename_i tn
      refine call_range_1 ?_
      have none1 : ∀ a,h₁.objs.size ≤ a → h₁.get? a = none := fun a ha => by
        cases z : h₁.get? a with
        | none => rfl
        | some o => exact absurd (Heap.lt_size z) (Nat.not_lt.mpr ha)
      refine wpAny_pyIter_range (Heap.get?_push_size _ rfl) hs ?_
      rw [hz]
      have kp : ∀ b o,h₁.get? b = some o → ((h₁.push { cls := .type "range",data := .fields #[.int 0 t₁,.int n tn,.int 1 (t₁ + 1)] }).push { cls := .type "range_iterator",data := .fields #[rawInt 0,rawInt n,rawInt 1] }).get? b = some o :=
        fun b o e => Heap.get?_push_of_some _ (Heap.get?_push_of_some _ e)
      have sz : (h₁.push { cls := .type "range",data := .fields #[.int 0 t₁,.int n tn,.int 1 (t₁ + 1)] }).objs.size = h₁.objs.size + 1 := size_push' _ _
      have n1 := none1 (h₁.objs.size + 1) (Nat.le_succ _)
      have old : ∀ b,h₁.get? b = none → s.heap.get? b = none ∧ σ₁ b = none := fun b e' => by
        refine ⟨?_,H₁.good.off e'⟩
        cases e : s.heap.get? b with
        | none => rfl
        | some o =>
          by_cases ob : Own f p b
          · exact absurd e' (H₁.own_alive ob)
          · cases z : σ b with
            | none => exact absurd e' (s₁.keep b o e z ob).alive
            | some z' =>
              cases z₁ : σ₁ b with
              | none => exact absurd z₁ (s₁.stay b (by rw [z]; simp))
              | some o₁ => obtain ⟨oc,e₁,_⟩ := H₁.good.obj b o₁ z₁; rw [e₁] at e'; cases e'
      refine k _ [_] _ _ _ σ₁ _ _ φ (wk_range (c := c) (n := n) ht) ?_ (H₁.ext kp) (s₁.trans H₁ (.ext kp)) fun b m => ?_
      · show IsRangeIter _ _ ((0 : Nat) : Int) ((n : Int) - ((0 : Nat) : Int)) 1
        rw [show (n : Int) - ((0 : Nat) : Int) = n by omega]
        exact Heap.get?_push_size _ rfl
      · rw [List.mem_singleton] at m; subst m; rw [sz]; exact old _ n1

/-! ## small powers of two,the letters of a str,`is False` -/
theorem op_pow2 {k : Nat} {Φ : AV → Store → Prop} (hk : k < 4) (φ : Φ (.int ((2 : Int) ^ k)) σ) : Op c f ℓ σ [.int 2,.int k] (ap2 (binaryOp .Pow)) Φ :=
  Qc (fun A s x y Q E ok rm g va vb kk => by
    cases va; cases vb
    match k,hk with
    | 0,_ => exact AutoIntOps.pow_0 (by decide) (by decide) (kk _ _ (.int _ _))
    | 1,_ => exact AutoIntOps.pow_4 (by decide) (by decide) (by decide) (by decide) (by decide) (kk _ _ (.int _ _))
    | 2,_ => exact AutoIntOps.pow_4 (by decide) (by decide) (by decide) (by decide) (by decide) (kk _ _ (.int _ _))
    | 3,_ => exact AutoIntOps.pow_4 (by decide) (by decide) (by decide) (by decide) (by decide) (kk _ _ (.int _ _))) φ
theorem op_sub_str {e sl : Expr} {x : Str} {i : Int} {ch : Nat} {Φ : AV → Store → Prop} (hs : PlainSub sl) (h0 : 0 ≤ i) (h1 : i < 2 ^ 63) (hc : (seqIndex? i x.length).bind (x.cps[·]?) = some ch) (φ : Φ (.str ⟨#[ch]⟩) σ) :
    Op c f ℓ σ [.str x,.int i] (ap2 (subscriptTail e sl)) Φ :=
  Qc (fun A s a y Q E ok rm g va vb kk => by
    cases va; cases vb
    refine tail_any (T := "str") rfl PySem.F.slot_str_getitem.lookup (getItem_str (by simp; omega) hc (kk _ _ (.str _ _))) (hs _ _)) φ
noncomputable def isFalse : AV → Bool
  | .bool false => true
  | _ => false
theorem op_is_false {v : AV} {x t : Value} {Φ : AV → Store → Prop} (hv : plainV v = some (x,t)) (φ : Φ (.bool (isFalse v)) σ) : Op c f ℓ σ [v,.bool false] (ap2 (compareOp .Is)) Φ :=
  Qc (fun A s x y Q E ok rm g va vb k => by
    cases vb
    cases va with
    | none => exact wpAny_bind (wpAny_pure (wpAny_pure (k _ s.toks (.bool _))))
    | bool b => cases b <;> exact wpAny_bind (wpAny_pure (wpAny_pure (k _ s.toks (.bool _))))
    | _ => cases hv) φ

/-! ## [::-1] -/
theorem ev_slice_rev {e : Expr} {k : Nat} {kpos upos spos pos : Pos} {Φ : AV → Store → Prop}
    (q : Ev c f ℓ σ e fun v σ₁ => ∃ l vs,v = .ref l ∧ ListIs c σ₁ l vs ∧ vs.length ≤ 1000 ∧ ∀ a,σ₁ a = none → Φ (.ref a) (σ₁.set a (.list vs.reverse))) :
    Ev c f ℓ σ (.Subscript e (.Slice none none (some (.UnaryOp .USub (.Constant (.int 1) k kpos) upos)) spos) pos) Φ := by
  intro A p s xs Q E ok rm H _ kk
  refine Subscript_ (q A p s [] _ E ok rm H .nil fun v v' σ₁ h₁ t₁ q₁ H₁ s₁ vv => wpAny_Slice ?_)
  rw [evalPart_none]
  refine wpAny_pure ?_
  refine wpAny_pure ?_
  rw [evalPart_some]
  have un : Ev c f ℓ σ₁ (.UnaryOp .USub (.Constant (.int 1) k kpos) upos) fun w σ₂ => w = .int (-1) ∧ σ₂ = σ₁ := ev_un (Ji (op_neg ⟨rfl,rfl⟩))
  refine un A p { s with heap := h₁,toks := t₁ } [] _ E ok rm H₁ .nil fun w w' σ₂ h₂ t₂ qq H₂ s₂ vw => ?_
  obtain ⟨rfl,rfl⟩ := qq
  obtain ⟨l,vs,rfl,il,hz,φ⟩ := q₁
  cases vv
  cases vw
  obtain ⟨ys,n,e,r⟩ := Qg il H₂.good
  rename_i tk
  have hl : (h₂.push { cls := .type "slice",data := .fields #[.none,.none,.int (-1) tk] }).IsList l ys := ⟨_,Heap.get?_push_of_some _ e,rfl,n,rfl⟩
  refine tail_any (ops := [.ref l,.ref h₂.objs.size]) (T := "list") hl.typeIs slot_list_getitem.lookup (wpAny_getItem_list_slice hl (Heap.IsSliceOf.new ..) .none .none (.int (-1) tk) (by decide) ?_ (by rw [sizeLine_eq]; have := r.size; omega)) rfl
  rw [krv_pick]
  have H₃ := H₂.push { cls := .type "slice",data := .fields #[.none,.none,.int (-1) tk] }
  have rr : OR c.prog c.w ((h₂.push { cls := .type "slice",data := .fields #[.none,.none,.int (-1) tk] }).push (listObj ys.toList.reverse.toArray 0)) (.list vs.reverse) (listObj ys.toList.reverse.toArray 0) := .list (by
    rw [List.toList_toArray]
    exact r.reverse.mono ((TK.push _).trans (TK.push _)))
  have S₃ := (s₁.trans H₁ s₂).trans H₂ (.ofC (Step.push (σ := σ₂) { cls := .type "slice",data := .fields #[.none,.none,.int (-1) tk] }))
  exact kk _ _ _ _ _ (φ _ H₃.good.size_off) (H₃.alloc rr) (S₃.trans H₃ (.ofC .alloc)) (.ref _)

/-! ## dict(d),del d[k] -/
theorem cw_dict_copy {D : Addr} {es : Es} {Φ : AV → Store → Prop} (i : σ D = some (.dict es)) (hz : es.length ≤ 1000) (φ : ∀ a,σ a = none → Φ (.ref a) (σ.set a (.dict es))) : Cw c d hf σ (.val (.type "dict")) [.ref D] [] Φ :=
  cw1 fun A s x Q E ok rm g va k => by
    cases va
    obtain ⟨kvs,hd,r,low⟩ := Q3 i g
    refine kt_call_dict low hd (by rw [sizeLine_eq,← r.length]; omega) fun h' hd' hs => ?_
    obtain ⟨o',e',i'⟩ := Heap.dictOf_iff.mp hd'
    have kp : ∀ b o,s.heap.get? b = some o → h'.get? b = some o := fun b o e => by
      have ne : b ≠ s.heap.objs.size := Nat.ne_of_lt (Heap.lt_size e)
      exact (hs.2 b ne).trans (Heap.get?_push_of_some _ e)
    exact k _ _ _ h' _ (φ _ g.size_off) ((g.ext kp).enter e' (.dict i' (r.mono fun a ys e => kp _ _ e)) g.base_size g.size_low (g.notFrame (Yg _))) (Step.enter kp (Yg _)) (.ref _)
theorem opu_del_dict {D : Addr} {es : Es} {k : Str} {Φ : Store → Prop} (i : σ D = some (.dict es)) (hz : es.length ≤ 1000) (hk : (es.get k).isSome = true) (φ : Φ (σ.set D (.dict (es.del k)))) : OpU c f ℓ σ [.ref D,.str k] (ap2 delItem) Φ := by
  intro A p s xs Q E ok rm H va kk
  cases va with
  | cons vd r => cases r with
    | cons vk r =>
      cases r; cases vd; cases vk
      rename_i tk
      obtain ⟨kvs,hD,r,low⟩ := Q3 i H.good
      have there : (valueAt kvs k).isSome = true := by
        obtain ⟨v,hv⟩ := Option.isSome_iff_exists.mp hk
        obtain ⟨x,hx,_⟩ := r.get hv
        rw [hx]; rfl
      show wpAny _ A (delItem (.ref D) (.str k tk)) _ _ _
      unfold delItem
      try with_reducible refine wpAny_holding ?_
      refine wpAny_bind (wpAny_sequenceKey hD.typeIs (by decide) ?_)
      refine wpAny_bind (wpAny_callSpecial?_slot (name := Str.ofString "__delitem__") hD.typeIs PySem.F.slot_dict_delitem
        (call_meetsIn PySem.F.slot_dict_delitem hD.typeIs PySem.F.entry_dict_delitem (PySem.F.args_dict_delitem_2 _ _) (meets_dict_delitem_pairs (PySem.strKind c.prog c.w) D (strKind_is c.prog c.w k _)) ⟨kvs,hD,(by rw [sizeLine_eq,← r.length]; omega),there,fun h' hd' hs => ?_⟩))
      obtain ⟨H',st⟩ := dict_turned (es' := es.del k) H i hd' hs fun tk => (r.mono tk).del k
      exact wpAny_pure (kk () () _ h' _ φ H' st trivial)

/-! ## in a tuple of strs -/
theorem Yu {ss : List Str} {k : Str} {Φ : AV → Store → Prop} (hs : ∀ x ∈ ss,PyData.strOk x = true) (hk : PyData.strOk k = true) (φ : Φ (.bool (ss.any (· == k))) σ) : Op c f ℓ σ [.str k,.tup (strsA ss)] (ap2 (compareOp .In)) Φ :=
  Qc (fun A s x y Q E ok rm g va vb kk => by
    obtain ⟨_,ra⟩ := (Dt.str (c := c) (σ := σ) k).reads g va
    obtain ⟨_,rb⟩ := (Dt.tup (c := c) (σ := σ) (Qp ss)).reads g vb
    refine SeqAt.in_tuple_reads rb ra (Uh hs) hk (by rw [X7]; have := rm.units; show A.units + 1 + min 0 _ < 9900; omega) ?_
    have : ((ss.map PyData.str).any fun y => PyData.eqv y (.str k)) = ss.any (· == k) := by
      rw [List.any_map]; rfl
    rw [this]; exact kk _ s.toks (.bool _)) φ
end
end Mine

open PySem PySem.W PyProof.Rows
set_option Elab.async false
set_option maxRecDepth 1000000
set_option maxHeartbeats 0
set_option autoImplicit false
set_option linter.unusedVariables false
namespace Mine
noncomputable section
abbrev pg : Program := PySem.Challenge.pw_az0001_01
noncomputable def subB : Stmt → List Stmt | .FunctionDef _ _ b .. => b | .ClassDef _ _ _ b .. => b | _ => []
noncomputable def subA : Stmt → Arguments | .FunctionDef _ a .. => a | _ => ⟨[],[],none,[],[],none,[]⟩
noncomputable def subS : Stmt → Scope | .FunctionDef _ _ _ _ _ _ s .. => s | .ClassDef _ _ _ _ _ _ s .. => s | _ => ⟨.module,[],false,false,[]⟩
noncomputable def nth : List Stmt → Nat → Stmt | [],_ => .Pass ⟨0,0,0,0⟩ | x :: _,0 => x | _ :: r,n + 1 => nth r n
noncomputable def walkTo : List Stmt → List Nat → Stmt | _,[] => .Pass ⟨0,0,0,0⟩ | b,[i] => nth b i | b,i :: r => walkTo (subB (nth b i)) r
noncomputable def fS (p : List Nat) : Stmt := walkTo pg.main.body p
noncomputable def fb (p : List Nat) : FuncBody := .stmts (subB (fS p))
noncomputable def fa (p : List Nat) : Arguments := subA (fS p)
noncomputable def fs (p : List Nat) : Scope := subS (fS p)

noncomputable def ev : Env := { scope := pg.main.scope,locals := mainNs,globals := mainNs,cells := [],code := (Value.ref 13),frame := some 14 }
noncomputable def cE : Code := .body (behindTheImports pg) ev
noncomputable def qE : Pos := ⟨0,0,0,0⟩
noncomputable def annE : Option Value := (Option.some (Value.ref 6))
noncomputable def Zf (P : Params) : Obj := (Obj.mk (Value.type "tuple") Option.none (Data.seq #[] 0) #[])
noncomputable def o12_0 (P : Params) : Obj := (Obj.mk Value.none Option.none (Data.fields #[]) #[])
noncomputable def Zg (P : Params) : Obj := (Obj.mk (Value.type "code") Option.none (Data.fields #[(Value.str (Str.ofString "<module>") 182),(Value.str (Str.ofString "<module>") 183),(Value.str (Str.ofString "/claim/cut.py") 184),(Value.int 1 0),(Value.int 0 0),(Value.int 0 0),(Value.int 0 0),(Value.int 0 0),(Value.ref 11),(Value.bool Bool.false),(Value.int 181 0),(Value.ref 12),Value.none,Value.none,Value.none,Value.none,(Value.int 185 0),(Value.int 1 0),(Value.str (Str.ofString "/claim/cut.py") 186)]) #[])
noncomputable def Zh (P : Params) : Obj := (Obj.mk (Value.type "frame") Option.none Data.plain #[(Option.some (Value.ref 13)),(Option.some (Value.ref 3)),(Option.some (Value.ref 3)),Option.none,(Option.some (Value.str (Str.ofString "__main__") 164)),Option.none,(Option.some (Value.ref 0))])
noncomputable def lifeA : Life := (Life.mk [] [] [] 0 [] [] Bool.false #[] [] 0 Bool.false Bool.false Bool.false 0 [2000,10,10] Bool.false 0 Bool.true [] [] 0 Bool.false)
noncomputable def hpA (P : Params) : Heap := ⟨Array.mk [boot_o_0 P,boot_o_1 P,boot_o_2 P,boot_o_3 P,boot_o_4 P,boot_o_5 P,boot_o_6 P,boot_o_7 P,boot_o_8 P,boot_o_9 P,boot_o_10 P,Zf P,o12_0 P,Zg P,Zh P],lifeA⟩
noncomputable def drA : Drawn := (Drawn.mk 0 0 0 0)
noncomputable def stA (w : World) (os : OsState) : Shared := ⟨hpA w.params,#[],drA,187,os⟩
theorem pre_go : ∀ (w : World) (os : OsState),topGo treeTable pg w 11 annE 12 ⟨boot_heap w.params,Array.mk [],boot_drawn,boot_toks,os⟩ (topStub pg) = some (stA w os,⟨denote treeTable cE,cE,⟨0,0,0,0⟩,[topFrame qE]⟩) := by intro w os; kernel_rfl
noncomputable def tr0 (P : Params) : BT := (.node (boot_o_0 P) (.node (boot_o_1 P) (.node (boot_o_3 P) (.node (boot_o_7 P) .nil .nil) (.node (Zf P) .nil .nil)) (.node (boot_o_5 P) (.node (boot_o_9 P) .nil .nil) (.node (Zg P) .nil .nil))) (.node (boot_o_2 P) (.node (boot_o_4 P) (.node (boot_o_8 P) .nil .nil) (.node (o12_0 P) .nil .nil)) (.node (boot_o_6 P) (.node (boot_o_10 P) .nil .nil) (.node (Zh P) .nil .nil))))
noncomputable def lf0 : Life := (Life.mk [] [] [] 0 [] [] Bool.false #[] [] 0 Bool.false Bool.false Bool.false 0 [2000,10,10] Bool.false 0 Bool.true [] [] 0 Bool.false)
noncomputable def dr0 : Drawn := (Drawn.mk 0 0 0 0)
noncomputable def st0 (w : World) (os : OsState) : SharedT := ⟨tr0 w.params,15,lf0,#[],dr0,187,os⟩
theorem block_go : ∀ (w : World) (os : OsState),segRun treeTable pg w 11 annE 1 1 (stA w os) (blockOf (behindTheImports pg) ev cE ⟨0,0,0,0⟩ [topFrame qE]) = some (.next,(st0 w os).abs,cE,⟨0,0,0,0⟩) := by intro w os; kernel_rfl

noncomputable def o2_2 (P:Params):Obj:=(Obj.mk .none none (.dict #[(DictEntry.mk (PyData.keyHash P "type.__subclasses__.Exception.0") (.str "type.__subclasses__.Exception.0" 212) (.int 31 0)),(DictEntry.mk (PyData.keyHash P "type.__subclasses__.Exception.n") (.str "type.__subclasses__.Exception.n" 213) (.int 1 0))] 2) #[])
noncomputable def o3_2 (P:Params):Obj:=(Obj.mk (.type "dict") none (.dict #[(DictEntry.mk (PyData.keyHash P "__name__") (.str "__name__" 165) (.str "doit.dependency" 194)),(DictEntry.mk (PyData.keyHash P "__doc__") (.str "__doc__" 166) .none),(DictEntry.mk (PyData.keyHash P "__package__") (.str "__package__" 167) .none),(DictEntry.mk (PyData.keyHash P "__loader__") (.str "__loader__" 168) (.builtin "__main__.__loader__#opaque")),(DictEntry.mk (PyData.keyHash P "__spec__") (.str "__spec__" 169) .none),(DictEntry.mk (PyData.keyHash P "__annotations__") (.str "__annotations__" 170) (.ref 6)),(DictEntry.mk (PyData.keyHash P "__builtins__") (.str "__builtins__" 171) (.ref 4)),(DictEntry.mk (PyData.keyHash P "__file__") (.str "__file__" 173) (.str "/claim/cut.py" 172)),(DictEntry.mk (PyData.keyHash P "__cached__") (.str "__cached__" 174) .none),(DictEntry.mk (PyData.keyHash P "_wall") (.str "_wall" 193) (.ref 21)),(DictEntry.mk (PyData.keyHash P "MissingFile") (.str "MissingFile" 215) (.ref 31)),(DictEntry.mk (PyData.keyHash P "get_md5") (.str "get_md5" 222) (.ref 41)),(DictEntry.mk (PyData.keyHash P "JsonDB") (.str "JsonDB" 300) (.ref 100))] 13) #[])
noncomputable def o12_2 (P:Params):Obj:=(Obj.mk .none none (.fields #[(.int 1 0),(.int 0 0),(.ref 20),(.int 5 0),(.int 0 0),(.ref 27),(.int 7 0),(.int 0 0),(.ref 40),(.int 9 0),(.int 0 0),(.ref 47)]) #[])
noncomputable def Ui (P:Params):Obj:=(Obj.mk (.type "tuple") none (.seq #[] 0) #[])
noncomputable def X9 (P:Params):Obj:=(Obj.mk .none none (.fields #[]) #[])
noncomputable def Uj (P:Params):Obj:=(Obj.mk (.type "tuple") none (.seq #[(.str "k" 190)] 0) #[])
noncomputable def Uk (P:Params):Obj:=(Obj.mk (.type "tuple") none (.seq #[] 0) #[])
noncomputable def Ha (P:Params):Obj:=(Obj.mk .none none (.func (FuncData.mk "_wall" "_wall" (fa [0]) (fb [0]) (fs [0]) 0 [] .none .none .none .none none .none .none 0)) #[])
noncomputable def Ul (P:Params):Obj:=(Obj.mk (.type "code") none (.fields #[(.str "_wall" 187),(.str "_wall" 188),(.str "/claim/cut.py" 189),(.int 1 0),(.int 1 0),(.int 0 0),(.int 0 0),(.int 3 0),(.ref 15),(.bool true),(.int 181 0),(.ref 16),.none,(.ref 17),(.ref 18),(.ref 19),(.int 191 0),(.int 1 0),(.str "/claim/cut.py" 192)]) #[])
noncomputable def Um (P:Params):Obj:=(Obj.mk (.type "function") none (.func (FuncData.mk "_wall" "_wall" (fa [0]) (fb [0]) (fs [0]) 3 [] .none .none .none (.str "__main__" 164) none (.ref 20) .none 0)) #[])
noncomputable def Un (P:Params):Obj:=(Obj.mk (.type "tuple") none (.seq #[(.type "Exception")] 0) #[])
noncomputable def Uo (P:Params):Obj:=(Obj.mk (.type "builtin_function_or_method") none (.fields #[(.builtin "type.__prepare__"),(.type "type")]) #[])
noncomputable def Up (P:Params):Obj:=(Obj.mk (.type "dict") none (.dict #[(DictEntry.mk (PyData.keyHash P "__module__") (.str "__module__" 203) (.str "doit.dependency" 194)),(DictEntry.mk (PyData.keyHash P "__qualname__") (.str "__qualname__" 205) (.str "MissingFile" 204)),(DictEntry.mk (PyData.keyHash P "__firstlineno__") (.str "__firstlineno__" 207) (.int 5 206)),(DictEntry.mk (PyData.keyHash P "__static_attributes__") (.str "__static_attributes__" 208) (.ref 29))] 4) #[])
noncomputable def Uq (P:Params):Obj:=(Obj.mk (.type "tuple") none (.seq #[] 0) #[])
noncomputable def Hb (P:Params):Obj:=(Obj.mk .none none (.fields #[]) #[])
noncomputable def Ur (P:Params):Obj:=(Obj.mk (.type "code") none (.fields #[(.str "MissingFile" 198),(.str "MissingFile" 199),(.str "/claim/cut.py" 200),(.int 5 0),(.int 0 0),(.int 0 0),(.int 0 0),(.int 0 0),(.ref 25),(.bool false),(.int 181 0),(.ref 26),.none,.none,.none,.none,(.int 201 0),(.int 5 0),(.str "/claim/cut.py" 202)]) #[])
noncomputable def Us (P:Params):Obj:=(Obj.mk (.type "frame") none .plain #[(some (.ref 27)),(some (.ref 3)),(some (.ref 24)),none,(some (.str "doit.dependency" 194)),none,(some (.ref 0))])
noncomputable def Ut (P:Params):Obj:=(Obj.mk (.type "tuple") none (.seq #[] 0) #[])
noncomputable def Uu (P:Params):Obj:=(Obj.mk (.type "dict") none (.dict #[(DictEntry.mk (PyData.keyHash P "__module__") (.str "__module__" 203) (.str "doit.dependency" 194)),(DictEntry.mk (PyData.keyHash P "__firstlineno__") (.str "__firstlineno__" 207) (.int 5 206)),(DictEntry.mk (PyData.keyHash P "__static_attributes__") (.str "__static_attributes__" 208) (.ref 29)),(DictEntry.mk (PyData.keyHash P "__weakref__") (.str "__weakref__" 210) (.ref 32)),(DictEntry.mk (PyData.keyHash P "__doc__") (.str "__doc__" 211) .none)] 3) #[])
noncomputable def Uv (P:Params):Obj:=(Obj.mk (.type "type") none (.cls (ClassData.mk "MissingFile" [(.type "Exception")] [(.ref 31),(.type "Exception"),(.type "BaseException"),(.type "object")] 30 "MissingFile" true [] [] false none false)) #[(some (.ref 22)),none,(some (.str "MissingFile" 196)),(some (.str "MissingFile" 204)),(some (.builtin "Exception.__new__")),(some (.bool true))])
noncomputable def Uw (P:Params):Obj:=(Obj.mk (.type "getset_descriptor") none (.fields #[(.str "__weakref__" 209),(.ref 31),(.builtin "ExceptionGroup.__weakref__"),.none]) #[])
noncomputable def Ux (P:Params):Obj:=(Obj.mk (.type "super") none (.fields #[(.ref 31),(.ref 31),(.ref 31)]) #[])
noncomputable def Uy (P:Params):Obj:=(Obj.mk (.type "builtin_function_or_method") none (.fields #[(.builtin "object.__init_subclass__"),(.ref 31)]) #[])
noncomputable def Uz (P:Params):Obj:=(Obj.mk (.type "tuple") none (.seq #[] 0) #[])
noncomputable def Hc (P:Params):Obj:=(Obj.mk .none none (.fields #[]) #[])
noncomputable def U0 (P:Params):Obj:=(Obj.mk (.type "tuple") none (.seq #[(.str "input_data" 219)] 0) #[])
noncomputable def U1 (P:Params):Obj:=(Obj.mk (.type "tuple") none (.seq #[] 0) #[])
noncomputable def Hd (P:Params):Obj:=(Obj.mk .none none (.func (FuncData.mk "get_md5" "get_md5" (fa [3]) (fb [3]) (fs [3]) 0 [] .none .none .none .none none .none .none 0)) #[])
noncomputable def U2 (P:Params):Obj:=(Obj.mk (.type "code") none (.fields #[(.str "get_md5" 216),(.str "get_md5" 217),(.str "/claim/cut.py" 218),(.int 7 0),(.int 1 0),(.int 0 0),(.int 0 0),(.int 3 0),(.ref 35),(.bool true),(.int 181 0),(.ref 36),.none,(.ref 37),(.ref 38),(.ref 39),(.int 220 0),(.int 7 0),(.str "/claim/cut.py" 221)]) #[])
noncomputable def U3 (P:Params):Obj:=(Obj.mk (.type "function") none (.func (FuncData.mk "get_md5" "get_md5" (fa [3]) (fb [3]) (fs [3]) 3 [] .none .none .none (.str "doit.dependency" 194) none (.ref 40) .none 0)) #[])
noncomputable def U4 (P:Params):Obj:=(Obj.mk (.type "tuple") none (.seq #[] 0) #[])
noncomputable def U5 (P:Params):Obj:=(Obj.mk (.type "builtin_function_or_method") none (.fields #[(.builtin "type.__prepare__"),(.type "type")]) #[])
noncomputable def U6 (P:Params):Obj:=(Obj.mk (.type "dict") none (.dict #[(DictEntry.mk (PyData.keyHash P "__module__") (.str "__module__" 230) (.str "doit.dependency" 194)),(DictEntry.mk (PyData.keyHash P "__qualname__") (.str "__qualname__" 232) (.str "JsonDB" 231)),(DictEntry.mk (PyData.keyHash P "__firstlineno__") (.str "__firstlineno__" 234) (.int 9 233)),(DictEntry.mk (PyData.keyHash P "__init__") (.str "__init__" 242) (.ref 55)),(DictEntry.mk (PyData.keyHash P "dump") (.str "dump" 249) (.ref 62)),(DictEntry.mk (PyData.keyHash P "set") (.str "set" 259) (.ref 69)),(DictEntry.mk (PyData.keyHash P "get") (.str "get" 268) (.ref 76)),(DictEntry.mk (PyData.keyHash P "in_") (.str "in_" 276) (.ref 83)),(DictEntry.mk (PyData.keyHash P "remove") (.str "remove" 284) (.ref 90)),(DictEntry.mk (PyData.keyHash P "remove_all") (.str "remove_all" 291) (.ref 97)),(DictEntry.mk (PyData.keyHash P "__static_attributes__") (.str "__static_attributes__" 293) (.ref 98))] 11) #[])
noncomputable def U7 (P:Params):Obj:=(Obj.mk (.type "tuple") none (.seq #[] 0) #[])
noncomputable def He (P:Params):Obj:=(Obj.mk .none none (.fields #[(.int 11 0),(.int 4 0),(.ref 54),(.int 14 0),(.int 4 0),(.ref 61),(.int 17 0),(.int 4 0),(.ref 68),(.int 22 0),(.int 4 0),(.ref 75),(.int 26 0),(.int 4 0),(.ref 82),(.int 29 0),(.int 4 0),(.ref 89),(.int 33 0),(.int 4 0),(.ref 96)]) #[])
noncomputable def U8 (P:Params):Obj:=(Obj.mk (.type "code") none (.fields #[(.str "JsonDB" 225),(.str "JsonDB" 226),(.str "/claim/cut.py" 227),(.int 9 0),(.int 0 0),(.int 0 0),(.int 0 0),(.int 0 0),(.ref 45),(.bool false),(.int 181 0),(.ref 46),.none,.none,.none,.none,(.int 228 0),(.int 9 0),(.str "/claim/cut.py" 229)]) #[])
noncomputable def U9 (P:Params):Obj:=(Obj.mk (.type "frame") none .plain #[(some (.ref 47)),(some (.ref 3)),(some (.ref 44)),none,(some (.str "doit.dependency" 194)),none,(some (.ref 0))])
noncomputable def Wa (P:Params):Obj:=(Obj.mk (.type "tuple") none (.seq #[] 0) #[])
noncomputable def Hf (P:Params):Obj:=(Obj.mk .none none (.fields #[]) #[])
noncomputable def Wb (P:Params):Obj:=(Obj.mk (.type "tuple") none (.seq #[(.str "self" 238),(.str "db" 239)] 0) #[])
noncomputable def Wc (P:Params):Obj:=(Obj.mk (.type "tuple") none (.seq #[] 0) #[])
noncomputable def Hg (P:Params):Obj:=(Obj.mk .none none (.func (FuncData.mk "__init__" "JsonDB.__init__" (fa [4,0]) (fb [4,0]) (fs [4,0]) 0 [] .none .none .none .none none .none .none 0)) #[])
noncomputable def Wf (P:Params):Obj:=(Obj.mk (.type "code") none (.fields #[(.str "__init__" 235),(.str "JsonDB.__init__" 236),(.str "/claim/cut.py" 237),(.int 11 0),(.int 2 0),(.int 0 0),(.int 0 0),(.int 3 0),(.ref 49),(.bool true),(.int 181 0),(.ref 50),.none,(.ref 51),(.ref 52),(.ref 53),(.int 240 0),(.int 11 0),(.str "/claim/cut.py" 241)]) #[])
noncomputable def Wg (P:Params):Obj:=(Obj.mk (.type "function") none (.func (FuncData.mk "__init__" "JsonDB.__init__" (fa [4,0]) (fb [4,0]) (fs [4,0]) 3 [] .none .none .none (.str "doit.dependency" 194) none (.ref 54) .none 0)) #[])
noncomputable def Wh (P:Params):Obj:=(Obj.mk (.type "tuple") none (.seq #[] 0) #[])
noncomputable def Hh (P:Params):Obj:=(Obj.mk .none none (.fields #[]) #[])
noncomputable def Wi (P:Params):Obj:=(Obj.mk (.type "tuple") none (.seq #[(.str "self" 246)] 0) #[])
noncomputable def Wj (P:Params):Obj:=(Obj.mk (.type "tuple") none (.seq #[] 0) #[])
noncomputable def Hi (P:Params):Obj:=(Obj.mk .none none (.func (FuncData.mk "dump" "JsonDB.dump" (fa [4,1]) (fb [4,1]) (fs [4,1]) 0 [] .none .none .none .none none .none .none 0)) #[])
noncomputable def Wl (P:Params):Obj:=(Obj.mk (.type "code") none (.fields #[(.str "dump" 243),(.str "JsonDB.dump" 244),(.str "/claim/cut.py" 245),(.int 14 0),(.int 1 0),(.int 0 0),(.int 0 0),(.int 3 0),(.ref 56),(.bool true),(.int 181 0),(.ref 57),.none,(.ref 58),(.ref 59),(.ref 60),(.int 247 0),(.int 14 0),(.str "/claim/cut.py" 248)]) #[])
noncomputable def Wm (P:Params):Obj:=(Obj.mk (.type "function") none (.func (FuncData.mk "dump" "JsonDB.dump" (fa [4,1]) (fb [4,1]) (fs [4,1]) 3 [] .none .none .none (.str "doit.dependency" 194) none (.ref 61) .none 0)) #[])
noncomputable def Wn (P:Params):Obj:=(Obj.mk (.type "tuple") none (.seq #[] 0) #[])
noncomputable def Hj (P:Params):Obj:=(Obj.mk .none none (.fields #[]) #[])
noncomputable def Wo (P:Params):Obj:=(Obj.mk (.type "tuple") none (.seq #[(.str "self" 253),(.str "task_id" 254),(.str "dependency" 255),(.str "value" 256)] 0) #[])
noncomputable def Wp (P:Params):Obj:=(Obj.mk (.type "tuple") none (.seq #[] 0) #[])
noncomputable def Hk (P:Params):Obj:=(Obj.mk .none none (.func (FuncData.mk "set" "JsonDB.set" (fa [4,2]) (fb [4,2]) (fs [4,2]) 0 [] .none .none .none .none none .none .none 0)) #[])
noncomputable def Wq (P:Params):Obj:=(Obj.mk (.type "code") none (.fields #[(.str "set" 250),(.str "JsonDB.set" 251),(.str "/claim/cut.py" 252),(.int 17 0),(.int 4 0),(.int 0 0),(.int 0 0),(.int 3 0),(.ref 63),(.bool true),(.int 181 0),(.ref 64),.none,(.ref 65),(.ref 66),(.ref 67),(.int 257 0),(.int 17 0),(.str "/claim/cut.py" 258)]) #[])
noncomputable def Wr (P:Params):Obj:=(Obj.mk (.type "function") none (.func (FuncData.mk "set" "JsonDB.set" (fa [4,2]) (fb [4,2]) (fs [4,2]) 3 [] .none .none .none (.str "doit.dependency" 194) none (.ref 68) .none 0)) #[])
noncomputable def Ws (P:Params):Obj:=(Obj.mk (.type "tuple") none (.seq #[] 0) #[])
noncomputable def Hl (P:Params):Obj:=(Obj.mk .none none (.fields #[]) #[])
noncomputable def Wt (P:Params):Obj:=(Obj.mk (.type "tuple") none (.seq #[(.str "self" 263),(.str "task_id" 264),(.str "dependency" 265)] 0) #[])
noncomputable def Wu (P:Params):Obj:=(Obj.mk (.type "tuple") none (.seq #[] 0) #[])
noncomputable def Hm (P:Params):Obj:=(Obj.mk .none none (.func (FuncData.mk "get" "JsonDB.get" (fa [4,3]) (fb [4,3]) (fs [4,3]) 0 [] .none .none .none .none none .none .none 0)) #[])
noncomputable def Wv (P:Params):Obj:=(Obj.mk (.type "code") none (.fields #[(.str "get" 260),(.str "JsonDB.get" 261),(.str "/claim/cut.py" 262),(.int 22 0),(.int 3 0),(.int 0 0),(.int 0 0),(.int 3 0),(.ref 70),(.bool true),(.int 181 0),(.ref 71),.none,(.ref 72),(.ref 73),(.ref 74),(.int 266 0),(.int 22 0),(.str "/claim/cut.py" 267)]) #[])
noncomputable def Ww (P:Params):Obj:=(Obj.mk (.type "function") none (.func (FuncData.mk "get" "JsonDB.get" (fa [4,3]) (fb [4,3]) (fs [4,3]) 3 [] .none .none .none (.str "doit.dependency" 194) none (.ref 75) .none 0)) #[])
noncomputable def Wx (P:Params):Obj:=(Obj.mk (.type "tuple") none (.seq #[] 0) #[])
noncomputable def Hn (P:Params):Obj:=(Obj.mk .none none (.fields #[]) #[])
noncomputable def Wy (P:Params):Obj:=(Obj.mk (.type "tuple") none (.seq #[(.str "self" 272),(.str "task_id" 273)] 0) #[])
noncomputable def Wz (P:Params):Obj:=(Obj.mk (.type "tuple") none (.seq #[] 0) #[])
noncomputable def Ho (P:Params):Obj:=(Obj.mk .none none (.func (FuncData.mk "in_" "JsonDB.in_" (fa [4,4]) (fb [4,4]) (fs [4,4]) 0 [] .none .none .none .none none .none .none 0)) #[])
noncomputable def W0 (P:Params):Obj:=(Obj.mk (.type "code") none (.fields #[(.str "in_" 269),(.str "JsonDB.in_" 270),(.str "/claim/cut.py" 271),(.int 26 0),(.int 2 0),(.int 0 0),(.int 0 0),(.int 3 0),(.ref 77),(.bool true),(.int 181 0),(.ref 78),.none,(.ref 79),(.ref 80),(.ref 81),(.int 274 0),(.int 26 0),(.str "/claim/cut.py" 275)]) #[])
noncomputable def W1 (P:Params):Obj:=(Obj.mk (.type "function") none (.func (FuncData.mk "in_" "JsonDB.in_" (fa [4,4]) (fb [4,4]) (fs [4,4]) 3 [] .none .none .none (.str "doit.dependency" 194) none (.ref 82) .none 0)) #[])
noncomputable def W2 (P:Params):Obj:=(Obj.mk (.type "tuple") none (.seq #[] 0) #[])
noncomputable def Hp (P:Params):Obj:=(Obj.mk .none none (.fields #[]) #[])
noncomputable def W3 (P:Params):Obj:=(Obj.mk (.type "tuple") none (.seq #[(.str "self" 280),(.str "task_id" 281)] 0) #[])
noncomputable def W4 (P:Params):Obj:=(Obj.mk (.type "tuple") none (.seq #[] 0) #[])
noncomputable def Hq (P:Params):Obj:=(Obj.mk .none none (.func (FuncData.mk "remove" "JsonDB.remove" (fa [4,5]) (fb [4,5]) (fs [4,5]) 0 [] .none .none .none .none none .none .none 0)) #[])
noncomputable def W5 (P:Params):Obj:=(Obj.mk (.type "code") none (.fields #[(.str "remove" 277),(.str "JsonDB.remove" 278),(.str "/claim/cut.py" 279),(.int 29 0),(.int 2 0),(.int 0 0),(.int 0 0),(.int 3 0),(.ref 84),(.bool true),(.int 181 0),(.ref 85),.none,(.ref 86),(.ref 87),(.ref 88),(.int 282 0),(.int 29 0),(.str "/claim/cut.py" 283)]) #[])
noncomputable def W6 (P:Params):Obj:=(Obj.mk (.type "function") none (.func (FuncData.mk "remove" "JsonDB.remove" (fa [4,5]) (fb [4,5]) (fs [4,5]) 3 [] .none .none .none (.str "doit.dependency" 194) none (.ref 89) .none 0)) #[])
noncomputable def W7 (P:Params):Obj:=(Obj.mk (.type "tuple") none (.seq #[] 0) #[])
noncomputable def Hr (P:Params):Obj:=(Obj.mk .none none (.fields #[]) #[])
noncomputable def W8 (P:Params):Obj:=(Obj.mk (.type "tuple") none (.seq #[(.str "self" 288)] 0) #[])
noncomputable def W9 (P:Params):Obj:=(Obj.mk (.type "tuple") none (.seq #[] 0) #[])
noncomputable def Hs (P:Params):Obj:=(Obj.mk .none none (.func (FuncData.mk "remove_all" "JsonDB.remove_all" (fa [4,6]) (fb [4,6]) (fs [4,6]) 0 [] .none .none .none .none none .none .none 0)) #[])
noncomputable def Ga (P:Params):Obj:=(Obj.mk (.type "code") none (.fields #[(.str "remove_all" 285),(.str "JsonDB.remove_all" 286),(.str "/claim/cut.py" 287),(.int 33 0),(.int 1 0),(.int 0 0),(.int 0 0),(.int 3 0),(.ref 91),(.bool true),(.int 181 0),(.ref 92),.none,(.ref 93),(.ref 94),(.ref 95),(.int 289 0),(.int 33 0),(.str "/claim/cut.py" 290)]) #[])
noncomputable def Gb (P:Params):Obj:=(Obj.mk (.type "function") none (.func (FuncData.mk "remove_all" "JsonDB.remove_all" (fa [4,6]) (fb [4,6]) (fs [4,6]) 3 [] .none .none .none (.str "doit.dependency" 194) none (.ref 96) .none 0)) #[])
noncomputable def Gc (P:Params):Obj:=(Obj.mk (.type "tuple") none (.seq #[(.str "_db" 292)] 0) #[])
noncomputable def Gd (P:Params):Obj:=(Obj.mk (.type "dict") none (.dict #[(DictEntry.mk (PyData.keyHash P "__module__") (.str "__module__" 230) (.str "doit.dependency" 194)),(DictEntry.mk (PyData.keyHash P "__firstlineno__") (.str "__firstlineno__" 234) (.int 9 233)),(DictEntry.mk (PyData.keyHash P "__init__") (.str "__init__" 242) (.ref 55)),(DictEntry.mk (PyData.keyHash P "dump") (.str "dump" 249) (.ref 62)),(DictEntry.mk (PyData.keyHash P "set") (.str "set" 259) (.ref 69)),(DictEntry.mk (PyData.keyHash P "get") (.str "get" 268) (.ref 76)),(DictEntry.mk (PyData.keyHash P "in_") (.str "in_" 276) (.ref 83)),(DictEntry.mk (PyData.keyHash P "remove") (.str "remove" 284) (.ref 90)),(DictEntry.mk (PyData.keyHash P "remove_all") (.str "remove_all" 291) (.ref 97)),(DictEntry.mk (PyData.keyHash P "__static_attributes__") (.str "__static_attributes__" 293) (.ref 98)),(DictEntry.mk (PyData.keyHash P "__dict__") (.str "__dict__" 295) (.ref 101)),(DictEntry.mk (PyData.keyHash P "__weakref__") (.str "__weakref__" 297) (.ref 102)),(DictEntry.mk (PyData.keyHash P "__doc__") (.str "__doc__" 298) .none)] 4) #[])
noncomputable def Y8 (P:Params):Obj:=(Obj.mk (.type "type") none (.cls (ClassData.mk "JsonDB" [(.type "object")] [(.ref 100),(.type "object")] 99 "JsonDB" true [] [] false none false)) #[none,none,(some (.str "JsonDB" 223)),(some (.str "JsonDB" 231)),(some (.builtin "object.__new__")),(some (.bool true))])
noncomputable def Y9 (P:Params):Obj:=(Obj.mk (.type "getset_descriptor") none (.fields #[(.str "__dict__" 294),(.ref 100),(.builtin "function.__dict__"),(.builtin "function.__dict__#set")]) #[])
noncomputable def Za (P:Params):Obj:=(Obj.mk (.type "getset_descriptor") none (.fields #[(.str "__weakref__" 296),(.ref 100),(.builtin "ExceptionGroup.__weakref__"),.none]) #[])
noncomputable def Zb (P:Params):Obj:=(Obj.mk (.type "super") none (.fields #[(.ref 100),(.ref 100),(.ref 100)]) #[])
noncomputable def Zc (P:Params):Obj:=(Obj.mk (.type "builtin_function_or_method") none (.fields #[(.builtin "object.__init_subclass__"),(.ref 100)]) #[])
noncomputable def tr1 (P : Params) : BT := (.node (boot_o_0 P) (.node (boot_o_1 P) (.node (o3_2 P) (.node (boot_o_7 P) (.node (Ui P) (.node (Uv P) (.node (Wn P) .nil .nil) (.node (Hs P) .nil .nil)) (.node (U8 P) (.node (Wy P) .nil .nil) .nil)) (.node (Uo P) (.node (Hd P) (.node (Hl P) .nil .nil) (.node (Zb P) .nil .nil)) (.node (Wg P) (.node (W4 P) .nil .nil) .nil))) (.node (Zf P) (.node (Ha P) (.node (Uz P) (.node (Hk P) .nil .nil) (.node (Gd P) .nil .nil)) (.node (Wb P) (.node (W1 P) .nil .nil) .nil)) (.node (Ur P) (.node (U5 P) (.node (Wv P) .nil .nil) .nil) (.node (Wj P) (.node (W7 P) .nil .nil) .nil)))) (.node (boot_o_5 P) (.node (boot_o_9 P) (.node (Uj P) (.node (Ux P) (.node (Wo P) .nil .nil) (.node (Gb P) .nil .nil)) (.node (Wa P) (.node (Ho P) .nil .nil) .nil)) (.node (Uq P) (.node (U3 P) (.node (Wu P) .nil .nil) .nil) (.node (Hh P) (.node (W5 P) .nil .nil) .nil))) (.node (Zg P) (.node (Um P) (.node (U0 P) (.node (Wr P) .nil .nil) (.node (Y9 P) .nil .nil)) (.node (Hg P) (.node (Hp P) .nil .nil) .nil)) (.node (Ut P) (.node (U7 P) (.node (Wx P) .nil .nil) .nil) (.node (Wl P) (.node (W8 P) .nil .nil) .nil))))) (.node (o2_2 P) (.node (boot_o_4 P) (.node (boot_o_8 P) (.node (X9 P) (.node (Uw P) (.node (Hj P) .nil .nil) (.node (Ga P) .nil .nil)) (.node (U9 P) (.node (Wz P) .nil .nil) .nil)) (.node (Up P) (.node (U2 P) (.node (Wt P) .nil .nil) (.node (Zc P) .nil .nil)) (.node (Wh P) (.node (Hq P) .nil .nil) .nil))) (.node (o12_2 P) (.node (Ul P) (.node (Hc P) (.node (Wq P) .nil .nil) (.node (Y8 P) .nil .nil)) (.node (Wc P) (.node (W2 P) .nil .nil) .nil)) (.node (Us P) (.node (U6 P) (.node (Ww P) .nil .nil) .nil) (.node (Hi P) (.node (Hr P) .nil .nil) .nil)))) (.node (boot_o_6 P) (.node (boot_o_10 P) (.node (Uk P) (.node (Uy P) (.node (Wp P) .nil .nil) (.node (Gc P) .nil .nil)) (.node (Hf P) (.node (W0 P) .nil .nil) .nil)) (.node (Hb P) (.node (U4 P) (.node (Hm P) .nil .nil) .nil) (.node (Wi P) (.node (W6 P) .nil .nil) .nil))) (.node (Zh P) (.node (Un P) (.node (U1 P) (.node (Ws P) .nil .nil) (.node (Za P) .nil .nil)) (.node (Wf P) (.node (W3 P) .nil .nil) .nil)) (.node (Uu P) (.node (He P) (.node (Hn P) .nil .nil) .nil) (.node (Wm P) (.node (W9 P) .nil .nil) .nil))))))
noncomputable def lf1 : Life := (Life.mk [] [] [] 0 [] [] Bool.false #[] [] 0 Bool.false Bool.false Bool.false 0 [2000,10,10] Bool.false 0 Bool.true [] [] 0 Bool.false)
noncomputable def dr1 : Drawn := (Drawn.mk 0 0 0 0)
noncomputable def st1 (w : World) (os : OsState) : SharedT := ⟨tr1 w.params,105,lf1,#[],dr1,301,os⟩
noncomputable def gr1 : List Stmt := ((behindTheImports pg).drop 0).take 5
theorem seg1 : ∀ (w : World) (os : OsState),segRunT treeTable pg w 11 annE 1 679 (st0 w os) (piecesOf gr1 ev cE ⟨0,0,0,0⟩ [topFrame qE]) = some (.next,st1 w os,cE,⟨9,0,34,16⟩) := by intro w os; kernel_rfl

noncomputable def o3_3 (P:Params):Obj:=(Obj.mk (.type "dict") none (.dict #[(DictEntry.mk (PyData.keyHash P "__name__") (.str "__name__" 165) (.str "doit.dependency" 194)),(DictEntry.mk (PyData.keyHash P "__doc__") (.str "__doc__" 166) .none),(DictEntry.mk (PyData.keyHash P "__package__") (.str "__package__" 167) .none),(DictEntry.mk (PyData.keyHash P "__loader__") (.str "__loader__" 168) (.builtin "__main__.__loader__#opaque")),(DictEntry.mk (PyData.keyHash P "__spec__") (.str "__spec__" 169) .none),(DictEntry.mk (PyData.keyHash P "__annotations__") (.str "__annotations__" 170) (.ref 6)),(DictEntry.mk (PyData.keyHash P "__builtins__") (.str "__builtins__" 171) (.ref 4)),(DictEntry.mk (PyData.keyHash P "__file__") (.str "__file__" 173) (.str "/claim/cut.py" 172)),(DictEntry.mk (PyData.keyHash P "__cached__") (.str "__cached__" 174) .none),(DictEntry.mk (PyData.keyHash P "_wall") (.str "_wall" 193) (.ref 21)),(DictEntry.mk (PyData.keyHash P "MissingFile") (.str "MissingFile" 215) (.ref 31)),(DictEntry.mk (PyData.keyHash P "get_md5") (.str "get_md5" 222) (.ref 41)),(DictEntry.mk (PyData.keyHash P "JsonDB") (.str "JsonDB" 300) (.ref 100)),(DictEntry.mk (PyData.keyHash P "FileChangedChecker") (.str "FileChangedChecker" 366) (.ref 149)),(DictEntry.mk (PyData.keyHash P "MD5Checker") (.str "MD5Checker" 409) (.ref 177)),(DictEntry.mk (PyData.keyHash P "TimestampChecker") (.str "TimestampChecker" 446) (.ref 203))] 16) #[])
noncomputable def o12_3 (P:Params):Obj:=(Obj.mk .none none (.fields #[(.int 1 0),(.int 0 0),(.ref 20),(.int 5 0),(.int 0 0),(.ref 27),(.int 7 0),(.int 0 0),(.ref 40),(.int 9 0),(.int 0 0),(.ref 47),(.int 35 0),(.int 0 0),(.ref 110),(.int 54 0),(.int 0 0),(.ref 159),(.int 72 0),(.int 0 0),(.ref 185)]) #[])
noncomputable def Zr (P:Params):Obj:=(Obj.mk (.type "tuple") none (.seq #[] 0) #[])
noncomputable def Zs (P:Params):Obj:=(Obj.mk (.type "builtin_function_or_method") none (.fields #[(.builtin "type.__prepare__"),(.type "type")]) #[])
noncomputable def Zt (P:Params):Obj:=(Obj.mk (.type "dict") none (.dict #[(DictEntry.mk (PyData.keyHash P "__module__") (.str "__module__" 308) (.str "doit.dependency" 194)),(DictEntry.mk (PyData.keyHash P "__qualname__") (.str "__qualname__" 310) (.str "FileChangedChecker" 309)),(DictEntry.mk (PyData.keyHash P "__firstlineno__") (.str "__firstlineno__" 312) (.int 35 311)),(DictEntry.mk (PyData.keyHash P "name") (.str "name" 314) (.str "FileChangedChecker" 313)),(DictEntry.mk (PyData.keyHash P "__init__") (.str "__init__" 322) (.ref 118)),(DictEntry.mk (PyData.keyHash P "exists") (.str "exists" 330) (.ref 125)),(DictEntry.mk (PyData.keyHash P "info") (.str "info" 338) (.ref 132)),(DictEntry.mk (PyData.keyHash P "check_modified") (.str "check_modified" 348) (.ref 139)),(DictEntry.mk (PyData.keyHash P "get_state") (.str "get_state" 357) (.ref 146)),(DictEntry.mk (PyData.keyHash P "__static_attributes__") (.str "__static_attributes__" 359) (.ref 147))] 10) #[])
noncomputable def Zu (P:Params):Obj:=(Obj.mk (.type "tuple") none (.seq #[] 0) #[])
noncomputable def Gg (P:Params):Obj:=(Obj.mk .none none (.fields #[(.int 38 0),(.int 4 0),(.ref 117),(.int 41 0),(.int 4 0),(.ref 124),(.int 44 0),(.int 4 0),(.ref 131),(.int 49 0),(.int 4 0),(.ref 138),(.int 52 0),(.int 4 0),(.ref 145)]) #[])
noncomputable def Zv (P:Params):Obj:=(Obj.mk (.type "code") none (.fields #[(.str "FileChangedChecker" 303),(.str "FileChangedChecker" 304),(.str "/claim/cut.py" 305),(.int 35 0),(.int 0 0),(.int 0 0),(.int 0 0),(.int 0 0),(.ref 108),(.bool false),(.int 181 0),(.ref 109),.none,.none,.none,.none,(.int 306 0),(.int 35 0),(.str "/claim/cut.py" 307)]) #[])
noncomputable def Zw (P:Params):Obj:=(Obj.mk (.type "frame") none .plain #[(some (.ref 110)),(some (.ref 3)),(some (.ref 107)),none,(some (.str "doit.dependency" 194)),none,(some (.ref 0))])
noncomputable def Zx (P:Params):Obj:=(Obj.mk (.type "tuple") none (.seq #[] 0) #[])
noncomputable def Gh (P:Params):Obj:=(Obj.mk .none none (.fields #[]) #[])
noncomputable def Zy (P:Params):Obj:=(Obj.mk (.type "tuple") none (.seq #[(.str "self" 318),(.str "files" 319)] 0) #[])
noncomputable def Zz (P:Params):Obj:=(Obj.mk (.type "tuple") none (.seq #[] 0) #[])
noncomputable def Gi (P:Params):Obj:=(Obj.mk .none none (.func (FuncData.mk "__init__" "FileChangedChecker.__init__" (fa [5,1]) (fb [5,1]) (fs [5,1]) 0 [] .none .none .none .none none .none .none 0)) #[])
noncomputable def Z0 (P:Params):Obj:=(Obj.mk (.type "code") none (.fields #[(.str "__init__" 315),(.str "FileChangedChecker.__init__" 316),(.str "/claim/cut.py" 317),(.int 38 0),(.int 2 0),(.int 0 0),(.int 0 0),(.int 3 0),(.ref 112),(.bool true),(.int 181 0),(.ref 113),.none,(.ref 114),(.ref 115),(.ref 116),(.int 320 0),(.int 38 0),(.str "/claim/cut.py" 321)]) #[])
noncomputable def Z1 (P:Params):Obj:=(Obj.mk (.type "function") none (.func (FuncData.mk "__init__" "FileChangedChecker.__init__" (fa [5,1]) (fb [5,1]) (fs [5,1]) 3 [] .none .none .none (.str "doit.dependency" 194) none (.ref 117) .none 0)) #[])
noncomputable def Z2 (P:Params):Obj:=(Obj.mk (.type "tuple") none (.seq #[] 0) #[])
noncomputable def Gj (P:Params):Obj:=(Obj.mk .none none (.fields #[]) #[])
noncomputable def Z3 (P:Params):Obj:=(Obj.mk (.type "tuple") none (.seq #[(.str "self" 326),(.str "file_path" 327)] 0) #[])
noncomputable def Z4 (P:Params):Obj:=(Obj.mk (.type "tuple") none (.seq #[] 0) #[])
noncomputable def Gk (P:Params):Obj:=(Obj.mk .none none (.func (FuncData.mk "exists" "FileChangedChecker.exists" (fa [5,2]) (fb [5,2]) (fs [5,2]) 0 [] .none .none .none .none none .none .none 0)) #[])
noncomputable def Z5 (P:Params):Obj:=(Obj.mk (.type "code") none (.fields #[(.str "exists" 323),(.str "FileChangedChecker.exists" 324),(.str "/claim/cut.py" 325),(.int 41 0),(.int 2 0),(.int 0 0),(.int 0 0),(.int 3 0),(.ref 119),(.bool true),(.int 181 0),(.ref 120),.none,(.ref 121),(.ref 122),(.ref 123),(.int 328 0),(.int 41 0),(.str "/claim/cut.py" 329)]) #[])
noncomputable def Z6 (P:Params):Obj:=(Obj.mk (.type "function") none (.func (FuncData.mk "exists" "FileChangedChecker.exists" (fa [5,2]) (fb [5,2]) (fs [5,2]) 3 [] .none .none .none (.str "doit.dependency" 194) none (.ref 124) .none 0)) #[])
noncomputable def Z7 (P:Params):Obj:=(Obj.mk (.type "tuple") none (.seq #[] 0) #[])
noncomputable def Gl (P:Params):Obj:=(Obj.mk .none none (.fields #[]) #[])
noncomputable def Z8 (P:Params):Obj:=(Obj.mk (.type "tuple") none (.seq #[(.str "self" 334),(.str "file_path" 335)] 0) #[])
noncomputable def Z9 (P:Params):Obj:=(Obj.mk (.type "tuple") none (.seq #[] 0) #[])
noncomputable def Gm (P:Params):Obj:=(Obj.mk .none none (.func (FuncData.mk "info" "FileChangedChecker.info" (fa [5,3]) (fb [5,3]) (fs [5,3]) 0 [] .none .none .none .none none .none .none 0)) #[])
noncomputable def Ka (P:Params):Obj:=(Obj.mk (.type "code") none (.fields #[(.str "info" 331),(.str "FileChangedChecker.info" 332),(.str "/claim/cut.py" 333),(.int 44 0),(.int 2 0),(.int 0 0),(.int 0 0),(.int 3 0),(.ref 126),(.bool true),(.int 181 0),(.ref 127),.none,(.ref 128),(.ref 129),(.ref 130),(.int 336 0),(.int 44 0),(.str "/claim/cut.py" 337)]) #[])
noncomputable def Kb (P:Params):Obj:=(Obj.mk (.type "function") none (.func (FuncData.mk "info" "FileChangedChecker.info" (fa [5,3]) (fb [5,3]) (fs [5,3]) 3 [] .none .none .none (.str "doit.dependency" 194) none (.ref 131) .none 0)) #[])
noncomputable def Kc (P:Params):Obj:=(Obj.mk (.type "tuple") none (.seq #[] 0) #[])
noncomputable def Gn (P:Params):Obj:=(Obj.mk .none none (.fields #[]) #[])
noncomputable def Kd (P:Params):Obj:=(Obj.mk (.type "tuple") none (.seq #[(.str "self" 342),(.str "file_path" 343),(.str "file_stat" 344),(.str "state" 345)] 0) #[])
noncomputable def Ke (P:Params):Obj:=(Obj.mk (.type "tuple") none (.seq #[] 0) #[])
noncomputable def Go (P:Params):Obj:=(Obj.mk .none none (.func (FuncData.mk "check_modified" "FileChangedChecker.check_modified" (fa [5,4]) (fb [5,4]) (fs [5,4]) 0 [] .none .none .none .none none .none .none 0)) #[])
noncomputable def Kf (P:Params):Obj:=(Obj.mk (.type "code") none (.fields #[(.str "check_modified" 339),(.str "FileChangedChecker.check_modified" 340),(.str "/claim/cut.py" 341),(.int 49 0),(.int 4 0),(.int 0 0),(.int 0 0),(.int 3 0),(.ref 133),(.bool true),(.int 181 0),(.ref 134),.none,(.ref 135),(.ref 136),(.ref 137),(.int 346 0),(.int 49 0),(.str "/claim/cut.py" 347)]) #[])
noncomputable def Kg (P:Params):Obj:=(Obj.mk (.type "function") none (.func (FuncData.mk "check_modified" "FileChangedChecker.check_modified" (fa [5,4]) (fb [5,4]) (fs [5,4]) 3 [] .none .none .none (.str "doit.dependency" 194) none (.ref 138) .none 0)) #[])
noncomputable def Kh (P:Params):Obj:=(Obj.mk (.type "tuple") none (.seq #[] 0) #[])
noncomputable def Gq (P:Params):Obj:=(Obj.mk .none none (.fields #[]) #[])
noncomputable def Ki (P:Params):Obj:=(Obj.mk (.type "tuple") none (.seq #[(.str "self" 352),(.str "dep" 353),(.str "current_state" 354)] 0) #[])
noncomputable def Kj (P:Params):Obj:=(Obj.mk (.type "tuple") none (.seq #[] 0) #[])
noncomputable def Gr (P:Params):Obj:=(Obj.mk .none none (.func (FuncData.mk "get_state" "FileChangedChecker.get_state" (fa [5,5]) (fb [5,5]) (fs [5,5]) 0 [] .none .none .none .none none .none .none 0)) #[])
noncomputable def Kk (P:Params):Obj:=(Obj.mk (.type "code") none (.fields #[(.str "get_state" 349),(.str "FileChangedChecker.get_state" 350),(.str "/claim/cut.py" 351),(.int 52 0),(.int 3 0),(.int 0 0),(.int 0 0),(.int 3 0),(.ref 140),(.bool true),(.int 181 0),(.ref 141),.none,(.ref 142),(.ref 143),(.ref 144),(.int 355 0),(.int 52 0),(.str "/claim/cut.py" 356)]) #[])
noncomputable def Kl (P:Params):Obj:=(Obj.mk (.type "function") none (.func (FuncData.mk "get_state" "FileChangedChecker.get_state" (fa [5,5]) (fb [5,5]) (fs [5,5]) 3 [] .none .none .none (.str "doit.dependency" 194) none (.ref 145) .none 0)) #[])
noncomputable def Km (P:Params):Obj:=(Obj.mk (.type "tuple") none (.seq #[(.str "files" 358)] 0) #[])
noncomputable def Kn (P:Params):Obj:=(Obj.mk (.type "dict") none (.dict #[(DictEntry.mk (PyData.keyHash P "__module__") (.str "__module__" 308) (.str "doit.dependency" 194)),(DictEntry.mk (PyData.keyHash P "__firstlineno__") (.str "__firstlineno__" 312) (.int 35 311)),(DictEntry.mk (PyData.keyHash P "name") (.str "name" 314) (.str "FileChangedChecker" 313)),(DictEntry.mk (PyData.keyHash P "__init__") (.str "__init__" 322) (.ref 118)),(DictEntry.mk (PyData.keyHash P "exists") (.str "exists" 330) (.ref 125)),(DictEntry.mk (PyData.keyHash P "info") (.str "info" 338) (.ref 132)),(DictEntry.mk (PyData.keyHash P "check_modified") (.str "check_modified" 348) (.ref 139)),(DictEntry.mk (PyData.keyHash P "get_state") (.str "get_state" 357) (.ref 146)),(DictEntry.mk (PyData.keyHash P "__static_attributes__") (.str "__static_attributes__" 359) (.ref 147)),(DictEntry.mk (PyData.keyHash P "__dict__") (.str "__dict__" 361) (.ref 150)),(DictEntry.mk (PyData.keyHash P "__weakref__") (.str "__weakref__" 363) (.ref 151)),(DictEntry.mk (PyData.keyHash P "__doc__") (.str "__doc__" 364) .none)] 4) #[])
noncomputable def Ko (P:Params):Obj:=(Obj.mk (.type "type") none (.cls (ClassData.mk "FileChangedChecker" [(.type "object")] [(.ref 149),(.type "object")] 148 "FileChangedChecker" true [] [(.ref 177),(.ref 203)] false none false)) #[none,none,(some (.str "FileChangedChecker" 301)),(some (.str "FileChangedChecker" 309)),(some (.builtin "object.__new__")),(some (.bool true))])
noncomputable def Kq (P:Params):Obj:=(Obj.mk (.type "getset_descriptor") none (.fields #[(.str "__dict__" 360),(.ref 149),(.builtin "function.__dict__"),(.builtin "function.__dict__#set")]) #[])
noncomputable def Kr (P:Params):Obj:=(Obj.mk (.type "getset_descriptor") none (.fields #[(.str "__weakref__" 362),(.ref 149),(.builtin "ExceptionGroup.__weakref__"),.none]) #[])
noncomputable def Ks (P:Params):Obj:=(Obj.mk (.type "super") none (.fields #[(.ref 149),(.ref 149),(.ref 149)]) #[])
noncomputable def Kt (P:Params):Obj:=(Obj.mk (.type "builtin_function_or_method") none (.fields #[(.builtin "object.__init_subclass__"),(.ref 149)]) #[])
noncomputable def Ku (P:Params):Obj:=(Obj.mk (.type "tuple") none (.seq #[(.ref 149)] 0) #[])
noncomputable def Kv (P:Params):Obj:=(Obj.mk (.type "builtin_function_or_method") none (.fields #[(.builtin "type.__prepare__"),(.type "type")]) #[])
noncomputable def Kw (P:Params):Obj:=(Obj.mk (.type "dict") none (.dict #[(DictEntry.mk (PyData.keyHash P "__module__") (.str "__module__" 374) (.str "doit.dependency" 194)),(DictEntry.mk (PyData.keyHash P "__qualname__") (.str "__qualname__" 376) (.str "MD5Checker" 375)),(DictEntry.mk (PyData.keyHash P "__firstlineno__") (.str "__firstlineno__" 378) (.int 54 377)),(DictEntry.mk (PyData.keyHash P "name") (.str "name" 380) (.str "MD5Checker" 379)),(DictEntry.mk (PyData.keyHash P "check_modified") (.str "check_modified" 393) (.ref 167)),(DictEntry.mk (PyData.keyHash P "get_state") (.str "get_state" 405) (.ref 174)),(DictEntry.mk (PyData.keyHash P "__static_attributes__") (.str "__static_attributes__" 406) (.ref 175))] 7) #[])
noncomputable def Kx (P:Params):Obj:=(Obj.mk (.type "tuple") none (.seq #[] 0) #[])
noncomputable def Gu (P:Params):Obj:=(Obj.mk .none none (.fields #[(.int 57 0),(.int 4 0),(.ref 166),(.int 65 0),(.int 4 0),(.ref 173)]) #[])
noncomputable def Ky (P:Params):Obj:=(Obj.mk (.type "code") none (.fields #[(.str "MD5Checker" 369),(.str "MD5Checker" 370),(.str "/claim/cut.py" 371),(.int 54 0),(.int 0 0),(.int 0 0),(.int 0 0),(.int 0 0),(.ref 157),(.bool false),(.int 181 0),(.ref 158),.none,.none,.none,.none,(.int 372 0),(.int 54 0),(.str "/claim/cut.py" 373)]) #[])
noncomputable def Kz (P:Params):Obj:=(Obj.mk (.type "frame") none .plain #[(some (.ref 159)),(some (.ref 3)),(some (.ref 156)),none,(some (.str "doit.dependency" 194)),none,(some (.ref 0))])
noncomputable def K1 (P:Params):Obj:=(Obj.mk (.type "tuple") none (.seq #[] 0) #[])
noncomputable def Gv (P:Params):Obj:=(Obj.mk .none none (.fields #[]) #[])
noncomputable def K2 (P:Params):Obj:=(Obj.mk (.type "tuple") none (.seq #[(.str "self" 384),(.str "file_path" 385),(.str "file_stat" 386),(.str "state" 387),(.str "timestamp" 388),(.str "size" 389),(.str "file_md5" 390)] 0) #[])
noncomputable def K3 (P:Params):Obj:=(Obj.mk (.type "tuple") none (.seq #[] 0) #[])
noncomputable def Gw (P:Params):Obj:=(Obj.mk .none none (.func (FuncData.mk "check_modified" "MD5Checker.check_modified" (fa [6,1]) (fb [6,1]) (fs [6,1]) 0 [] .none .none .none .none none .none .none 0)) #[])
noncomputable def K4 (P:Params):Obj:=(Obj.mk (.type "code") none (.fields #[(.str "check_modified" 381),(.str "MD5Checker.check_modified" 382),(.str "/claim/cut.py" 383),(.int 57 0),(.int 4 0),(.int 0 0),(.int 0 0),(.int 3 0),(.ref 161),(.bool true),(.int 181 0),(.ref 162),.none,(.ref 163),(.ref 164),(.ref 165),(.int 391 0),(.int 57 0),(.str "/claim/cut.py" 392)]) #[])
noncomputable def K5 (P:Params):Obj:=(Obj.mk (.type "function") none (.func (FuncData.mk "check_modified" "MD5Checker.check_modified" (fa [6,1]) (fb [6,1]) (fs [6,1]) 3 [] .none .none .none (.str "doit.dependency" 194) none (.ref 166) .none 0)) #[])
noncomputable def K6 (P:Params):Obj:=(Obj.mk (.type "tuple") none (.seq #[] 0) #[])
noncomputable def Gx (P:Params):Obj:=(Obj.mk .none none (.fields #[]) #[])
noncomputable def K7 (P:Params):Obj:=(Obj.mk (.type "tuple") none (.seq #[(.str "self" 397),(.str "dep" 398),(.str "current_state" 399),(.str "timestamp" 400),(.str "size" 401),(.str "md5" 402)] 0) #[])
noncomputable def K8 (P:Params):Obj:=(Obj.mk (.type "tuple") none (.seq #[] 0) #[])
noncomputable def Gy (P:Params):Obj:=(Obj.mk .none none (.func (FuncData.mk "get_state" "MD5Checker.get_state" (fa [6,2]) (fb [6,2]) (fs [6,2]) 0 [] .none .none .none .none none .none .none 0)) #[])
noncomputable def K9 (P:Params):Obj:=(Obj.mk (.type "code") none (.fields #[(.str "get_state" 394),(.str "MD5Checker.get_state" 395),(.str "/claim/cut.py" 396),(.int 65 0),(.int 3 0),(.int 0 0),(.int 0 0),(.int 3 0),(.ref 168),(.bool true),(.int 181 0),(.ref 169),.none,(.ref 170),(.ref 171),(.ref 172),(.int 403 0),(.int 65 0),(.str "/claim/cut.py" 404)]) #[])
noncomputable def Va (P:Params):Obj:=(Obj.mk (.type "function") none (.func (FuncData.mk "get_state" "MD5Checker.get_state" (fa [6,2]) (fb [6,2]) (fs [6,2]) 3 [] .none .none .none (.str "doit.dependency" 194) none (.ref 173) .none 0)) #[])
noncomputable def Vb (P:Params):Obj:=(Obj.mk (.type "tuple") none (.seq #[] 0) #[])
noncomputable def Vc (P:Params):Obj:=(Obj.mk (.type "dict") none (.dict #[(DictEntry.mk (PyData.keyHash P "__module__") (.str "__module__" 374) (.str "doit.dependency" 194)),(DictEntry.mk (PyData.keyHash P "__firstlineno__") (.str "__firstlineno__" 378) (.int 54 377)),(DictEntry.mk (PyData.keyHash P "name") (.str "name" 380) (.str "MD5Checker" 379)),(DictEntry.mk (PyData.keyHash P "check_modified") (.str "check_modified" 393) (.ref 167)),(DictEntry.mk (PyData.keyHash P "get_state") (.str "get_state" 405) (.ref 174)),(DictEntry.mk (PyData.keyHash P "__static_attributes__") (.str "__static_attributes__" 406) (.ref 175)),(DictEntry.mk (PyData.keyHash P "__doc__") (.str "__doc__" 407) .none)] 2) #[])
noncomputable def Vd (P:Params):Obj:=(Obj.mk (.type "type") none (.cls (ClassData.mk "MD5Checker" [(.ref 149)] [(.ref 177),(.ref 149),(.type "object")] 176 "MD5Checker" true [] [] false none false)) #[(some (.ref 154)),none,(some (.str "MD5Checker" 367)),(some (.str "MD5Checker" 375)),(some (.builtin "object.__new__")),(some (.bool true))])
noncomputable def Ve (P:Params):Obj:=(Obj.mk (.type "super") none (.fields #[(.ref 177),(.ref 177),(.ref 177)]) #[])
noncomputable def Vf (P:Params):Obj:=(Obj.mk (.type "builtin_function_or_method") none (.fields #[(.builtin "object.__init_subclass__"),(.ref 177)]) #[])
noncomputable def Vg (P:Params):Obj:=(Obj.mk (.type "tuple") none (.seq #[(.ref 149)] 0) #[])
noncomputable def Vh (P:Params):Obj:=(Obj.mk (.type "builtin_function_or_method") none (.fields #[(.builtin "type.__prepare__"),(.type "type")]) #[])
noncomputable def Vi (P:Params):Obj:=(Obj.mk (.type "dict") none (.dict #[(DictEntry.mk (PyData.keyHash P "__module__") (.str "__module__" 417) (.str "doit.dependency" 194)),(DictEntry.mk (PyData.keyHash P "__qualname__") (.str "__qualname__" 419) (.str "TimestampChecker" 418)),(DictEntry.mk (PyData.keyHash P "__firstlineno__") (.str "__firstlineno__" 421) (.int 72 420)),(DictEntry.mk (PyData.keyHash P "name") (.str "name" 423) (.str "TimestampChecker" 422)),(DictEntry.mk (PyData.keyHash P "check_modified") (.str "check_modified" 433) (.ref 193)),(DictEntry.mk (PyData.keyHash P "get_state") (.str "get_state" 442) (.ref 200)),(DictEntry.mk (PyData.keyHash P "__static_attributes__") (.str "__static_attributes__" 443) (.ref 201))] 7) #[])
noncomputable def Vj (P:Params):Obj:=(Obj.mk (.type "tuple") none (.seq #[] 0) #[])
noncomputable def Gz (P:Params):Obj:=(Obj.mk .none none (.fields #[(.int 75 0),(.int 4 0),(.ref 192),(.int 78 0),(.int 4 0),(.ref 199)]) #[])
noncomputable def Vk (P:Params):Obj:=(Obj.mk (.type "code") none (.fields #[(.str "TimestampChecker" 412),(.str "TimestampChecker" 413),(.str "/claim/cut.py" 414),(.int 72 0),(.int 0 0),(.int 0 0),(.int 0 0),(.int 0 0),(.ref 183),(.bool false),(.int 181 0),(.ref 184),.none,.none,.none,.none,(.int 415 0),(.int 72 0),(.str "/claim/cut.py" 416)]) #[])
noncomputable def Vl (P:Params):Obj:=(Obj.mk (.type "frame") none .plain #[(some (.ref 185)),(some (.ref 3)),(some (.ref 182)),none,(some (.str "doit.dependency" 194)),none,(some (.ref 0))])
noncomputable def Vm (P:Params):Obj:=(Obj.mk (.type "tuple") none (.seq #[] 0) #[])
noncomputable def G0 (P:Params):Obj:=(Obj.mk .none none (.fields #[]) #[])
noncomputable def Vn (P:Params):Obj:=(Obj.mk (.type "tuple") none (.seq #[(.str "self" 427),(.str "file_path" 428),(.str "file_stat" 429),(.str "state" 430)] 0) #[])
noncomputable def Vo (P:Params):Obj:=(Obj.mk (.type "tuple") none (.seq #[] 0) #[])
noncomputable def G1 (P:Params):Obj:=(Obj.mk .none none (.func (FuncData.mk "check_modified" "TimestampChecker.check_modified" (fa [7,1]) (fb [7,1]) (fs [7,1]) 0 [] .none .none .none .none none .none .none 0)) #[])
noncomputable def Vp (P:Params):Obj:=(Obj.mk (.type "code") none (.fields #[(.str "check_modified" 424),(.str "TimestampChecker.check_modified" 425),(.str "/claim/cut.py" 426),(.int 75 0),(.int 4 0),(.int 0 0),(.int 0 0),(.int 3 0),(.ref 187),(.bool true),(.int 181 0),(.ref 188),.none,(.ref 189),(.ref 190),(.ref 191),(.int 431 0),(.int 75 0),(.str "/claim/cut.py" 432)]) #[])
noncomputable def Vq (P:Params):Obj:=(Obj.mk (.type "function") none (.func (FuncData.mk "check_modified" "TimestampChecker.check_modified" (fa [7,1]) (fb [7,1]) (fs [7,1]) 3 [] .none .none .none (.str "doit.dependency" 194) none (.ref 192) .none 0)) #[])
noncomputable def Vr (P:Params):Obj:=(Obj.mk (.type "tuple") none (.seq #[] 0) #[])
noncomputable def G2 (P:Params):Obj:=(Obj.mk .none none (.fields #[]) #[])
noncomputable def Vs (P:Params):Obj:=(Obj.mk (.type "tuple") none (.seq #[(.str "self" 437),(.str "dep" 438),(.str "current_state" 439)] 0) #[])
noncomputable def Vt (P:Params):Obj:=(Obj.mk (.type "tuple") none (.seq #[] 0) #[])
noncomputable def G3 (P:Params):Obj:=(Obj.mk .none none (.func (FuncData.mk "get_state" "TimestampChecker.get_state" (fa [7,2]) (fb [7,2]) (fs [7,2]) 0 [] .none .none .none .none none .none .none 0)) #[])
noncomputable def Vu (P:Params):Obj:=(Obj.mk (.type "code") none (.fields #[(.str "get_state" 434),(.str "TimestampChecker.get_state" 435),(.str "/claim/cut.py" 436),(.int 78 0),(.int 3 0),(.int 0 0),(.int 0 0),(.int 3 0),(.ref 194),(.bool true),(.int 181 0),(.ref 195),.none,(.ref 196),(.ref 197),(.ref 198),(.int 440 0),(.int 78 0),(.str "/claim/cut.py" 441)]) #[])
noncomputable def Vv (P:Params):Obj:=(Obj.mk (.type "function") none (.func (FuncData.mk "get_state" "TimestampChecker.get_state" (fa [7,2]) (fb [7,2]) (fs [7,2]) 3 [] .none .none .none (.str "doit.dependency" 194) none (.ref 199) .none 0)) #[])
noncomputable def Vw (P:Params):Obj:=(Obj.mk (.type "tuple") none (.seq #[] 0) #[])
noncomputable def Vx (P:Params):Obj:=(Obj.mk (.type "dict") none (.dict #[(DictEntry.mk (PyData.keyHash P "__module__") (.str "__module__" 417) (.str "doit.dependency" 194)),(DictEntry.mk (PyData.keyHash P "__firstlineno__") (.str "__firstlineno__" 421) (.int 72 420)),(DictEntry.mk (PyData.keyHash P "name") (.str "name" 423) (.str "TimestampChecker" 422)),(DictEntry.mk (PyData.keyHash P "check_modified") (.str "check_modified" 433) (.ref 193)),(DictEntry.mk (PyData.keyHash P "get_state") (.str "get_state" 442) (.ref 200)),(DictEntry.mk (PyData.keyHash P "__static_attributes__") (.str "__static_attributes__" 443) (.ref 201)),(DictEntry.mk (PyData.keyHash P "__doc__") (.str "__doc__" 444) .none)] 2) #[])
noncomputable def Vy (P:Params):Obj:=(Obj.mk (.type "type") none (.cls (ClassData.mk "TimestampChecker" [(.ref 149)] [(.ref 203),(.ref 149),(.type "object")] 202 "TimestampChecker" true [] [] false none false)) #[(some (.ref 180)),none,(some (.str "TimestampChecker" 410)),(some (.str "TimestampChecker" 418)),(some (.builtin "object.__new__")),(some (.bool true))])
noncomputable def Vz (P:Params):Obj:=(Obj.mk (.type "super") none (.fields #[(.ref 203),(.ref 203),(.ref 203)]) #[])
noncomputable def V0 (P:Params):Obj:=(Obj.mk (.type "builtin_function_or_method") none (.fields #[(.builtin "object.__init_subclass__"),(.ref 203)]) #[])
noncomputable def tr2 (P : Params) : BT := (.node (boot_o_0 P) (.node (boot_o_1 P) (.node (o3_3 P) (.node (boot_o_7 P) (.node (Ui P) (.node (Uv P) (.node (Wn P) (.node (Gl P) .nil .nil) (.node (G1 P) .nil .nil)) (.node (Hs P) (.node (Ky P) .nil .nil) .nil)) (.node (U8 P) (.node (Wy P) (.node (Kj P) .nil .nil) .nil) (.node (Zw P) (.node (Vb P) .nil .nil) .nil))) (.node (Uo P) (.node (Hd P) (.node (Hl P) (.node (Kd P) .nil .nil) (.node (Vu P) .nil .nil)) (.node (Zb P) (.node (K5 P) .nil .nil) .nil)) (.node (Wg P) (.node (W4 P) (.node (Kr P) .nil .nil) .nil) (.node (Z2 P) (.node (Vj P) .nil .nil) .nil)))) (.node (Zf P) (.node (Ha P) (.node (Uz P) (.node (Hk P) (.node (Ka P) .nil .nil) (.node (G2 P) .nil .nil)) (.node (Gd P) (.node (K2 P) .nil .nil) .nil)) (.node (Wb P) (.node (W1 P) (.node (Km P) .nil .nil) .nil) (.node (Zz P) (.node (Vf P) .nil .nil) .nil))) (.node (Ur P) (.node (U5 P) (.node (Wv P) (.node (Kg P) .nil .nil) (.node (Vy P) .nil .nil)) (.node (Zt P) (.node (K8 P) .nil .nil) .nil)) (.node (Wj P) (.node (W7 P) (.node (Kv P) .nil .nil) .nil) (.node (Gk P) (.node (Vm P) .nil .nil) .nil))))) (.node (boot_o_5 P) (.node (boot_o_9 P) (.node (Uj P) (.node (Ux P) (.node (Wo P) (.node (Z9 P) .nil .nil) (.node (Vq P) .nil .nil)) (.node (Gb P) (.node (K1 P) .nil .nil) .nil)) (.node (Wa P) (.node (Ho P) (.node (Kk P) .nil .nil) .nil) (.node (Gh P) (.node (Vd P) .nil .nil) .nil))) (.node (Uq P) (.node (U3 P) (.node (Wu P) (.node (Go P) .nil .nil) (.node (Vw P) .nil .nil)) (.node (Zr P) (.node (Gx P) .nil .nil) .nil)) (.node (Hh P) (.node (W5 P) (.node (Kt P) .nil .nil) .nil) (.node (Z3 P) (.node (Vk P) .nil .nil) .nil)))) (.node (Zg P) (.node (Um P) (.node (U0 P) (.node (Wr P) (.node (Kc P) .nil .nil) (.node (Vt P) .nil .nil)) (.node (Y9 P) (.node (Gw P) .nil .nil) .nil)) (.node (Hg P) (.node (Hp P) (.node (Ko P) .nil .nil) .nil) (.node (Z0 P) (.node (Vh P) .nil .nil) .nil))) (.node (Ut P) (.node (U7 P) (.node (Wx P) (.node (Gq P) .nil .nil) (.node (V0 P) .nil .nil)) (.node (Gg P) (.node (K9 P) .nil .nil) .nil)) (.node (Wl P) (.node (W8 P) (.node (Kx P) .nil .nil) .nil) (.node (Z6 P) (.node (Vn P) .nil .nil) .nil)))))) (.node (o2_2 P) (.node (boot_o_4 P) (.node (boot_o_8 P) (.node (X9 P) (.node (Uw P) (.node (Hj P) (.node (Z8 P) .nil .nil) (.node (Vp P) .nil .nil)) (.node (Ga P) (.node (Kz P) .nil .nil) .nil)) (.node (U9 P) (.node (Wz P) (.node (Gr P) .nil .nil) .nil) (.node (Zx P) (.node (Vc P) .nil .nil) .nil))) (.node (Up P) (.node (U2 P) (.node (Wt P) (.node (Ke P) .nil .nil) (.node (Vv P) .nil .nil)) (.node (Zc P) (.node (K6 P) .nil .nil) .nil)) (.node (Wh P) (.node (Hq P) (.node (Ks P) .nil .nil) .nil) (.node (Gj P) (.node (Gz P) .nil .nil) .nil)))) (.node (o12_3 P) (.node (Ul P) (.node (Hc P) (.node (Wq P) (.node (Kb P) .nil .nil) (.node (Vs P) .nil .nil)) (.node (Y8 P) (.node (K3 P) .nil .nil) .nil)) (.node (Wc P) (.node (W2 P) (.node (Kn P) .nil .nil) .nil) (.node (Gi P) (.node (Vg P) .nil .nil) .nil))) (.node (Us P) (.node (U6 P) (.node (Ww P) (.node (Kh P) .nil .nil) (.node (Vz P) .nil .nil)) (.node (Zu P) (.node (Gy P) .nil .nil) .nil)) (.node (Hi P) (.node (Hr P) (.node (Kw P) .nil .nil) .nil) (.node (Z5 P) (.node (G0 P) .nil .nil) .nil))))) (.node (boot_o_6 P) (.node (boot_o_10 P) (.node (Uk P) (.node (Uy P) (.node (Wp P) (.node (Gm P) .nil .nil) (.node (Vr P) .nil .nil)) (.node (Gc P) (.node (Gv P) .nil .nil) .nil)) (.node (Hf P) (.node (W0 P) (.node (Kl P) .nil .nil) .nil) (.node (Zy P) (.node (Ve P) .nil .nil) .nil))) (.node (Hb P) (.node (U4 P) (.node (Hm P) (.node (Kf P) .nil .nil) (.node (Vx P) .nil .nil)) (.node (Zs P) (.node (K7 P) .nil .nil) .nil)) (.node (Wi P) (.node (W6 P) (.node (Ku P) .nil .nil) .nil) (.node (Z4 P) (.node (Vl P) .nil .nil) .nil)))) (.node (Zh P) (.node (Un P) (.node (U1 P) (.node (Ws P) (.node (Gn P) .nil .nil) (.node (G3 P) .nil .nil)) (.node (Za P) (.node (K4 P) .nil .nil) .nil)) (.node (Wf P) (.node (W3 P) (.node (Kq P) .nil .nil) .nil) (.node (Z1 P) (.node (Vi P) .nil .nil) .nil))) (.node (Uu P) (.node (He P) (.node (Hn P) (.node (Ki P) .nil .nil) .nil) (.node (Zv P) (.node (Va P) .nil .nil) .nil)) (.node (Wm P) (.node (W9 P) (.node (Gu P) .nil .nil) .nil) (.node (Z7 P) (.node (Vo P) .nil .nil) .nil)))))))
noncomputable def lf2 : Life := (Life.mk [] [] [] 0 [] [] Bool.false #[] [] 0 Bool.false Bool.false Bool.false 0 [2000,10,10] Bool.false 0 Bool.true [] [] 0 Bool.false)
noncomputable def dr2 : Drawn := (Drawn.mk 0 0 0 0)
noncomputable def st2 (w : World) (os : OsState) : SharedT := ⟨tr2 w.params,206,lf2,#[],dr2,447,os⟩
noncomputable def gr2 : List Stmt := ((behindTheImports pg).drop 5).take 3
theorem seg2 : ∀ (w : World) (os : OsState),segRunT treeTable pg w 11 annE 1 948 (st1 w os) (piecesOf gr2 ev cE ⟨9,0,34,16⟩ [topFrame qE]) = some (.next,st2 w os,cE,⟨72,0,79,32⟩) := by intro w os; kernel_rfl

noncomputable def o3_4 (P:Params):Obj:=(Obj.mk (.type "dict") none (.dict #[(DictEntry.mk (PyData.keyHash P "__name__") (.str "__name__" 165) (.str "doit.dependency" 194)),(DictEntry.mk (PyData.keyHash P "__doc__") (.str "__doc__" 166) .none),(DictEntry.mk (PyData.keyHash P "__package__") (.str "__package__" 167) .none),(DictEntry.mk (PyData.keyHash P "__loader__") (.str "__loader__" 168) (.builtin "__main__.__loader__#opaque")),(DictEntry.mk (PyData.keyHash P "__spec__") (.str "__spec__" 169) .none),(DictEntry.mk (PyData.keyHash P "__annotations__") (.str "__annotations__" 170) (.ref 6)),(DictEntry.mk (PyData.keyHash P "__builtins__") (.str "__builtins__" 171) (.ref 4)),(DictEntry.mk (PyData.keyHash P "__file__") (.str "__file__" 173) (.str "/claim/cut.py" 172)),(DictEntry.mk (PyData.keyHash P "__cached__") (.str "__cached__" 174) .none),(DictEntry.mk (PyData.keyHash P "_wall") (.str "_wall" 193) (.ref 21)),(DictEntry.mk (PyData.keyHash P "MissingFile") (.str "MissingFile" 215) (.ref 31)),(DictEntry.mk (PyData.keyHash P "get_md5") (.str "get_md5" 222) (.ref 41)),(DictEntry.mk (PyData.keyHash P "JsonDB") (.str "JsonDB" 300) (.ref 100)),(DictEntry.mk (PyData.keyHash P "FileChangedChecker") (.str "FileChangedChecker" 366) (.ref 149)),(DictEntry.mk (PyData.keyHash P "MD5Checker") (.str "MD5Checker" 409) (.ref 177)),(DictEntry.mk (PyData.keyHash P "TimestampChecker") (.str "TimestampChecker" 446) (.ref 203)),(DictEntry.mk (PyData.keyHash P "DependencyStatus") (.str "DependencyStatus" 505) (.ref 244))] 17) #[])
noncomputable def o12_4 (P:Params):Obj:=(Obj.mk .none none (.fields #[(.int 1 0),(.int 0 0),(.ref 20),(.int 5 0),(.int 0 0),(.ref 27),(.int 7 0),(.int 0 0),(.ref 40),(.int 9 0),(.int 0 0),(.ref 47),(.int 35 0),(.int 0 0),(.ref 110),(.int 54 0),(.int 0 0),(.ref 159),(.int 72 0),(.int 0 0),(.ref 185),(.int 80 0),(.int 0 0),(.ref 211)]) #[])
noncomputable def G4 (P:Params):Obj:=(Obj.mk (.type "tuple") none (.seq #[] 0) #[])
noncomputable def G5 (P:Params):Obj:=(Obj.mk (.type "builtin_function_or_method") none (.fields #[(.builtin "type.__prepare__"),(.type "type")]) #[])
noncomputable def G6 (P:Params):Obj:=(Obj.mk (.type "dict") none (.dict #[(DictEntry.mk (PyData.keyHash P "__module__") (.str "__module__" 454) (.str "doit.dependency" 194)),(DictEntry.mk (PyData.keyHash P "__qualname__") (.str "__qualname__" 456) (.str "DependencyStatus" 455)),(DictEntry.mk (PyData.keyHash P "__firstlineno__") (.str "__firstlineno__" 458) (.int 80 457)),(DictEntry.mk (PyData.keyHash P "__init__") (.str "__init__" 466) (.ref 219)),(DictEntry.mk (PyData.keyHash P "add_reason") (.str "add_reason" 477) (.ref 227)),(DictEntry.mk (PyData.keyHash P "set_reason") (.str "set_reason" 486) (.ref 234)),(DictEntry.mk (PyData.keyHash P "get_error_message") (.str "get_error_message" 493) (.ref 241)),(DictEntry.mk (PyData.keyHash P "__static_attributes__") (.str "__static_attributes__" 498) (.ref 242))] 8) #[])
noncomputable def G7 (P:Params):Obj:=(Obj.mk (.type "tuple") none (.seq #[] 0) #[])
noncomputable def H1 (P:Params):Obj:=(Obj.mk .none none (.fields #[(.int 82 0),(.int 4 0),(.ref 218),(.int 88 0),(.int 4 0),(.ref 226),(.int 96 0),(.int 4 0),(.ref 233),(.int 102 0),(.int 4 0),(.ref 240)]) #[])
noncomputable def G8 (P:Params):Obj:=(Obj.mk (.type "code") none (.fields #[(.str "DependencyStatus" 449),(.str "DependencyStatus" 450),(.str "/claim/cut.py" 451),(.int 80 0),(.int 0 0),(.int 0 0),(.int 0 0),(.int 0 0),(.ref 209),(.bool false),(.int 181 0),(.ref 210),.none,.none,.none,.none,(.int 452 0),(.int 80 0),(.str "/claim/cut.py" 453)]) #[])
noncomputable def G9 (P:Params):Obj:=(Obj.mk (.type "frame") none .plain #[(some (.ref 211)),(some (.ref 3)),(some (.ref 208)),none,(some (.str "doit.dependency" 194)),none,(some (.ref 0))])
noncomputable def Xa (P:Params):Obj:=(Obj.mk (.type "tuple") none (.seq #[] 0) #[])
noncomputable def H2 (P:Params):Obj:=(Obj.mk .none none (.fields #[]) #[])
noncomputable def Xb (P:Params):Obj:=(Obj.mk (.type "tuple") none (.seq #[(.str "self" 462),(.str "get_log" 463)] 0) #[])
noncomputable def Xc (P:Params):Obj:=(Obj.mk (.type "tuple") none (.seq #[] 0) #[])
noncomputable def H3 (P:Params):Obj:=(Obj.mk .none none (.func (FuncData.mk "__init__" "DependencyStatus.__init__" (fa [8,0]) (fb [8,0]) (fs [8,0]) 0 [] .none .none .none .none none .none .none 0)) #[])
noncomputable def Xd (P:Params):Obj:=(Obj.mk (.type "code") none (.fields #[(.str "__init__" 459),(.str "DependencyStatus.__init__" 460),(.str "/claim/cut.py" 461),(.int 82 0),(.int 2 0),(.int 0 0),(.int 0 0),(.int 3 0),(.ref 213),(.bool true),(.int 181 0),(.ref 214),.none,(.ref 215),(.ref 216),(.ref 217),(.int 464 0),(.int 82 0),(.str "/claim/cut.py" 465)]) #[])
noncomputable def Xe (P:Params):Obj:=(Obj.mk (.type "function") none (.func (FuncData.mk "__init__" "DependencyStatus.__init__" (fa [8,0]) (fb [8,0]) (fs [8,0]) 3 [] .none .none .none (.str "doit.dependency" 194) none (.ref 218) .none 0)) #[])
noncomputable def Xf (P:Params):Obj:=(Obj.mk (.type "tuple") none (.seq #[(.str "run" 467)] 0) #[])
noncomputable def Xg (P:Params):Obj:=(Obj.mk (.type "tuple") none (.seq #[] 0) #[])
noncomputable def H5 (P:Params):Obj:=(Obj.mk .none none (.fields #[]) #[])
noncomputable def Xh (P:Params):Obj:=(Obj.mk (.type "tuple") none (.seq #[(.str "self" 471),(.str "reason" 472),(.str "arg" 473),(.str "status" 474)] 0) #[])
noncomputable def Xi (P:Params):Obj:=(Obj.mk (.type "tuple") none (.seq #[] 0) #[])
noncomputable def H6 (P:Params):Obj:=(Obj.mk .none none (.func (FuncData.mk "add_reason" "DependencyStatus.add_reason" (fa [8,1]) (fb [8,1]) (fs [8,1]) 0 [] .none .none .none .none none .none .none 0)) #[])
noncomputable def Xj (P:Params):Obj:=(Obj.mk (.type "code") none (.fields #[(.str "add_reason" 468),(.str "DependencyStatus.add_reason" 469),(.str "/claim/cut.py" 470),(.int 88 0),(.int 4 0),(.int 0 0),(.int 0 0),(.int 3 0),(.ref 221),(.bool true),(.int 181 0),(.ref 222),.none,(.ref 223),(.ref 224),(.ref 225),(.int 475 0),(.int 88 0),(.str "/claim/cut.py" 476)]) #[])
noncomputable def Xk (P:Params):Obj:=(Obj.mk (.type "function") none (.func (FuncData.mk "add_reason" "DependencyStatus.add_reason" (fa [8,1]) (fb [8,1]) (fs [8,1]) 3 [] (.ref 220) .none .none (.str "doit.dependency" 194) none (.ref 226) .none 0)) #[])
noncomputable def Xl (P:Params):Obj:=(Obj.mk (.type "tuple") none (.seq #[] 0) #[])
noncomputable def H7 (P:Params):Obj:=(Obj.mk .none none (.fields #[]) #[])
noncomputable def Xm (P:Params):Obj:=(Obj.mk (.type "tuple") none (.seq #[(.str "self" 481),(.str "reason" 482),(.str "arg" 483)] 0) #[])
noncomputable def Xo (P:Params):Obj:=(Obj.mk (.type "tuple") none (.seq #[] 0) #[])
noncomputable def H8 (P:Params):Obj:=(Obj.mk .none none (.func (FuncData.mk "set_reason" "DependencyStatus.set_reason" (fa [8,2]) (fb [8,2]) (fs [8,2]) 0 [] .none .none .none .none none .none .none 0)) #[])
noncomputable def Xp (P:Params):Obj:=(Obj.mk (.type "code") none (.fields #[(.str "set_reason" 478),(.str "DependencyStatus.set_reason" 479),(.str "/claim/cut.py" 480),(.int 96 0),(.int 3 0),(.int 0 0),(.int 0 0),(.int 3 0),(.ref 228),(.bool true),(.int 181 0),(.ref 229),.none,(.ref 230),(.ref 231),(.ref 232),(.int 484 0),(.int 96 0),(.str "/claim/cut.py" 485)]) #[])
noncomputable def Xq (P:Params):Obj:=(Obj.mk (.type "function") none (.func (FuncData.mk "set_reason" "DependencyStatus.set_reason" (fa [8,2]) (fb [8,2]) (fs [8,2]) 3 [] .none .none .none (.str "doit.dependency" 194) none (.ref 233) .none 0)) #[])
noncomputable def Xr (P:Params):Obj:=(Obj.mk (.type "tuple") none (.seq #[] 0) #[])
noncomputable def H9 (P:Params):Obj:=(Obj.mk .none none (.fields #[]) #[])
noncomputable def Xs (P:Params):Obj:=(Obj.mk (.type "tuple") none (.seq #[(.str "self" 490)] 0) #[])
noncomputable def Xu (P:Params):Obj:=(Obj.mk (.type "tuple") none (.seq #[] 0) #[])
noncomputable def Oa (P:Params):Obj:=(Obj.mk .none none (.func (FuncData.mk "get_error_message" "DependencyStatus.get_error_message" (fa [8,3]) (fb [8,3]) (fs [4,1]) 0 [] .none .none .none .none none .none .none 0)) #[])
noncomputable def Xv (P:Params):Obj:=(Obj.mk (.type "code") none (.fields #[(.str "get_error_message" 487),(.str "DependencyStatus.get_error_message" 488),(.str "/claim/cut.py" 489),(.int 102 0),(.int 1 0),(.int 0 0),(.int 0 0),(.int 3 0),(.ref 235),(.bool true),(.int 181 0),(.ref 236),.none,(.ref 237),(.ref 238),(.ref 239),(.int 491 0),(.int 102 0),(.str "/claim/cut.py" 492)]) #[])
noncomputable def Xw (P:Params):Obj:=(Obj.mk (.type "function") none (.func (FuncData.mk "get_error_message" "DependencyStatus.get_error_message" (fa [8,3]) (fb [8,3]) (fs [4,1]) 3 [] .none .none .none (.str "doit.dependency" 194) none (.ref 240) .none 0)) #[])
noncomputable def Xx (P:Params):Obj:=(Obj.mk (.type "tuple") none (.seq #[(.str "error_reason" 494),(.str "get_log" 495),(.str "reasons" 496),(.str "status" 497)] 0) #[])
noncomputable def Xy (P:Params):Obj:=(Obj.mk (.type "dict") none (.dict #[(DictEntry.mk (PyData.keyHash P "__module__") (.str "__module__" 454) (.str "doit.dependency" 194)),(DictEntry.mk (PyData.keyHash P "__firstlineno__") (.str "__firstlineno__" 458) (.int 80 457)),(DictEntry.mk (PyData.keyHash P "__init__") (.str "__init__" 466) (.ref 219)),(DictEntry.mk (PyData.keyHash P "add_reason") (.str "add_reason" 477) (.ref 227)),(DictEntry.mk (PyData.keyHash P "set_reason") (.str "set_reason" 486) (.ref 234)),(DictEntry.mk (PyData.keyHash P "get_error_message") (.str "get_error_message" 493) (.ref 241)),(DictEntry.mk (PyData.keyHash P "__static_attributes__") (.str "__static_attributes__" 498) (.ref 242)),(DictEntry.mk (PyData.keyHash P "__dict__") (.str "__dict__" 500) (.ref 245)),(DictEntry.mk (PyData.keyHash P "__weakref__") (.str "__weakref__" 502) (.ref 246)),(DictEntry.mk (PyData.keyHash P "__doc__") (.str "__doc__" 503) .none)] 4) #[])
noncomputable def Xz (P:Params):Obj:=(Obj.mk (.type "type") none (.cls (ClassData.mk "DependencyStatus" [(.type "object")] [(.ref 244),(.type "object")] 243 "DependencyStatus" true [] [] false none false)) #[none,none,(some (.str "DependencyStatus" 447)),(some (.str "DependencyStatus" 455)),(some (.builtin "object.__new__")),(some (.bool true))])
noncomputable def X0 (P:Params):Obj:=(Obj.mk (.type "getset_descriptor") none (.fields #[(.str "__dict__" 499),(.ref 244),(.builtin "function.__dict__"),(.builtin "function.__dict__#set")]) #[])
noncomputable def X1 (P:Params):Obj:=(Obj.mk (.type "getset_descriptor") none (.fields #[(.str "__weakref__" 501),(.ref 244),(.builtin "ExceptionGroup.__weakref__"),.none]) #[])
noncomputable def X2 (P:Params):Obj:=(Obj.mk (.type "super") none (.fields #[(.ref 244),(.ref 244),(.ref 244)]) #[])
noncomputable def X3 (P:Params):Obj:=(Obj.mk (.type "builtin_function_or_method") none (.fields #[(.builtin "object.__init_subclass__"),(.ref 244)]) #[])
noncomputable def tr3 (P : Params) : BT := (.node (boot_o_0 P) (.node (boot_o_1 P) (.node (o3_4 P) (.node (boot_o_7 P) (.node (Ui P) (.node (Uv P) (.node (Wn P) (.node (Gl P) .nil .nil) (.node (G1 P) .nil .nil)) (.node (Hs P) (.node (Ky P) .nil .nil) (.node (Xh P) .nil .nil))) (.node (U8 P) (.node (Wy P) (.node (Kj P) .nil .nil) (.node (G5 P) .nil .nil)) (.node (Zw P) (.node (Vb P) .nil .nil) (.node (Oa P) .nil .nil)))) (.node (Uo P) (.node (Hd P) (.node (Hl P) (.node (Kd P) .nil .nil) (.node (Vu P) .nil .nil)) (.node (Zb P) (.node (K5 P) .nil .nil) (.node (Xo P) .nil .nil))) (.node (Wg P) (.node (W4 P) (.node (Kr P) .nil .nil) (.node (Xb P) .nil .nil)) (.node (Z2 P) (.node (Vj P) .nil .nil) (.node (X2 P) .nil .nil))))) (.node (Zf P) (.node (Ha P) (.node (Uz P) (.node (Hk P) (.node (Ka P) .nil .nil) (.node (G2 P) .nil .nil)) (.node (Gd P) (.node (K2 P) .nil .nil) (.node (Xk P) .nil .nil))) (.node (Wb P) (.node (W1 P) (.node (Km P) .nil .nil) (.node (G8 P) .nil .nil)) (.node (Zz P) (.node (Vf P) .nil .nil) (.node (Xy P) .nil .nil)))) (.node (Ur P) (.node (U5 P) (.node (Wv P) (.node (Kg P) .nil .nil) (.node (Vy P) .nil .nil)) (.node (Zt P) (.node (K8 P) .nil .nil) (.node (Xr P) .nil .nil))) (.node (Wj P) (.node (W7 P) (.node (Kv P) .nil .nil) (.node (Xe P) .nil .nil)) (.node (Gk P) (.node (Vm P) .nil .nil) .nil))))) (.node (boot_o_5 P) (.node (boot_o_9 P) (.node (Uj P) (.node (Ux P) (.node (Wo P) (.node (Z9 P) .nil .nil) (.node (Vq P) .nil .nil)) (.node (Gb P) (.node (K1 P) .nil .nil) (.node (H6 P) .nil .nil))) (.node (Wa P) (.node (Ho P) (.node (Kk P) .nil .nil) (.node (G7 P) .nil .nil)) (.node (Gh P) (.node (Vd P) .nil .nil) (.node (Xw P) .nil .nil)))) (.node (Uq P) (.node (U3 P) (.node (Wu P) (.node (Go P) .nil .nil) (.node (Vw P) .nil .nil)) (.node (Zr P) (.node (Gx P) .nil .nil) (.node (Xp P) .nil .nil))) (.node (Hh P) (.node (W5 P) (.node (Kt P) .nil .nil) (.node (H3 P) .nil .nil)) (.node (Z3 P) (.node (Vk P) .nil .nil) .nil)))) (.node (Zg P) (.node (Um P) (.node (U0 P) (.node (Wr P) (.node (Kc P) .nil .nil) (.node (Vt P) .nil .nil)) (.node (Y9 P) (.node (Gw P) .nil .nil) (.node (H7 P) .nil .nil))) (.node (Hg P) (.node (Hp P) (.node (Ko P) .nil .nil) (.node (Xa P) .nil .nil)) (.node (Z0 P) (.node (Vh P) .nil .nil) (.node (X0 P) .nil .nil)))) (.node (Ut P) (.node (U7 P) (.node (Wx P) (.node (Gq P) .nil .nil) (.node (V0 P) .nil .nil)) (.node (Gg P) (.node (K9 P) .nil .nil) (.node (Xs P) .nil .nil))) (.node (Wl P) (.node (W8 P) (.node (Kx P) .nil .nil) (.node (Xg P) .nil .nil)) (.node (Z6 P) (.node (Vn P) .nil .nil) .nil)))))) (.node (o2_2 P) (.node (boot_o_4 P) (.node (boot_o_8 P) (.node (X9 P) (.node (Uw P) (.node (Hj P) (.node (Z8 P) .nil .nil) (.node (Vp P) .nil .nil)) (.node (Ga P) (.node (Kz P) .nil .nil) (.node (Xi P) .nil .nil))) (.node (U9 P) (.node (Wz P) (.node (Gr P) .nil .nil) (.node (G6 P) .nil .nil)) (.node (Zx P) (.node (Vc P) .nil .nil) (.node (Xv P) .nil .nil)))) (.node (Up P) (.node (U2 P) (.node (Wt P) (.node (Ke P) .nil .nil) (.node (Vv P) .nil .nil)) (.node (Zc P) (.node (K6 P) .nil .nil) (.node (H8 P) .nil .nil))) (.node (Wh P) (.node (Hq P) (.node (Ks P) .nil .nil) (.node (Xc P) .nil .nil)) (.node (Gj P) (.node (Gz P) .nil .nil) (.node (X3 P) .nil .nil))))) (.node (o12_4 P) (.node (Ul P) (.node (Hc P) (.node (Wq P) (.node (Kb P) .nil .nil) (.node (Vs P) .nil .nil)) (.node (Y8 P) (.node (K3 P) .nil .nil) (.node (Xl P) .nil .nil))) (.node (Wc P) (.node (W2 P) (.node (Kn P) .nil .nil) (.node (G9 P) .nil .nil)) (.node (Gi P) (.node (Vg P) .nil .nil) (.node (Xz P) .nil .nil)))) (.node (Us P) (.node (U6 P) (.node (Ww P) (.node (Kh P) .nil .nil) (.node (Vz P) .nil .nil)) (.node (Zu P) (.node (Gy P) .nil .nil) (.node (H9 P) .nil .nil))) (.node (Hi P) (.node (Hr P) (.node (Kw P) .nil .nil) (.node (Xf P) .nil .nil)) (.node (Z5 P) (.node (G0 P) .nil .nil) .nil))))) (.node (boot_o_6 P) (.node (boot_o_10 P) (.node (Uk P) (.node (Uy P) (.node (Wp P) (.node (Gm P) .nil .nil) (.node (Vr P) .nil .nil)) (.node (Gc P) (.node (Gv P) .nil .nil) (.node (Xj P) .nil .nil))) (.node (Hf P) (.node (W0 P) (.node (Kl P) .nil .nil) (.node (H1 P) .nil .nil)) (.node (Zy P) (.node (Ve P) .nil .nil) (.node (Xx P) .nil .nil)))) (.node (Hb P) (.node (U4 P) (.node (Hm P) (.node (Kf P) .nil .nil) (.node (Vx P) .nil .nil)) (.node (Zs P) (.node (K7 P) .nil .nil) (.node (Xq P) .nil .nil))) (.node (Wi P) (.node (W6 P) (.node (Ku P) .nil .nil) (.node (Xd P) .nil .nil)) (.node (Z4 P) (.node (Vl P) .nil .nil) .nil)))) (.node (Zh P) (.node (Un P) (.node (U1 P) (.node (Ws P) (.node (Gn P) .nil .nil) (.node (G3 P) .nil .nil)) (.node (Za P) (.node (K4 P) .nil .nil) (.node (Xm P) .nil .nil))) (.node (Wf P) (.node (W3 P) (.node (Kq P) .nil .nil) (.node (H2 P) .nil .nil)) (.node (Z1 P) (.node (Vi P) .nil .nil) (.node (X1 P) .nil .nil)))) (.node (Uu P) (.node (He P) (.node (Hn P) (.node (Ki P) .nil .nil) (.node (G4 P) .nil .nil)) (.node (Zv P) (.node (Va P) .nil .nil) (.node (Xu P) .nil .nil))) (.node (Wm P) (.node (W9 P) (.node (Gu P) .nil .nil) (.node (H5 P) .nil .nil)) (.node (Z7 P) (.node (Vo P) .nil .nil) .nil)))))))
noncomputable def lf3 : Life := (Life.mk [] [] [] 0 [] [] Bool.false #[] [] 0 Bool.false Bool.false Bool.false 0 [2000,10,10] Bool.false 0 Bool.true [] [] 0 Bool.false)
noncomputable def dr3 : Drawn := (Drawn.mk 0 0 0 0)
noncomputable def st3 (w : World) (os : OsState) : SharedT := ⟨tr3 w.params,249,lf3,#[],dr3,506,os⟩
noncomputable def gr3 : List Stmt := ((behindTheImports pg).drop 8).take 1
theorem seg3 : ∀ (w : World) (os : OsState),segRunT treeTable pg w 11 annE 1 326 (st2 w os) (piecesOf gr3 ev cE ⟨72,0,79,32⟩ [topFrame qE]) = some (.next,st3 w os,cE,⟨80,0,103,32⟩) := by intro w os; kernel_rfl

noncomputable def o3_5 (P:Params):Obj:=(Obj.mk (.type "dict") none (.dict #[(DictEntry.mk (PyData.keyHash P "__name__") (.str "__name__" 165) (.str "doit.dependency" 194)),(DictEntry.mk (PyData.keyHash P "__doc__") (.str "__doc__" 166) .none),(DictEntry.mk (PyData.keyHash P "__package__") (.str "__package__" 167) .none),(DictEntry.mk (PyData.keyHash P "__loader__") (.str "__loader__" 168) (.builtin "__main__.__loader__#opaque")),(DictEntry.mk (PyData.keyHash P "__spec__") (.str "__spec__" 169) .none),(DictEntry.mk (PyData.keyHash P "__annotations__") (.str "__annotations__" 170) (.ref 6)),(DictEntry.mk (PyData.keyHash P "__builtins__") (.str "__builtins__" 171) (.ref 4)),(DictEntry.mk (PyData.keyHash P "__file__") (.str "__file__" 173) (.str "/claim/cut.py" 172)),(DictEntry.mk (PyData.keyHash P "__cached__") (.str "__cached__" 174) .none),(DictEntry.mk (PyData.keyHash P "_wall") (.str "_wall" 193) (.ref 21)),(DictEntry.mk (PyData.keyHash P "MissingFile") (.str "MissingFile" 215) (.ref 31)),(DictEntry.mk (PyData.keyHash P "get_md5") (.str "get_md5" 222) (.ref 41)),(DictEntry.mk (PyData.keyHash P "JsonDB") (.str "JsonDB" 300) (.ref 100)),(DictEntry.mk (PyData.keyHash P "FileChangedChecker") (.str "FileChangedChecker" 366) (.ref 149)),(DictEntry.mk (PyData.keyHash P "MD5Checker") (.str "MD5Checker" 409) (.ref 177)),(DictEntry.mk (PyData.keyHash P "TimestampChecker") (.str "TimestampChecker" 446) (.ref 203)),(DictEntry.mk (PyData.keyHash P "DependencyStatus") (.str "DependencyStatus" 505) (.ref 244)),(DictEntry.mk (PyData.keyHash P "Dependency") (.str "Dependency" 653) (.ref 363))] 18) #[])
noncomputable def o12_5 (P:Params):Obj:=(Obj.mk .none none (.fields #[(.int 1 0),(.int 0 0),(.ref 20),(.int 5 0),(.int 0 0),(.ref 27),(.int 7 0),(.int 0 0),(.ref 40),(.int 9 0),(.int 0 0),(.ref 47),(.int 35 0),(.int 0 0),(.ref 110),(.int 54 0),(.int 0 0),(.ref 159),(.int 72 0),(.int 0 0),(.ref 185),(.int 80 0),(.int 0 0),(.ref 211),(.int 104 0),(.int 0 0),(.ref 254)]) #[])
noncomputable def Ob (P:Params):Obj:=(Obj.mk (.type "tuple") none (.seq #[] 0) #[])
noncomputable def Oc (P:Params):Obj:=(Obj.mk (.type "builtin_function_or_method") none (.fields #[(.builtin "type.__prepare__"),(.type "type")]) #[])
noncomputable def Od (P:Params):Obj:=(Obj.mk (.type "dict") none (.dict #[(DictEntry.mk (PyData.keyHash P "__module__") (.str "__module__" 513) (.str "doit.dependency" 194)),(DictEntry.mk (PyData.keyHash P "__qualname__") (.str "__qualname__" 515) (.str "Dependency" 514)),(DictEntry.mk (PyData.keyHash P "__firstlineno__") (.str "__firstlineno__" 517) (.int 104 516)),(DictEntry.mk (PyData.keyHash P "__init__") (.str "__init__" 526) (.ref 262)),(DictEntry.mk (PyData.keyHash P "_set") (.str "_set" 536) (.ref 269)),(DictEntry.mk (PyData.keyHash P "_get") (.str "_get" 545) (.ref 276)),(DictEntry.mk (PyData.keyHash P "remove") (.str "remove" 553) (.ref 283)),(DictEntry.mk (PyData.keyHash P "remove_all") (.str "remove_all" 560) (.ref 290)),(DictEntry.mk (PyData.keyHash P "_in") (.str "_in" 568) (.ref 297)),(DictEntry.mk (PyData.keyHash P "close") (.str "close" 575) (.ref 304)),(DictEntry.mk (PyData.keyHash P "save_success") (.str "save_success" 586) (.ref 312)),(DictEntry.mk (PyData.keyHash P "get_values") (.str "get_values" 595) (.ref 319)),(DictEntry.mk (PyData.keyHash P "get_value") (.str "get_value" 604) (.ref 326)),(DictEntry.mk (PyData.keyHash P "get_result") (.str "get_result" 612) (.ref 333)),(DictEntry.mk (PyData.keyHash P "remove_success") (.str "remove_success" 620) (.ref 340)),(DictEntry.mk (PyData.keyHash P "ignore") (.str "ignore" 628) (.ref 347)),(DictEntry.mk (PyData.keyHash P "status_is_ignore") (.str "status_is_ignore" 636) (.ref 354)),(DictEntry.mk (PyData.keyHash P "get_status") (.str "get_status" 642) (.ref 360)),(DictEntry.mk (PyData.keyHash P "__static_attributes__") (.str "__static_attributes__" 646) (.ref 361))] 19) #[])
noncomputable def Oe (P:Params):Obj:=(Obj.mk (.type "tuple") none (.seq #[] 0) #[])
noncomputable def o253_5 (P:Params):Obj:=(Obj.mk .none none (.fields #[(.int 106 0),(.int 4 0),(.ref 261),(.int 111 0),(.int 4 0),(.ref 268),(.int 114 0),(.int 4 0),(.ref 275),(.int 117 0),(.int 4 0),(.ref 282),(.int 120 0),(.int 4 0),(.ref 289),(.int 123 0),(.int 4 0),(.ref 296),(.int 126 0),(.int 4 0),(.ref 303),(.int 131 0),(.int 4 0),(.ref 311),(.int 147 0),(.int 4 0),(.ref 318),(.int 151 0),(.int 4 0),(.ref 325),(.int 154 0),(.int 4 0),(.ref 332),(.int 157 0),(.int 4 0),(.ref 339),(.int 160 0),(.int 4 0),(.ref 346),(.int 163 0),(.int 4 0),(.ref 353),(.int 166 0),(.int 4 0),(.ref 359)]) #[])
noncomputable def Of (P:Params):Obj:=(Obj.mk (.type "code") none (.fields #[(.str "Dependency" 508),(.str "Dependency" 509),(.str "/claim/cut.py" 510),(.int 104 0),(.int 0 0),(.int 0 0),(.int 0 0),(.int 0 0),(.ref 252),(.bool false),(.int 181 0),(.ref 253),.none,.none,.none,.none,(.int 511 0),(.int 104 0),(.str "/claim/cut.py" 512)]) #[])
noncomputable def Og (P:Params):Obj:=(Obj.mk (.type "frame") none .plain #[(some (.ref 254)),(some (.ref 3)),(some (.ref 251)),none,(some (.str "doit.dependency" 194)),none,(some (.ref 0))])
noncomputable def Oh (P:Params):Obj:=(Obj.mk (.type "tuple") none (.seq #[] 0) #[])
noncomputable def o257_5 (P:Params):Obj:=(Obj.mk .none none (.fields #[]) #[])
noncomputable def Oi (P:Params):Obj:=(Obj.mk (.type "tuple") none (.seq #[(.str "self" 521),(.str "backend" 522),(.str "checker" 523)] 0) #[])
noncomputable def Oj (P:Params):Obj:=(Obj.mk (.type "tuple") none (.seq #[] 0) #[])
noncomputable def o260_5 (P:Params):Obj:=(Obj.mk .none none (.func (FuncData.mk "__init__" "Dependency.__init__" (fa [9,0]) (fb [9,0]) (fs [9,0]) 0 [] .none .none .none .none none .none .none 0)) #[])
noncomputable def Ol (P:Params):Obj:=(Obj.mk (.type "code") none (.fields #[(.str "__init__" 518),(.str "Dependency.__init__" 519),(.str "/claim/cut.py" 520),(.int 106 0),(.int 3 0),(.int 0 0),(.int 0 0),(.int 3 0),(.ref 256),(.bool true),(.int 181 0),(.ref 257),.none,(.ref 258),(.ref 259),(.ref 260),(.int 524 0),(.int 106 0),(.str "/claim/cut.py" 525)]) #[])
noncomputable def Om (P:Params):Obj:=(Obj.mk (.type "function") none (.func (FuncData.mk "__init__" "Dependency.__init__" (fa [9,0]) (fb [9,0]) (fs [9,0]) 3 [] .none .none .none (.str "doit.dependency" 194) none (.ref 261) .none 0)) #[])
noncomputable def On (P:Params):Obj:=(Obj.mk (.type "tuple") none (.seq #[] 0) #[])
noncomputable def o264_5 (P:Params):Obj:=(Obj.mk .none none (.fields #[]) #[])
noncomputable def Oo (P:Params):Obj:=(Obj.mk (.type "tuple") none (.seq #[(.str "self" 530),(.str "task_id" 531),(.str "dependency" 532),(.str "value" 533)] 0) #[])
noncomputable def Oq (P:Params):Obj:=(Obj.mk (.type "tuple") none (.seq #[] 0) #[])
noncomputable def o267_5 (P:Params):Obj:=(Obj.mk .none none (.func (FuncData.mk "_set" "Dependency._set" (fa [9,1]) (fb [9,1]) (fs [4,2]) 0 [] .none .none .none .none none .none .none 0)) #[])
noncomputable def Os (P:Params):Obj:=(Obj.mk (.type "code") none (.fields #[(.str "_set" 527),(.str "Dependency._set" 528),(.str "/claim/cut.py" 529),(.int 111 0),(.int 4 0),(.int 0 0),(.int 0 0),(.int 3 0),(.ref 263),(.bool true),(.int 181 0),(.ref 264),.none,(.ref 265),(.ref 266),(.ref 267),(.int 534 0),(.int 111 0),(.str "/claim/cut.py" 535)]) #[])
noncomputable def Ot (P:Params):Obj:=(Obj.mk (.type "function") none (.func (FuncData.mk "_set" "Dependency._set" (fa [9,1]) (fb [9,1]) (fs [4,2]) 3 [] .none .none .none (.str "doit.dependency" 194) none (.ref 268) .none 0)) #[])
noncomputable def Ou (P:Params):Obj:=(Obj.mk (.type "tuple") none (.seq #[] 0) #[])
noncomputable def o271_5 (P:Params):Obj:=(Obj.mk .none none (.fields #[]) #[])
noncomputable def Ov (P:Params):Obj:=(Obj.mk (.type "tuple") none (.seq #[(.str "self" 540),(.str "task_id" 541),(.str "dependency" 542)] 0) #[])
noncomputable def Ow (P:Params):Obj:=(Obj.mk (.type "tuple") none (.seq #[] 0) #[])
noncomputable def o274_5 (P:Params):Obj:=(Obj.mk .none none (.func (FuncData.mk "_get" "Dependency._get" (fa [9,2]) (fb [9,2]) (fs [4,3]) 0 [] .none .none .none .none none .none .none 0)) #[])
noncomputable def Ox (P:Params):Obj:=(Obj.mk (.type "code") none (.fields #[(.str "_get" 537),(.str "Dependency._get" 538),(.str "/claim/cut.py" 539),(.int 114 0),(.int 3 0),(.int 0 0),(.int 0 0),(.int 3 0),(.ref 270),(.bool true),(.int 181 0),(.ref 271),.none,(.ref 272),(.ref 273),(.ref 274),(.int 543 0),(.int 114 0),(.str "/claim/cut.py" 544)]) #[])
noncomputable def Oy (P:Params):Obj:=(Obj.mk (.type "function") none (.func (FuncData.mk "_get" "Dependency._get" (fa [9,2]) (fb [9,2]) (fs [4,3]) 3 [] .none .none .none (.str "doit.dependency" 194) none (.ref 275) .none 0)) #[])
noncomputable def Oz (P:Params):Obj:=(Obj.mk (.type "tuple") none (.seq #[] 0) #[])
noncomputable def o278_5 (P:Params):Obj:=(Obj.mk .none none (.fields #[]) #[])
noncomputable def O0 (P:Params):Obj:=(Obj.mk (.type "tuple") none (.seq #[(.str "self" 549),(.str "task_id" 550)] 0) #[])
noncomputable def O1 (P:Params):Obj:=(Obj.mk (.type "tuple") none (.seq #[] 0) #[])
noncomputable def o281_5 (P:Params):Obj:=(Obj.mk .none none (.func (FuncData.mk "remove" "Dependency.remove" (fa [9,3]) (fb [9,3]) (fs [4,5]) 0 [] .none .none .none .none none .none .none 0)) #[])
noncomputable def O2 (P:Params):Obj:=(Obj.mk (.type "code") none (.fields #[(.str "remove" 546),(.str "Dependency.remove" 547),(.str "/claim/cut.py" 548),(.int 117 0),(.int 2 0),(.int 0 0),(.int 0 0),(.int 3 0),(.ref 277),(.bool true),(.int 181 0),(.ref 278),.none,(.ref 279),(.ref 280),(.ref 281),(.int 551 0),(.int 117 0),(.str "/claim/cut.py" 552)]) #[])
noncomputable def O3 (P:Params):Obj:=(Obj.mk (.type "function") none (.func (FuncData.mk "remove" "Dependency.remove" (fa [9,3]) (fb [9,3]) (fs [4,5]) 3 [] .none .none .none (.str "doit.dependency" 194) none (.ref 282) .none 0)) #[])
noncomputable def O4 (P:Params):Obj:=(Obj.mk (.type "tuple") none (.seq #[] 0) #[])
noncomputable def o285_5 (P:Params):Obj:=(Obj.mk .none none (.fields #[]) #[])
noncomputable def O5 (P:Params):Obj:=(Obj.mk (.type "tuple") none (.seq #[(.str "self" 557)] 0) #[])
noncomputable def O6 (P:Params):Obj:=(Obj.mk (.type "tuple") none (.seq #[] 0) #[])
noncomputable def o288_5 (P:Params):Obj:=(Obj.mk .none none (.func (FuncData.mk "remove_all" "Dependency.remove_all" (fa [9,4]) (fb [9,4]) (fs [4,6]) 0 [] .none .none .none .none none .none .none 0)) #[])
noncomputable def O7 (P:Params):Obj:=(Obj.mk (.type "code") none (.fields #[(.str "remove_all" 554),(.str "Dependency.remove_all" 555),(.str "/claim/cut.py" 556),(.int 120 0),(.int 1 0),(.int 0 0),(.int 0 0),(.int 3 0),(.ref 284),(.bool true),(.int 181 0),(.ref 285),.none,(.ref 286),(.ref 287),(.ref 288),(.int 558 0),(.int 120 0),(.str "/claim/cut.py" 559)]) #[])
noncomputable def O8 (P:Params):Obj:=(Obj.mk (.type "function") none (.func (FuncData.mk "remove_all" "Dependency.remove_all" (fa [9,4]) (fb [9,4]) (fs [4,6]) 3 [] .none .none .none (.str "doit.dependency" 194) none (.ref 289) .none 0)) #[])
noncomputable def O9 (P:Params):Obj:=(Obj.mk (.type "tuple") none (.seq #[] 0) #[])
noncomputable def o292_5 (P:Params):Obj:=(Obj.mk .none none (.fields #[]) #[])
noncomputable def Ma (P:Params):Obj:=(Obj.mk (.type "tuple") none (.seq #[(.str "self" 564),(.str "task_id" 565)] 0) #[])
noncomputable def Mb (P:Params):Obj:=(Obj.mk (.type "tuple") none (.seq #[] 0) #[])
noncomputable def o295_5 (P:Params):Obj:=(Obj.mk .none none (.func (FuncData.mk "_in" "Dependency._in" (fa [9,5]) (fb [9,5]) (fs [4,4]) 0 [] .none .none .none .none none .none .none 0)) #[])
noncomputable def Mc (P:Params):Obj:=(Obj.mk (.type "code") none (.fields #[(.str "_in" 561),(.str "Dependency._in" 562),(.str "/claim/cut.py" 563),(.int 123 0),(.int 2 0),(.int 0 0),(.int 0 0),(.int 3 0),(.ref 291),(.bool true),(.int 181 0),(.ref 292),.none,(.ref 293),(.ref 294),(.ref 295),(.int 566 0),(.int 123 0),(.str "/claim/cut.py" 567)]) #[])
noncomputable def Md (P:Params):Obj:=(Obj.mk (.type "function") none (.func (FuncData.mk "_in" "Dependency._in" (fa [9,5]) (fb [9,5]) (fs [4,4]) 3 [] .none .none .none (.str "doit.dependency" 194) none (.ref 296) .none 0)) #[])
noncomputable def Me (P:Params):Obj:=(Obj.mk (.type "tuple") none (.seq #[] 0) #[])
noncomputable def o299_5 (P:Params):Obj:=(Obj.mk .none none (.fields #[]) #[])
noncomputable def Mf (P:Params):Obj:=(Obj.mk (.type "tuple") none (.seq #[(.str "self" 572)] 0) #[])
noncomputable def Mg (P:Params):Obj:=(Obj.mk (.type "tuple") none (.seq #[] 0) #[])
noncomputable def o302_5 (P:Params):Obj:=(Obj.mk .none none (.func (FuncData.mk "close" "Dependency.close" (fa [9,6]) (fb [9,6]) (fs [4,1]) 0 [] .none .none .none .none none .none .none 0)) #[])
noncomputable def Mh (P:Params):Obj:=(Obj.mk (.type "code") none (.fields #[(.str "close" 569),(.str "Dependency.close" 570),(.str "/claim/cut.py" 571),(.int 126 0),(.int 1 0),(.int 0 0),(.int 0 0),(.int 3 0),(.ref 298),(.bool true),(.int 181 0),(.ref 299),.none,(.ref 300),(.ref 301),(.ref 302),(.int 573 0),(.int 126 0),(.str "/claim/cut.py" 574)]) #[])
noncomputable def Mi (P:Params):Obj:=(Obj.mk (.type "function") none (.func (FuncData.mk "close" "Dependency.close" (fa [9,6]) (fb [9,6]) (fs [4,1]) 3 [] .none .none .none (.str "doit.dependency" 194) none (.ref 303) .none 0)) #[])
noncomputable def Mj (P:Params):Obj:=(Obj.mk (.type "tuple") none (.seq #[.none] 0) #[])
noncomputable def Mk (P:Params):Obj:=(Obj.mk (.type "tuple") none (.seq #[] 0) #[])
noncomputable def o307_5 (P:Params):Obj:=(Obj.mk .none none (.fields #[]) #[])
noncomputable def Ml (P:Params):Obj:=(Obj.mk (.type "tuple") none (.seq #[(.str "self" 579),(.str "task" 580),(.str "result_hash" 581),(.str "dep" 582),(.str "state" 583)] 0) #[])
noncomputable def Mm (P:Params):Obj:=(Obj.mk (.type "tuple") none (.seq #[] 0) #[])
noncomputable def o310_5 (P:Params):Obj:=(Obj.mk .none none (.func (FuncData.mk "save_success" "Dependency.save_success" (fa [9,7]) (fb [9,7]) (fs [9,7]) 0 [] .none .none .none .none none .none .none 0)) #[])
noncomputable def Mn (P:Params):Obj:=(Obj.mk (.type "code") none (.fields #[(.str "save_success" 576),(.str "Dependency.save_success" 577),(.str "/claim/cut.py" 578),(.int 131 0),(.int 3 0),(.int 0 0),(.int 0 0),(.int 3 0),(.ref 306),(.bool true),(.int 181 0),(.ref 307),.none,(.ref 308),(.ref 309),(.ref 310),(.int 584 0),(.int 131 0),(.str "/claim/cut.py" 585)]) #[])
noncomputable def Mo (P:Params):Obj:=(Obj.mk (.type "function") none (.func (FuncData.mk "save_success" "Dependency.save_success" (fa [9,7]) (fb [9,7]) (fs [9,7]) 3 [] (.ref 305) .none .none (.str "doit.dependency" 194) none (.ref 311) .none 0)) #[])
noncomputable def Mp (P:Params):Obj:=(Obj.mk (.type "tuple") none (.seq #[] 0) #[])
noncomputable def o314_5 (P:Params):Obj:=(Obj.mk .none none (.fields #[]) #[])
noncomputable def Mq (P:Params):Obj:=(Obj.mk (.type "tuple") none (.seq #[(.str "self" 590),(.str "task_name" 591),(.str "values" 592)] 0) #[])
noncomputable def Mr (P:Params):Obj:=(Obj.mk (.type "tuple") none (.seq #[] 0) #[])
noncomputable def o317_5 (P:Params):Obj:=(Obj.mk .none none (.func (FuncData.mk "get_values" "Dependency.get_values" (fa [9,8]) (fb [9,8]) (fs [9,8]) 0 [] .none .none .none .none none .none .none 0)) #[])
noncomputable def Ms (P:Params):Obj:=(Obj.mk (.type "code") none (.fields #[(.str "get_values" 587),(.str "Dependency.get_values" 588),(.str "/claim/cut.py" 589),(.int 147 0),(.int 2 0),(.int 0 0),(.int 0 0),(.int 3 0),(.ref 313),(.bool true),(.int 181 0),(.ref 314),.none,(.ref 315),(.ref 316),(.ref 317),(.int 593 0),(.int 147 0),(.str "/claim/cut.py" 594)]) #[])
noncomputable def Mt (P:Params):Obj:=(Obj.mk (.type "function") none (.func (FuncData.mk "get_values" "Dependency.get_values" (fa [9,8]) (fb [9,8]) (fs [9,8]) 3 [] .none .none .none (.str "doit.dependency" 194) none (.ref 318) .none 0)) #[])
noncomputable def Mu (P:Params):Obj:=(Obj.mk (.type "tuple") none (.seq #[] 0) #[])
noncomputable def o321_5 (P:Params):Obj:=(Obj.mk .none none (.fields #[]) #[])
noncomputable def Mv (P:Params):Obj:=(Obj.mk (.type "tuple") none (.seq #[(.str "self" 599),(.str "task_id" 600),(.str "key_name" 601)] 0) #[])
noncomputable def Mw (P:Params):Obj:=(Obj.mk (.type "tuple") none (.seq #[] 0) #[])
noncomputable def o324_5 (P:Params):Obj:=(Obj.mk .none none (.func (FuncData.mk "get_value" "Dependency.get_value" (fa [9,9]) (fb [9,9]) (fs [9,9]) 0 [] .none .none .none .none none .none .none 0)) #[])
noncomputable def Mx (P:Params):Obj:=(Obj.mk (.type "code") none (.fields #[(.str "get_value" 596),(.str "Dependency.get_value" 597),(.str "/claim/cut.py" 598),(.int 151 0),(.int 3 0),(.int 0 0),(.int 0 0),(.int 3 0),(.ref 320),(.bool true),(.int 181 0),(.ref 321),.none,(.ref 322),(.ref 323),(.ref 324),(.int 602 0),(.int 151 0),(.str "/claim/cut.py" 603)]) #[])
noncomputable def My (P:Params):Obj:=(Obj.mk (.type "function") none (.func (FuncData.mk "get_value" "Dependency.get_value" (fa [9,9]) (fb [9,9]) (fs [9,9]) 3 [] .none .none .none (.str "doit.dependency" 194) none (.ref 325) .none 0)) #[])
noncomputable def Mz (P:Params):Obj:=(Obj.mk (.type "tuple") none (.seq #[] 0) #[])
noncomputable def o328_5 (P:Params):Obj:=(Obj.mk .none none (.fields #[]) #[])
noncomputable def M0 (P:Params):Obj:=(Obj.mk (.type "tuple") none (.seq #[(.str "self" 608),(.str "task_name" 609)] 0) #[])
noncomputable def M1 (P:Params):Obj:=(Obj.mk (.type "tuple") none (.seq #[] 0) #[])
noncomputable def o331_5 (P:Params):Obj:=(Obj.mk .none none (.func (FuncData.mk "get_result" "Dependency.get_result" (fa [9,10]) (fb [9,10]) (fs [9,10]) 0 [] .none .none .none .none none .none .none 0)) #[])
noncomputable def M2 (P:Params):Obj:=(Obj.mk (.type "code") none (.fields #[(.str "get_result" 605),(.str "Dependency.get_result" 606),(.str "/claim/cut.py" 607),(.int 154 0),(.int 2 0),(.int 0 0),(.int 0 0),(.int 3 0),(.ref 327),(.bool true),(.int 181 0),(.ref 328),.none,(.ref 329),(.ref 330),(.ref 331),(.int 610 0),(.int 154 0),(.str "/claim/cut.py" 611)]) #[])
noncomputable def M3 (P:Params):Obj:=(Obj.mk (.type "function") none (.func (FuncData.mk "get_result" "Dependency.get_result" (fa [9,10]) (fb [9,10]) (fs [9,10]) 3 [] .none .none .none (.str "doit.dependency" 194) none (.ref 332) .none 0)) #[])
noncomputable def M4 (P:Params):Obj:=(Obj.mk (.type "tuple") none (.seq #[] 0) #[])
noncomputable def o335_5 (P:Params):Obj:=(Obj.mk .none none (.fields #[]) #[])
noncomputable def M5 (P:Params):Obj:=(Obj.mk (.type "tuple") none (.seq #[(.str "self" 616),(.str "task" 617)] 0) #[])
noncomputable def M6 (P:Params):Obj:=(Obj.mk (.type "tuple") none (.seq #[] 0) #[])
noncomputable def o338_5 (P:Params):Obj:=(Obj.mk .none none (.func (FuncData.mk "remove_success" "Dependency.remove_success" (fa [9,11]) (fb [9,11]) (fs [9,11]) 0 [] .none .none .none .none none .none .none 0)) #[])
noncomputable def M7 (P:Params):Obj:=(Obj.mk (.type "code") none (.fields #[(.str "remove_success" 613),(.str "Dependency.remove_success" 614),(.str "/claim/cut.py" 615),(.int 157 0),(.int 2 0),(.int 0 0),(.int 0 0),(.int 3 0),(.ref 334),(.bool true),(.int 181 0),(.ref 335),.none,(.ref 336),(.ref 337),(.ref 338),(.int 618 0),(.int 157 0),(.str "/claim/cut.py" 619)]) #[])
noncomputable def o340_5 (P:Params):Obj:=(Obj.mk (.type "function") none (.func (FuncData.mk "remove_success" "Dependency.remove_success" (fa [9,11]) (fb [9,11]) (fs [9,11]) 3 [] .none .none .none (.str "doit.dependency" 194) none (.ref 339) .none 0)) #[])
noncomputable def o341_5 (P:Params):Obj:=(Obj.mk (.type "tuple") none (.seq #[] 0) #[])
noncomputable def o342_5 (P:Params):Obj:=(Obj.mk .none none (.fields #[]) #[])
noncomputable def o343_5 (P:Params):Obj:=(Obj.mk (.type "tuple") none (.seq #[(.str "self" 624),(.str "task" 625)] 0) #[])
noncomputable def o344_5 (P:Params):Obj:=(Obj.mk (.type "tuple") none (.seq #[] 0) #[])
noncomputable def o345_5 (P:Params):Obj:=(Obj.mk .none none (.func (FuncData.mk "ignore" "Dependency.ignore" (fa [9,12]) (fb [9,12]) (fs [9,11]) 0 [] .none .none .none .none none .none .none 0)) #[])
noncomputable def o346_5 (P:Params):Obj:=(Obj.mk (.type "code") none (.fields #[(.str "ignore" 621),(.str "Dependency.ignore" 622),(.str "/claim/cut.py" 623),(.int 160 0),(.int 2 0),(.int 0 0),(.int 0 0),(.int 3 0),(.ref 341),(.bool true),(.int 181 0),(.ref 342),.none,(.ref 343),(.ref 344),(.ref 345),(.int 626 0),(.int 160 0),(.str "/claim/cut.py" 627)]) #[])
noncomputable def o347_5 (P:Params):Obj:=(Obj.mk (.type "function") none (.func (FuncData.mk "ignore" "Dependency.ignore" (fa [9,12]) (fb [9,12]) (fs [9,11]) 3 [] .none .none .none (.str "doit.dependency" 194) none (.ref 346) .none 0)) #[])
noncomputable def o348_5 (P:Params):Obj:=(Obj.mk (.type "tuple") none (.seq #[] 0) #[])
noncomputable def o349_5 (P:Params):Obj:=(Obj.mk .none none (.fields #[]) #[])
noncomputable def o350_5 (P:Params):Obj:=(Obj.mk (.type "tuple") none (.seq #[(.str "self" 632),(.str "task" 633)] 0) #[])
noncomputable def o351_5 (P:Params):Obj:=(Obj.mk (.type "tuple") none (.seq #[] 0) #[])
noncomputable def o352_5 (P:Params):Obj:=(Obj.mk .none none (.func (FuncData.mk "status_is_ignore" "Dependency.status_is_ignore" (fa [9,13]) (fb [9,13]) (fs [9,11]) 0 [] .none .none .none .none none .none .none 0)) #[])
noncomputable def o353_5 (P:Params):Obj:=(Obj.mk (.type "code") none (.fields #[(.str "status_is_ignore" 629),(.str "Dependency.status_is_ignore" 630),(.str "/claim/cut.py" 631),(.int 163 0),(.int 2 0),(.int 0 0),(.int 0 0),(.int 3 0),(.ref 348),(.bool true),(.int 181 0),(.ref 349),.none,(.ref 350),(.ref 351),(.ref 352),(.int 634 0),(.int 163 0),(.str "/claim/cut.py" 635)]) #[])
noncomputable def o354_5 (P:Params):Obj:=(Obj.mk (.type "function") none (.func (FuncData.mk "status_is_ignore" "Dependency.status_is_ignore" (fa [9,13]) (fb [9,13]) (fs [9,11]) 3 [] .none .none .none (.str "doit.dependency" 194) none (.ref 353) .none 0)) #[])
noncomputable def o355_5 (P:Params):Obj:=(Obj.mk (.type "tuple") none (.seq #[(.bool false)] 0) #[])
noncomputable def o356_5 (P:Params):Obj:=(Obj.mk (.type "tuple") none (.seq #[] 0) #[])
noncomputable def o357_5 (P:Params):Obj:=(Obj.mk .none none (.fields #[]) #[])
noncomputable def o358_5 (P:Params):Obj:=(Obj.mk .none none (.func (FuncData.mk "get_status" "Dependency.get_status" (fa [9,14]) (fb [9,14]) (fs [9,14]) 0 [] .none .none .none .none none .none .none 0)) #[])
noncomputable def o359_5 (P:Params):Obj:=(Obj.mk (.type "code") none (.fields #[(.str "get_status" 637),(.str "Dependency.get_status" 638),(.str "/claim/cut.py" 639),(.int 166 0),(.int 4 0),(.int 0 0),(.int 0 0),(.int 3 0),(.ref 356),(.bool true),(.int 181 0),(.ref 357),.none,.none,.none,(.ref 358),(.int 640 0),(.int 166 0),(.str "/claim/cut.py" 641)]) #[])
noncomputable def o360_5 (P:Params):Obj:=(Obj.mk (.type "function") none (.func (FuncData.mk "get_status" "Dependency.get_status" (fa [9,14]) (fb [9,14]) (fs [9,14]) 3 [] (.ref 355) .none .none (.str "doit.dependency" 194) none (.ref 359) .none 0)) #[])
noncomputable def o361_5 (P:Params):Obj:=(Obj.mk (.type "tuple") none (.seq #[(.str "_closed" 643),(.str "backend" 644),(.str "checker" 645)] 0) #[])
noncomputable def o362_5 (P:Params):Obj:=(Obj.mk (.type "dict") none (.dict #[(DictEntry.mk (PyData.keyHash P "__module__") (.str "__module__" 513) (.str "doit.dependency" 194)),(DictEntry.mk (PyData.keyHash P "__firstlineno__") (.str "__firstlineno__" 517) (.int 104 516)),(DictEntry.mk (PyData.keyHash P "__init__") (.str "__init__" 526) (.ref 262)),(DictEntry.mk (PyData.keyHash P "_set") (.str "_set" 536) (.ref 269)),(DictEntry.mk (PyData.keyHash P "_get") (.str "_get" 545) (.ref 276)),(DictEntry.mk (PyData.keyHash P "remove") (.str "remove" 553) (.ref 283)),(DictEntry.mk (PyData.keyHash P "remove_all") (.str "remove_all" 560) (.ref 290)),(DictEntry.mk (PyData.keyHash P "_in") (.str "_in" 568) (.ref 297)),(DictEntry.mk (PyData.keyHash P "close") (.str "close" 575) (.ref 304)),(DictEntry.mk (PyData.keyHash P "save_success") (.str "save_success" 586) (.ref 312)),(DictEntry.mk (PyData.keyHash P "get_values") (.str "get_values" 595) (.ref 319)),(DictEntry.mk (PyData.keyHash P "get_value") (.str "get_value" 604) (.ref 326)),(DictEntry.mk (PyData.keyHash P "get_result") (.str "get_result" 612) (.ref 333)),(DictEntry.mk (PyData.keyHash P "remove_success") (.str "remove_success" 620) (.ref 340)),(DictEntry.mk (PyData.keyHash P "ignore") (.str "ignore" 628) (.ref 347)),(DictEntry.mk (PyData.keyHash P "status_is_ignore") (.str "status_is_ignore" 636) (.ref 354)),(DictEntry.mk (PyData.keyHash P "get_status") (.str "get_status" 642) (.ref 360)),(DictEntry.mk (PyData.keyHash P "__static_attributes__") (.str "__static_attributes__" 646) (.ref 361)),(DictEntry.mk (PyData.keyHash P "__dict__") (.str "__dict__" 648) (.ref 364)),(DictEntry.mk (PyData.keyHash P "__weakref__") (.str "__weakref__" 650) (.ref 365)),(DictEntry.mk (PyData.keyHash P "__doc__") (.str "__doc__" 651) .none)] 4) #[])
noncomputable def o363_5 (P:Params):Obj:=(Obj.mk (.type "type") none (.cls (ClassData.mk "Dependency" [(.type "object")] [(.ref 363),(.type "object")] 362 "Dependency" true [] [] false none false)) #[none,none,(some (.str "Dependency" 506)),(some (.str "Dependency" 514)),(some (.builtin "object.__new__")),(some (.bool true))])
noncomputable def o364_5 (P:Params):Obj:=(Obj.mk (.type "getset_descriptor") none (.fields #[(.str "__dict__" 647),(.ref 363),(.builtin "function.__dict__"),(.builtin "function.__dict__#set")]) #[])
noncomputable def o365_5 (P:Params):Obj:=(Obj.mk (.type "getset_descriptor") none (.fields #[(.str "__weakref__" 649),(.ref 363),(.builtin "ExceptionGroup.__weakref__"),.none]) #[])
noncomputable def o366_5 (P:Params):Obj:=(Obj.mk (.type "super") none (.fields #[(.ref 363),(.ref 363),(.ref 363)]) #[])
noncomputable def o367_5 (P:Params):Obj:=(Obj.mk (.type "builtin_function_or_method") none (.fields #[(.builtin "object.__init_subclass__"),(.ref 363)]) #[])
noncomputable def tr4 (P : Params) : BT := (.node (boot_o_0 P) (.node (boot_o_1 P) (.node (o3_5 P) (.node (boot_o_7 P) (.node (Ui P) (.node (Uv P) (.node (Wn P) (.node (Gl P) (.node (Og P) .nil .nil) .nil) (.node (G1 P) (.node (Mt P) .nil .nil) .nil)) (.node (Hs P) (.node (Ky P) (.node (O6 P) .nil .nil) .nil) (.node (Xh P) (.node (o351_5 P) .nil .nil) .nil))) (.node (U8 P) (.node (Wy P) (.node (Kj P) (.node (o271_5 P) .nil .nil) .nil) (.node (G5 P) (.node (o335_5 P) .nil .nil) .nil)) (.node (Zw P) (.node (Vb P) (.node (Mh P) .nil .nil) .nil) (.node (Oa P) (.node (o367_5 P) .nil .nil) .nil)))) (.node (Uo P) (.node (Hd P) (.node (Hl P) (.node (Kd P) (.node (On P) .nil .nil) .nil) (.node (Vu P) (.node (Mz P) .nil .nil) .nil)) (.node (Zb P) (.node (K5 P) (.node (o295_5 P) .nil .nil) .nil) (.node (Xo P) (.node (o359_5 P) .nil .nil) .nil))) (.node (Wg P) (.node (W4 P) (.node (Kr P) (.node (O0 P) .nil .nil) .nil) (.node (Xb P) (.node (o343_5 P) .nil .nil) .nil)) (.node (Z2 P) (.node (Vj P) (.node (Mn P) .nil .nil) .nil) (.node (X2 P) .nil .nil))))) (.node (Zf P) (.node (Ha P) (.node (Uz P) (.node (Hk P) (.node (Ka P) (.node (Oj P) .nil .nil) .nil) (.node (G2 P) (.node (Mw P) .nil .nil) .nil)) (.node (Gd P) (.node (K2 P) (.node (O9 P) .nil .nil) .nil) (.node (Xk P) (.node (o355_5 P) .nil .nil) .nil))) (.node (Wb P) (.node (W1 P) (.node (Km P) (.node (Ox P) .nil .nil) .nil) (.node (G8 P) (.node (M7 P) .nil .nil) .nil)) (.node (Zz P) (.node (Vf P) (.node (o307_5 P) .nil .nil) .nil) (.node (Xy P) .nil .nil)))) (.node (Ur P) (.node (U5 P) (.node (Wv P) (.node (Kg P) (.node (o267_5 P) .nil .nil) .nil) (.node (Vy P) (.node (o331_5 P) .nil .nil) .nil)) (.node (Zt P) (.node (K8 P) (.node (o299_5 P) .nil .nil) .nil) (.node (Xr P) (.node (o363_5 P) .nil .nil) .nil))) (.node (Wj P) (.node (W7 P) (.node (Kv P) (.node (O3 P) .nil .nil) .nil) (.node (Xe P) (.node (o347_5 P) .nil .nil) .nil)) (.node (Gk P) (.node (Vm P) (.node (Mq P) .nil .nil) .nil) (.node (Od P) .nil .nil)))))) (.node (boot_o_5 P) (.node (boot_o_9 P) (.node (Uj P) (.node (Ux P) (.node (Wo P) (.node (Z9 P) (.node (o257_5 P) .nil .nil) .nil) (.node (Vq P) (.node (o321_5 P) .nil .nil) .nil)) (.node (Gb P) (.node (K1 P) (.node (O7 P) .nil .nil) .nil) (.node (H6 P) (.node (o353_5 P) .nil .nil) .nil))) (.node (Wa P) (.node (Ho P) (.node (Kk P) (.node (Ow P) .nil .nil) .nil) (.node (G7 P) (.node (M6 P) .nil .nil) .nil)) (.node (Gh P) (.node (Vd P) (.node (Mj P) .nil .nil) .nil) (.node (Xw P) .nil .nil)))) (.node (Uq P) (.node (U3 P) (.node (Wu P) (.node (Go P) (.node (Oo P) .nil .nil) .nil) (.node (Vw P) (.node (M0 P) .nil .nil) .nil)) (.node (Zr P) (.node (Gx P) (.node (Md P) .nil .nil) .nil) (.node (Xp P) (.node (o361_5 P) .nil .nil) .nil))) (.node (Hh P) (.node (W5 P) (.node (Kt P) (.node (o281_5 P) .nil .nil) .nil) (.node (H3 P) (.node (o345_5 P) .nil .nil) .nil)) (.node (Z3 P) (.node (Vk P) (.node (Mp P) .nil .nil) .nil) (.node (Ob P) .nil .nil))))) (.node (Zg P) (.node (Um P) (.node (U0 P) (.node (Wr P) (.node (Kc P) (.node (Ol P) .nil .nil) .nil) (.node (Vt P) (.node (Mx P) .nil .nil) .nil)) (.node (Y9 P) (.node (Gw P) (.node (Ma P) .nil .nil) .nil) (.node (H7 P) (.node (o357_5 P) .nil .nil) .nil))) (.node (Hg P) (.node (Hp P) (.node (Ko P) (.node (Oz P) .nil .nil) .nil) (.node (Xa P) (.node (o341_5 P) .nil .nil) .nil)) (.node (Z0 P) (.node (Vh P) (.node (Mm P) .nil .nil) .nil) (.node (X0 P) .nil .nil)))) (.node (Ut P) (.node (U7 P) (.node (Wx P) (.node (Gq P) (.node (Ot P) .nil .nil) .nil) (.node (V0 P) (.node (M3 P) .nil .nil) .nil)) (.node (Gg P) (.node (K9 P) (.node (Mg P) .nil .nil) .nil) (.node (Xs P) (.node (o365_5 P) .nil .nil) .nil))) (.node (Wl P) (.node (W8 P) (.node (Kx P) (.node (o285_5 P) .nil .nil) .nil) (.node (Xg P) (.node (o349_5 P) .nil .nil) .nil)) (.node (Z6 P) (.node (Vn P) (.node (o317_5 P) .nil .nil) .nil) (.node (o253_5 P) .nil .nil))))))) (.node (o2_2 P) (.node (boot_o_4 P) (.node (boot_o_8 P) (.node (X9 P) (.node (Uw P) (.node (Hj P) (.node (Z8 P) (.node (Oh P) .nil .nil) .nil) (.node (Vp P) (.node (Mu P) .nil .nil) .nil)) (.node (Ga P) (.node (Kz P) (.node (o288_5 P) .nil .nil) .nil) (.node (Xi P) (.node (o352_5 P) .nil .nil) .nil))) (.node (U9 P) (.node (Wz P) (.node (Gr P) (.node (Ov P) .nil .nil) .nil) (.node (G6 P) (.node (M5 P) .nil .nil) .nil)) (.node (Zx P) (.node (Vc P) (.node (Mi P) .nil .nil) .nil) (.node (Xv P) .nil .nil)))) (.node (Up P) (.node (U2 P) (.node (Wt P) (.node (Ke P) (.node (o264_5 P) .nil .nil) .nil) (.node (Vv P) (.node (o328_5 P) .nil .nil) .nil)) (.node (Zc P) (.node (K6 P) (.node (Mc P) .nil .nil) .nil) (.node (H8 P) (.node (o360_5 P) .nil .nil) .nil))) (.node (Wh P) (.node (Hq P) (.node (Ks P) (.node (O1 P) .nil .nil) .nil) (.node (Xc P) (.node (o344_5 P) .nil .nil) .nil)) (.node (Gj P) (.node (Gz P) (.node (Mo P) .nil .nil) .nil) (.node (X3 P) .nil .nil))))) (.node (o12_5 P) (.node (Ul P) (.node (Hc P) (.node (Wq P) (.node (Kb P) (.node (o260_5 P) .nil .nil) .nil) (.node (Vs P) (.node (o324_5 P) .nil .nil) .nil)) (.node (Y8 P) (.node (K3 P) (.node (o292_5 P) .nil .nil) .nil) (.node (Xl P) (.node (o356_5 P) .nil .nil) .nil))) (.node (Wc P) (.node (W2 P) (.node (Kn P) (.node (Oy P) .nil .nil) .nil) (.node (G9 P) (.node (o340_5 P) .nil .nil) .nil)) (.node (Gi P) (.node (Vg P) (.node (Ml P) .nil .nil) .nil) (.node (Xz P) .nil .nil)))) (.node (Us P) (.node (U6 P) (.node (Ww P) (.node (Kh P) (.node (Os P) .nil .nil) .nil) (.node (Vz P) (.node (M2 P) .nil .nil) .nil)) (.node (Zu P) (.node (Gy P) (.node (Mf P) .nil .nil) .nil) (.node (H9 P) (.node (o364_5 P) .nil .nil) .nil))) (.node (Hi P) (.node (Hr P) (.node (Kw P) (.node (O4 P) .nil .nil) .nil) (.node (Xf P) (.node (o348_5 P) .nil .nil) .nil)) (.node (Z5 P) (.node (G0 P) (.node (Mr P) .nil .nil) .nil) (.node (Oe P) .nil .nil)))))) (.node (boot_o_6 P) (.node (boot_o_10 P) (.node (Uk P) (.node (Uy P) (.node (Wp P) (.node (Gm P) (.node (Oi P) .nil .nil) .nil) (.node (Vr P) (.node (Mv P) .nil .nil) .nil)) (.node (Gc P) (.node (Gv P) (.node (O8 P) .nil .nil) .nil) (.node (Xj P) (.node (o354_5 P) .nil .nil) .nil))) (.node (Hf P) (.node (W0 P) (.node (Kl P) (.node (o274_5 P) .nil .nil) .nil) (.node (H1 P) (.node (o338_5 P) .nil .nil) .nil)) (.node (Zy P) (.node (Ve P) (.node (Mk P) .nil .nil) .nil) (.node (Xx P) .nil .nil)))) (.node (Hb P) (.node (U4 P) (.node (Hm P) (.node (Kf P) (.node (Oq P) .nil .nil) .nil) (.node (Vx P) (.node (M1 P) .nil .nil) .nil)) (.node (Zs P) (.node (K7 P) (.node (Me P) .nil .nil) .nil) (.node (Xq P) (.node (o362_5 P) .nil .nil) .nil))) (.node (Wi P) (.node (W6 P) (.node (Ku P) (.node (O2 P) .nil .nil) .nil) (.node (Xd P) (.node (o346_5 P) .nil .nil) .nil)) (.node (Z4 P) (.node (Vl P) (.node (o314_5 P) .nil .nil) .nil) (.node (Oc P) .nil .nil))))) (.node (Zh P) (.node (Un P) (.node (U1 P) (.node (Ws P) (.node (Gn P) (.node (Om P) .nil .nil) .nil) (.node (G3 P) (.node (My P) .nil .nil) .nil)) (.node (Za P) (.node (K4 P) (.node (Mb P) .nil .nil) .nil) (.node (Xm P) (.node (o358_5 P) .nil .nil) .nil))) (.node (Wf P) (.node (W3 P) (.node (Kq P) (.node (o278_5 P) .nil .nil) .nil) (.node (H2 P) (.node (o342_5 P) .nil .nil) .nil)) (.node (Z1 P) (.node (Vi P) (.node (o310_5 P) .nil .nil) .nil) (.node (X1 P) .nil .nil)))) (.node (Uu P) (.node (He P) (.node (Hn P) (.node (Ki P) (.node (Ou P) .nil .nil) .nil) (.node (G4 P) (.node (M4 P) .nil .nil) .nil)) (.node (Zv P) (.node (Va P) (.node (o302_5 P) .nil .nil) .nil) (.node (Xu P) (.node (o366_5 P) .nil .nil) .nil))) (.node (Wm P) (.node (W9 P) (.node (Gu P) (.node (O5 P) .nil .nil) .nil) (.node (H5 P) (.node (o350_5 P) .nil .nil) .nil)) (.node (Z7 P) (.node (Vo P) (.node (Ms P) .nil .nil) .nil) (.node (Of P) .nil .nil))))))))
noncomputable def lf4 : Life := (Life.mk [] [] [] 0 [] [] Bool.false #[] [] 0 Bool.false Bool.false Bool.false 0 [2000,10,10] Bool.false 0 Bool.true [] [] 0 Bool.false)
noncomputable def dr4 : Drawn := (Drawn.mk 0 0 0 0)
noncomputable def st4 (w : World) (os : OsState) : SharedT := ⟨tr4 w.params,368,lf4,#[],dr4,654,os⟩
noncomputable def gr4 : List Stmt := ((behindTheImports pg).drop 9).take 1
theorem seg4 : ∀ (w : World) (os : OsState),segRunT treeTable pg w 11 annE 1 678 (st3 w os) (piecesOf gr4 ev cE ⟨80,0,103,32⟩ [topFrame qE]) = some (.next,st4 w os,cE,⟨104,0,223,21⟩) := by intro w os; kernel_rfl

noncomputable def o2_6 (P:Params):Obj:=(Obj.mk .none none (.dict #[(DictEntry.mk (PyData.keyHash P "type.__subclasses__.Exception.0") (.str "type.__subclasses__.Exception.0" 212) (.int 31 0)),(DictEntry.mk (PyData.keyHash P "type.__subclasses__.Exception.n") (.str "type.__subclasses__.Exception.n" 213) (.int 2 0)),(DictEntry.mk (PyData.keyHash P "type.__subclasses__.Exception.1") (.str "type.__subclasses__.Exception.1" 719) (.int 412 0))] 3) #[])
noncomputable def o3_6 (P:Params):Obj:=(Obj.mk (.type "dict") none (.dict #[(DictEntry.mk (PyData.keyHash P "__name__") (.str "__name__" 165) (.str "doit.task" 723)),(DictEntry.mk (PyData.keyHash P "__doc__") (.str "__doc__" 166) .none),(DictEntry.mk (PyData.keyHash P "__package__") (.str "__package__" 167) .none),(DictEntry.mk (PyData.keyHash P "__loader__") (.str "__loader__" 168) (.builtin "__main__.__loader__#opaque")),(DictEntry.mk (PyData.keyHash P "__spec__") (.str "__spec__" 169) .none),(DictEntry.mk (PyData.keyHash P "__annotations__") (.str "__annotations__" 170) (.ref 6)),(DictEntry.mk (PyData.keyHash P "__builtins__") (.str "__builtins__" 171) (.ref 4)),(DictEntry.mk (PyData.keyHash P "__file__") (.str "__file__" 173) (.str "/claim/cut.py" 172)),(DictEntry.mk (PyData.keyHash P "__cached__") (.str "__cached__" 174) .none),(DictEntry.mk (PyData.keyHash P "_wall") (.str "_wall" 193) (.ref 21)),(DictEntry.mk (PyData.keyHash P "MissingFile") (.str "MissingFile" 215) (.ref 31)),(DictEntry.mk (PyData.keyHash P "get_md5") (.str "get_md5" 222) (.ref 41)),(DictEntry.mk (PyData.keyHash P "JsonDB") (.str "JsonDB" 300) (.ref 100)),(DictEntry.mk (PyData.keyHash P "FileChangedChecker") (.str "FileChangedChecker" 366) (.ref 149)),(DictEntry.mk (PyData.keyHash P "MD5Checker") (.str "MD5Checker" 409) (.ref 177)),(DictEntry.mk (PyData.keyHash P "TimestampChecker") (.str "TimestampChecker" 446) (.ref 203)),(DictEntry.mk (PyData.keyHash P "DependencyStatus") (.str "DependencyStatus" 505) (.ref 244)),(DictEntry.mk (PyData.keyHash P "Dependency") (.str "Dependency" 653) (.ref 363)),(DictEntry.mk (PyData.keyHash P "UptodateCalculator") (.str "UptodateCalculator" 700) (.ref 398)),(DictEntry.mk (PyData.keyHash P "InvalidTask") (.str "InvalidTask" 722) (.ref 412))] 20) #[])
noncomputable def o12_6 (P:Params):Obj:=(Obj.mk .none none (.fields #[(.int 1 0),(.int 0 0),(.ref 20),(.int 5 0),(.int 0 0),(.ref 27),(.int 7 0),(.int 0 0),(.ref 40),(.int 9 0),(.int 0 0),(.ref 47),(.int 35 0),(.int 0 0),(.ref 110),(.int 54 0),(.int 0 0),(.ref 159),(.int 72 0),(.int 0 0),(.ref 185),(.int 80 0),(.int 0 0),(.ref 211),(.int 104 0),(.int 0 0),(.ref 254),(.int 224 0),(.int 0 0),(.ref 373),(.int 237 0),(.int 0 0),(.ref 408)]) #[])
noncomputable def o368_6 (P:Params):Obj:=(Obj.mk (.type "tuple") none (.seq #[] 0) #[])
noncomputable def o369_6 (P:Params):Obj:=(Obj.mk (.type "builtin_function_or_method") none (.fields #[(.builtin "type.__prepare__"),(.type "type")]) #[])
noncomputable def o370_6 (P:Params):Obj:=(Obj.mk (.type "dict") none (.dict #[(DictEntry.mk (PyData.keyHash P "__module__") (.str "__module__" 661) (.str "doit.dependency" 194)),(DictEntry.mk (PyData.keyHash P "__qualname__") (.str "__qualname__" 663) (.str "UptodateCalculator" 662)),(DictEntry.mk (PyData.keyHash P "__firstlineno__") (.str "__firstlineno__" 665) (.int 224 664)),(DictEntry.mk (PyData.keyHash P "__init__") (.str "__init__" 672) (.ref 381)),(DictEntry.mk (PyData.keyHash P "setup") (.str "setup" 681) (.ref 388)),(DictEntry.mk (PyData.keyHash P "get_val") (.str "get_val" 690) (.ref 395)),(DictEntry.mk (PyData.keyHash P "__static_attributes__") (.str "__static_attributes__" 693) (.ref 396))] 7) #[])
noncomputable def o371_6 (P:Params):Obj:=(Obj.mk (.type "tuple") none (.seq #[] 0) #[])
noncomputable def o372_6 (P:Params):Obj:=(Obj.mk .none none (.fields #[(.int 226 0),(.int 4 0),(.ref 380),(.int 230 0),(.int 4 0),(.ref 387),(.int 234 0),(.int 4 0),(.ref 394)]) #[])
noncomputable def o373_6 (P:Params):Obj:=(Obj.mk (.type "code") none (.fields #[(.str "UptodateCalculator" 656),(.str "UptodateCalculator" 657),(.str "/claim/cut.py" 658),(.int 224 0),(.int 0 0),(.int 0 0),(.int 0 0),(.int 0 0),(.ref 371),(.bool false),(.int 181 0),(.ref 372),.none,.none,.none,.none,(.int 659 0),(.int 224 0),(.str "/claim/cut.py" 660)]) #[])
noncomputable def o374_6 (P:Params):Obj:=(Obj.mk (.type "frame") none .plain #[(some (.ref 373)),(some (.ref 3)),(some (.ref 370)),none,(some (.str "doit.dependency" 194)),none,(some (.ref 0))])
noncomputable def o375_6 (P:Params):Obj:=(Obj.mk (.type "tuple") none (.seq #[] 0) #[])
noncomputable def o376_6 (P:Params):Obj:=(Obj.mk .none none (.fields #[]) #[])
noncomputable def o377_6 (P:Params):Obj:=(Obj.mk (.type "tuple") none (.seq #[(.str "self" 669)] 0) #[])
noncomputable def o378_6 (P:Params):Obj:=(Obj.mk (.type "tuple") none (.seq #[] 0) #[])
noncomputable def o379_6 (P:Params):Obj:=(Obj.mk .none none (.func (FuncData.mk "__init__" "UptodateCalculator.__init__" (fa [10,0]) (fb [10,0]) (fs [4,1]) 0 [] .none .none .none .none none .none .none 0)) #[])
noncomputable def o380_6 (P:Params):Obj:=(Obj.mk (.type "code") none (.fields #[(.str "__init__" 666),(.str "UptodateCalculator.__init__" 667),(.str "/claim/cut.py" 668),(.int 226 0),(.int 1 0),(.int 0 0),(.int 0 0),(.int 3 0),(.ref 375),(.bool true),(.int 181 0),(.ref 376),.none,(.ref 377),(.ref 378),(.ref 379),(.int 670 0),(.int 226 0),(.str "/claim/cut.py" 671)]) #[])
noncomputable def o381_6 (P:Params):Obj:=(Obj.mk (.type "function") none (.func (FuncData.mk "__init__" "UptodateCalculator.__init__" (fa [10,0]) (fb [10,0]) (fs [4,1]) 3 [] .none .none .none (.str "doit.dependency" 194) none (.ref 380) .none 0)) #[])
noncomputable def o382_6 (P:Params):Obj:=(Obj.mk (.type "tuple") none (.seq #[] 0) #[])
noncomputable def o383_6 (P:Params):Obj:=(Obj.mk .none none (.fields #[]) #[])
noncomputable def o384_6 (P:Params):Obj:=(Obj.mk (.type "tuple") none (.seq #[(.str "self" 676),(.str "dep_manager" 677),(.str "tasks_dict" 678)] 0) #[])
noncomputable def o385_6 (P:Params):Obj:=(Obj.mk (.type "tuple") none (.seq #[] 0) #[])
noncomputable def o386_6 (P:Params):Obj:=(Obj.mk .none none (.func (FuncData.mk "setup" "UptodateCalculator.setup" (fa [10,1]) (fb [10,1]) (fs [10,1]) 0 [] .none .none .none .none none .none .none 0)) #[])
noncomputable def o387_6 (P:Params):Obj:=(Obj.mk (.type "code") none (.fields #[(.str "setup" 673),(.str "UptodateCalculator.setup" 674),(.str "/claim/cut.py" 675),(.int 230 0),(.int 3 0),(.int 0 0),(.int 0 0),(.int 3 0),(.ref 382),(.bool true),(.int 181 0),(.ref 383),.none,(.ref 384),(.ref 385),(.ref 386),(.int 679 0),(.int 230 0),(.str "/claim/cut.py" 680)]) #[])
noncomputable def o388_6 (P:Params):Obj:=(Obj.mk (.type "function") none (.func (FuncData.mk "setup" "UptodateCalculator.setup" (fa [10,1]) (fb [10,1]) (fs [10,1]) 3 [] .none .none .none (.str "doit.dependency" 194) none (.ref 387) .none 0)) #[])
noncomputable def o389_6 (P:Params):Obj:=(Obj.mk (.type "tuple") none (.seq #[] 0) #[])
noncomputable def o390_6 (P:Params):Obj:=(Obj.mk .none none (.fields #[]) #[])
noncomputable def o391_6 (P:Params):Obj:=(Obj.mk (.type "tuple") none (.seq #[(.str "self" 685),(.str "task_id" 686),(.str "dependency" 687)] 0) #[])
noncomputable def o392_6 (P:Params):Obj:=(Obj.mk (.type "tuple") none (.seq #[] 0) #[])
noncomputable def o393_6 (P:Params):Obj:=(Obj.mk .none none (.func (FuncData.mk "get_val" "UptodateCalculator.get_val" (fa [10,2]) (fb [10,2]) (fs [4,3]) 0 [] .none .none .none .none none .none .none 0)) #[])
noncomputable def o394_6 (P:Params):Obj:=(Obj.mk (.type "code") none (.fields #[(.str "get_val" 682),(.str "UptodateCalculator.get_val" 683),(.str "/claim/cut.py" 684),(.int 234 0),(.int 3 0),(.int 0 0),(.int 0 0),(.int 3 0),(.ref 389),(.bool true),(.int 181 0),(.ref 390),.none,(.ref 391),(.ref 392),(.ref 393),(.int 688 0),(.int 234 0),(.str "/claim/cut.py" 689)]) #[])
noncomputable def o395_6 (P:Params):Obj:=(Obj.mk (.type "function") none (.func (FuncData.mk "get_val" "UptodateCalculator.get_val" (fa [10,2]) (fb [10,2]) (fs [4,3]) 3 [] .none .none .none (.str "doit.dependency" 194) none (.ref 394) .none 0)) #[])
noncomputable def o396_6 (P:Params):Obj:=(Obj.mk (.type "tuple") none (.seq #[(.str "dep_manager" 691),(.str "tasks_dict" 692)] 0) #[])
noncomputable def o397_6 (P:Params):Obj:=(Obj.mk (.type "dict") none (.dict #[(DictEntry.mk (PyData.keyHash P "__module__") (.str "__module__" 661) (.str "doit.dependency" 194)),(DictEntry.mk (PyData.keyHash P "__firstlineno__") (.str "__firstlineno__" 665) (.int 224 664)),(DictEntry.mk (PyData.keyHash P "__init__") (.str "__init__" 672) (.ref 381)),(DictEntry.mk (PyData.keyHash P "setup") (.str "setup" 681) (.ref 388)),(DictEntry.mk (PyData.keyHash P "get_val") (.str "get_val" 690) (.ref 395)),(DictEntry.mk (PyData.keyHash P "__static_attributes__") (.str "__static_attributes__" 693) (.ref 396)),(DictEntry.mk (PyData.keyHash P "__dict__") (.str "__dict__" 695) (.ref 399)),(DictEntry.mk (PyData.keyHash P "__weakref__") (.str "__weakref__" 697) (.ref 400)),(DictEntry.mk (PyData.keyHash P "__doc__") (.str "__doc__" 698) .none)] 4) #[])
noncomputable def o398_6 (P:Params):Obj:=(Obj.mk (.type "type") none (.cls (ClassData.mk "UptodateCalculator" [(.type "object")] [(.ref 398),(.type "object")] 397 "UptodateCalculator" true [] [] false none false)) #[none,none,(some (.str "UptodateCalculator" 654)),(some (.str "UptodateCalculator" 662)),(some (.builtin "object.__new__")),(some (.bool true))])
noncomputable def o399_6 (P:Params):Obj:=(Obj.mk (.type "getset_descriptor") none (.fields #[(.str "__dict__" 694),(.ref 398),(.builtin "function.__dict__"),(.builtin "function.__dict__#set")]) #[])
noncomputable def o400_6 (P:Params):Obj:=(Obj.mk (.type "getset_descriptor") none (.fields #[(.str "__weakref__" 696),(.ref 398),(.builtin "ExceptionGroup.__weakref__"),.none]) #[])
noncomputable def o401_6 (P:Params):Obj:=(Obj.mk (.type "super") none (.fields #[(.ref 398),(.ref 398),(.ref 398)]) #[])
noncomputable def o402_6 (P:Params):Obj:=(Obj.mk (.type "builtin_function_or_method") none (.fields #[(.builtin "object.__init_subclass__"),(.ref 398)]) #[])
noncomputable def o403_6 (P:Params):Obj:=(Obj.mk (.type "tuple") none (.seq #[(.type "Exception")] 0) #[])
noncomputable def o404_6 (P:Params):Obj:=(Obj.mk (.type "builtin_function_or_method") none (.fields #[(.builtin "type.__prepare__"),(.type "type")]) #[])
noncomputable def o405_6 (P:Params):Obj:=(Obj.mk (.type "dict") none (.dict #[(DictEntry.mk (PyData.keyHash P "__module__") (.str "__module__" 710) (.str "doit.exceptions" 701)),(DictEntry.mk (PyData.keyHash P "__qualname__") (.str "__qualname__" 712) (.str "InvalidTask" 711)),(DictEntry.mk (PyData.keyHash P "__firstlineno__") (.str "__firstlineno__" 714) (.int 237 713)),(DictEntry.mk (PyData.keyHash P "__static_attributes__") (.str "__static_attributes__" 715) (.ref 410))] 4) #[])
noncomputable def o406_6 (P:Params):Obj:=(Obj.mk (.type "tuple") none (.seq #[] 0) #[])
noncomputable def o407_6 (P:Params):Obj:=(Obj.mk .none none (.fields #[]) #[])
noncomputable def o408_6 (P:Params):Obj:=(Obj.mk (.type "code") none (.fields #[(.str "InvalidTask" 705),(.str "InvalidTask" 706),(.str "/claim/cut.py" 707),(.int 237 0),(.int 0 0),(.int 0 0),(.int 0 0),(.int 0 0),(.ref 406),(.bool false),(.int 181 0),(.ref 407),.none,.none,.none,.none,(.int 708 0),(.int 237 0),(.str "/claim/cut.py" 709)]) #[])
noncomputable def o409_6 (P:Params):Obj:=(Obj.mk (.type "frame") none .plain #[(some (.ref 408)),(some (.ref 3)),(some (.ref 405)),none,(some (.str "doit.exceptions" 701)),none,(some (.ref 0))])
noncomputable def o410_6 (P:Params):Obj:=(Obj.mk (.type "tuple") none (.seq #[] 0) #[])
noncomputable def o411_6 (P:Params):Obj:=(Obj.mk (.type "dict") none (.dict #[(DictEntry.mk (PyData.keyHash P "__module__") (.str "__module__" 710) (.str "doit.exceptions" 701)),(DictEntry.mk (PyData.keyHash P "__firstlineno__") (.str "__firstlineno__" 714) (.int 237 713)),(DictEntry.mk (PyData.keyHash P "__static_attributes__") (.str "__static_attributes__" 715) (.ref 410)),(DictEntry.mk (PyData.keyHash P "__weakref__") (.str "__weakref__" 717) (.ref 413)),(DictEntry.mk (PyData.keyHash P "__doc__") (.str "__doc__" 718) .none)] 3) #[])
noncomputable def o412_6 (P:Params):Obj:=(Obj.mk (.type "type") none (.cls (ClassData.mk "InvalidTask" [(.type "Exception")] [(.ref 412),(.type "Exception"),(.type "BaseException"),(.type "object")] 411 "InvalidTask" true [] [] false none false)) #[(some (.ref 403)),none,(some (.str "InvalidTask" 703)),(some (.str "InvalidTask" 711)),(some (.builtin "Exception.__new__")),(some (.bool true))])
noncomputable def o413_6 (P:Params):Obj:=(Obj.mk (.type "getset_descriptor") none (.fields #[(.str "__weakref__" 716),(.ref 412),(.builtin "ExceptionGroup.__weakref__"),.none]) #[])
noncomputable def o414_6 (P:Params):Obj:=(Obj.mk (.type "super") none (.fields #[(.ref 412),(.ref 412),(.ref 412)]) #[])
noncomputable def o415_6 (P:Params):Obj:=(Obj.mk (.type "builtin_function_or_method") none (.fields #[(.builtin "object.__init_subclass__"),(.ref 412)]) #[])
noncomputable def tr5 (P : Params) : BT := (.node (boot_o_0 P) (.node (boot_o_1 P) (.node (o3_6 P) (.node (boot_o_7 P) (.node (Ui P) (.node (Uv P) (.node (Wn P) (.node (Gl P) (.node (Og P) .nil .nil) (.node (o383_6 P) .nil .nil)) (.node (G1 P) (.node (Mt P) .nil .nil) .nil)) (.node (Hs P) (.node (Ky P) (.node (O6 P) .nil .nil) (.node (o415_6 P) .nil .nil)) (.node (Xh P) (.node (o351_5 P) .nil .nil) .nil))) (.node (U8 P) (.node (Wy P) (.node (Kj P) (.node (o271_5 P) .nil .nil) (.node (o399_6 P) .nil .nil)) (.node (G5 P) (.node (o335_5 P) .nil .nil) .nil)) (.node (Zw P) (.node (Vb P) (.node (Mh P) .nil .nil) .nil) (.node (Oa P) (.node (o367_5 P) .nil .nil) .nil)))) (.node (Uo P) (.node (Hd P) (.node (Hl P) (.node (Kd P) (.node (On P) .nil .nil) (.node (o391_6 P) .nil .nil)) (.node (Vu P) (.node (Mz P) .nil .nil) .nil)) (.node (Zb P) (.node (K5 P) (.node (o295_5 P) .nil .nil) .nil) (.node (Xo P) (.node (o359_5 P) .nil .nil) .nil))) (.node (Wg P) (.node (W4 P) (.node (Kr P) (.node (O0 P) .nil .nil) (.node (o407_6 P) .nil .nil)) (.node (Xb P) (.node (o343_5 P) .nil .nil) .nil)) (.node (Z2 P) (.node (Vj P) (.node (Mn P) .nil .nil) .nil) (.node (X2 P) (.node (o375_6 P) .nil .nil) .nil))))) (.node (Zf P) (.node (Ha P) (.node (Uz P) (.node (Hk P) (.node (Ka P) (.node (Oj P) .nil .nil) (.node (o387_6 P) .nil .nil)) (.node (G2 P) (.node (Mw P) .nil .nil) .nil)) (.node (Gd P) (.node (K2 P) (.node (O9 P) .nil .nil) .nil) (.node (Xk P) (.node (o355_5 P) .nil .nil) .nil))) (.node (Wb P) (.node (W1 P) (.node (Km P) (.node (Ox P) .nil .nil) (.node (o403_6 P) .nil .nil)) (.node (G8 P) (.node (M7 P) .nil .nil) .nil)) (.node (Zz P) (.node (Vf P) (.node (o307_5 P) .nil .nil) .nil) (.node (Xy P) (.node (o371_6 P) .nil .nil) .nil)))) (.node (Ur P) (.node (U5 P) (.node (Wv P) (.node (Kg P) (.node (o267_5 P) .nil .nil) (.node (o395_6 P) .nil .nil)) (.node (Vy P) (.node (o331_5 P) .nil .nil) .nil)) (.node (Zt P) (.node (K8 P) (.node (o299_5 P) .nil .nil) .nil) (.node (Xr P) (.node (o363_5 P) .nil .nil) .nil))) (.node (Wj P) (.node (W7 P) (.node (Kv P) (.node (O3 P) .nil .nil) (.node (o411_6 P) .nil .nil)) (.node (Xe P) (.node (o347_5 P) .nil .nil) .nil)) (.node (Gk P) (.node (Vm P) (.node (Mq P) .nil .nil) .nil) (.node (Od P) (.node (o379_6 P) .nil .nil) .nil)))))) (.node (boot_o_5 P) (.node (boot_o_9 P) (.node (Uj P) (.node (Ux P) (.node (Wo P) (.node (Z9 P) (.node (o257_5 P) .nil .nil) (.node (o385_6 P) .nil .nil)) (.node (Vq P) (.node (o321_5 P) .nil .nil) .nil)) (.node (Gb P) (.node (K1 P) (.node (O7 P) .nil .nil) .nil) (.node (H6 P) (.node (o353_5 P) .nil .nil) .nil))) (.node (Wa P) (.node (Ho P) (.node (Kk P) (.node (Ow P) .nil .nil) (.node (o401_6 P) .nil .nil)) (.node (G7 P) (.node (M6 P) .nil .nil) .nil)) (.node (Gh P) (.node (Vd P) (.node (Mj P) .nil .nil) .nil) (.node (Xw P) (.node (o369_6 P) .nil .nil) .nil)))) (.node (Uq P) (.node (U3 P) (.node (Wu P) (.node (Go P) (.node (Oo P) .nil .nil) (.node (o393_6 P) .nil .nil)) (.node (Vw P) (.node (M0 P) .nil .nil) .nil)) (.node (Zr P) (.node (Gx P) (.node (Md P) .nil .nil) .nil) (.node (Xp P) (.node (o361_5 P) .nil .nil) .nil))) (.node (Hh P) (.node (W5 P) (.node (Kt P) (.node (o281_5 P) .nil .nil) (.node (o409_6 P) .nil .nil)) (.node (H3 P) (.node (o345_5 P) .nil .nil) .nil)) (.node (Z3 P) (.node (Vk P) (.node (Mp P) .nil .nil) .nil) (.node (Ob P) (.node (o377_6 P) .nil .nil) .nil))))) (.node (Zg P) (.node (Um P) (.node (U0 P) (.node (Wr P) (.node (Kc P) (.node (Ol P) .nil .nil) (.node (o389_6 P) .nil .nil)) (.node (Vt P) (.node (Mx P) .nil .nil) .nil)) (.node (Y9 P) (.node (Gw P) (.node (Ma P) .nil .nil) .nil) (.node (H7 P) (.node (o357_5 P) .nil .nil) .nil))) (.node (Hg P) (.node (Hp P) (.node (Ko P) (.node (Oz P) .nil .nil) (.node (o405_6 P) .nil .nil)) (.node (Xa P) (.node (o341_5 P) .nil .nil) .nil)) (.node (Z0 P) (.node (Vh P) (.node (Mm P) .nil .nil) .nil) (.node (X0 P) (.node (o373_6 P) .nil .nil) .nil)))) (.node (Ut P) (.node (U7 P) (.node (Wx P) (.node (Gq P) (.node (Ot P) .nil .nil) (.node (o397_6 P) .nil .nil)) (.node (V0 P) (.node (M3 P) .nil .nil) .nil)) (.node (Gg P) (.node (K9 P) (.node (Mg P) .nil .nil) .nil) (.node (Xs P) (.node (o365_5 P) .nil .nil) .nil))) (.node (Wl P) (.node (W8 P) (.node (Kx P) (.node (o285_5 P) .nil .nil) (.node (o413_6 P) .nil .nil)) (.node (Xg P) (.node (o349_5 P) .nil .nil) .nil)) (.node (Z6 P) (.node (Vn P) (.node (o317_5 P) .nil .nil) .nil) (.node (o253_5 P) (.node (o381_6 P) .nil .nil) .nil))))))) (.node (o2_6 P) (.node (boot_o_4 P) (.node (boot_o_8 P) (.node (X9 P) (.node (Uw P) (.node (Hj P) (.node (Z8 P) (.node (Oh P) .nil .nil) (.node (o384_6 P) .nil .nil)) (.node (Vp P) (.node (Mu P) .nil .nil) .nil)) (.node (Ga P) (.node (Kz P) (.node (o288_5 P) .nil .nil) .nil) (.node (Xi P) (.node (o352_5 P) .nil .nil) .nil))) (.node (U9 P) (.node (Wz P) (.node (Gr P) (.node (Ov P) .nil .nil) (.node (o400_6 P) .nil .nil)) (.node (G6 P) (.node (M5 P) .nil .nil) .nil)) (.node (Zx P) (.node (Vc P) (.node (Mi P) .nil .nil) .nil) (.node (Xv P) (.node (o368_6 P) .nil .nil) .nil)))) (.node (Up P) (.node (U2 P) (.node (Wt P) (.node (Ke P) (.node (o264_5 P) .nil .nil) (.node (o392_6 P) .nil .nil)) (.node (Vv P) (.node (o328_5 P) .nil .nil) .nil)) (.node (Zc P) (.node (K6 P) (.node (Mc P) .nil .nil) .nil) (.node (H8 P) (.node (o360_5 P) .nil .nil) .nil))) (.node (Wh P) (.node (Hq P) (.node (Ks P) (.node (O1 P) .nil .nil) (.node (o408_6 P) .nil .nil)) (.node (Xc P) (.node (o344_5 P) .nil .nil) .nil)) (.node (Gj P) (.node (Gz P) (.node (Mo P) .nil .nil) .nil) (.node (X3 P) (.node (o376_6 P) .nil .nil) .nil))))) (.node (o12_6 P) (.node (Ul P) (.node (Hc P) (.node (Wq P) (.node (Kb P) (.node (o260_5 P) .nil .nil) (.node (o388_6 P) .nil .nil)) (.node (Vs P) (.node (o324_5 P) .nil .nil) .nil)) (.node (Y8 P) (.node (K3 P) (.node (o292_5 P) .nil .nil) .nil) (.node (Xl P) (.node (o356_5 P) .nil .nil) .nil))) (.node (Wc P) (.node (W2 P) (.node (Kn P) (.node (Oy P) .nil .nil) (.node (o404_6 P) .nil .nil)) (.node (G9 P) (.node (o340_5 P) .nil .nil) .nil)) (.node (Gi P) (.node (Vg P) (.node (Ml P) .nil .nil) .nil) (.node (Xz P) (.node (o372_6 P) .nil .nil) .nil)))) (.node (Us P) (.node (U6 P) (.node (Ww P) (.node (Kh P) (.node (Os P) .nil .nil) (.node (o396_6 P) .nil .nil)) (.node (Vz P) (.node (M2 P) .nil .nil) .nil)) (.node (Zu P) (.node (Gy P) (.node (Mf P) .nil .nil) .nil) (.node (H9 P) (.node (o364_5 P) .nil .nil) .nil))) (.node (Hi P) (.node (Hr P) (.node (Kw P) (.node (O4 P) .nil .nil) (.node (o412_6 P) .nil .nil)) (.node (Xf P) (.node (o348_5 P) .nil .nil) .nil)) (.node (Z5 P) (.node (G0 P) (.node (Mr P) .nil .nil) .nil) (.node (Oe P) (.node (o380_6 P) .nil .nil) .nil)))))) (.node (boot_o_6 P) (.node (boot_o_10 P) (.node (Uk P) (.node (Uy P) (.node (Wp P) (.node (Gm P) (.node (Oi P) .nil .nil) (.node (o386_6 P) .nil .nil)) (.node (Vr P) (.node (Mv P) .nil .nil) .nil)) (.node (Gc P) (.node (Gv P) (.node (O8 P) .nil .nil) .nil) (.node (Xj P) (.node (o354_5 P) .nil .nil) .nil))) (.node (Hf P) (.node (W0 P) (.node (Kl P) (.node (o274_5 P) .nil .nil) (.node (o402_6 P) .nil .nil)) (.node (H1 P) (.node (o338_5 P) .nil .nil) .nil)) (.node (Zy P) (.node (Ve P) (.node (Mk P) .nil .nil) .nil) (.node (Xx P) (.node (o370_6 P) .nil .nil) .nil)))) (.node (Hb P) (.node (U4 P) (.node (Hm P) (.node (Kf P) (.node (Oq P) .nil .nil) (.node (o394_6 P) .nil .nil)) (.node (Vx P) (.node (M1 P) .nil .nil) .nil)) (.node (Zs P) (.node (K7 P) (.node (Me P) .nil .nil) .nil) (.node (Xq P) (.node (o362_5 P) .nil .nil) .nil))) (.node (Wi P) (.node (W6 P) (.node (Ku P) (.node (O2 P) .nil .nil) (.node (o410_6 P) .nil .nil)) (.node (Xd P) (.node (o346_5 P) .nil .nil) .nil)) (.node (Z4 P) (.node (Vl P) (.node (o314_5 P) .nil .nil) .nil) (.node (Oc P) (.node (o378_6 P) .nil .nil) .nil))))) (.node (Zh P) (.node (Un P) (.node (U1 P) (.node (Ws P) (.node (Gn P) (.node (Om P) .nil .nil) (.node (o390_6 P) .nil .nil)) (.node (G3 P) (.node (My P) .nil .nil) .nil)) (.node (Za P) (.node (K4 P) (.node (Mb P) .nil .nil) .nil) (.node (Xm P) (.node (o358_5 P) .nil .nil) .nil))) (.node (Wf P) (.node (W3 P) (.node (Kq P) (.node (o278_5 P) .nil .nil) (.node (o406_6 P) .nil .nil)) (.node (H2 P) (.node (o342_5 P) .nil .nil) .nil)) (.node (Z1 P) (.node (Vi P) (.node (o310_5 P) .nil .nil) .nil) (.node (X1 P) (.node (o374_6 P) .nil .nil) .nil)))) (.node (Uu P) (.node (He P) (.node (Hn P) (.node (Ki P) (.node (Ou P) .nil .nil) (.node (o398_6 P) .nil .nil)) (.node (G4 P) (.node (M4 P) .nil .nil) .nil)) (.node (Zv P) (.node (Va P) (.node (o302_5 P) .nil .nil) .nil) (.node (Xu P) (.node (o366_5 P) .nil .nil) .nil))) (.node (Wm P) (.node (W9 P) (.node (Gu P) (.node (O5 P) .nil .nil) (.node (o414_6 P) .nil .nil)) (.node (H5 P) (.node (o350_5 P) .nil .nil) .nil)) (.node (Z7 P) (.node (Vo P) (.node (Ms P) .nil .nil) .nil) (.node (Of P) (.node (o382_6 P) .nil .nil) .nil))))))))
noncomputable def lf5 : Life := (Life.mk [] [] [] 0 [] [] Bool.false #[] [] 0 Bool.false Bool.false Bool.false 0 [2000,10,10] Bool.false 0 Bool.true [] [] 0 Bool.false)
noncomputable def dr5 : Drawn := (Drawn.mk 0 0 0 0)
noncomputable def st5 (w : World) (os : OsState) : SharedT := ⟨tr5 w.params,416,lf5,#[],dr5,725,os⟩
noncomputable def gr5 : List Stmt := ((behindTheImports pg).drop 10).take 4
theorem seg5 : ∀ (w : World) (os : OsState),segRunT treeTable pg w 11 annE 1 503 (st4 w os) (piecesOf gr5 ev cE ⟨104,0,223,21⟩ [topFrame qE]) = some (.next,st5 w os,cE,⟨239,0,239,8⟩) := by intro w os; kernel_rfl

noncomputable def o3_7 (P:Params):Obj:=(Obj.mk (.type "dict") none (.dict #[(DictEntry.mk (PyData.keyHash P "__name__") (.str "__name__" 165) (.str "doit.task" 723)),(DictEntry.mk (PyData.keyHash P "__doc__") (.str "__doc__" 166) .none),(DictEntry.mk (PyData.keyHash P "__package__") (.str "__package__" 167) .none),(DictEntry.mk (PyData.keyHash P "__loader__") (.str "__loader__" 168) (.builtin "__main__.__loader__#opaque")),(DictEntry.mk (PyData.keyHash P "__spec__") (.str "__spec__" 169) .none),(DictEntry.mk (PyData.keyHash P "__annotations__") (.str "__annotations__" 170) (.ref 6)),(DictEntry.mk (PyData.keyHash P "__builtins__") (.str "__builtins__" 171) (.ref 4)),(DictEntry.mk (PyData.keyHash P "__file__") (.str "__file__" 173) (.str "/claim/cut.py" 172)),(DictEntry.mk (PyData.keyHash P "__cached__") (.str "__cached__" 174) .none),(DictEntry.mk (PyData.keyHash P "_wall") (.str "_wall" 193) (.ref 21)),(DictEntry.mk (PyData.keyHash P "MissingFile") (.str "MissingFile" 215) (.ref 31)),(DictEntry.mk (PyData.keyHash P "get_md5") (.str "get_md5" 222) (.ref 41)),(DictEntry.mk (PyData.keyHash P "JsonDB") (.str "JsonDB" 300) (.ref 100)),(DictEntry.mk (PyData.keyHash P "FileChangedChecker") (.str "FileChangedChecker" 366) (.ref 149)),(DictEntry.mk (PyData.keyHash P "MD5Checker") (.str "MD5Checker" 409) (.ref 177)),(DictEntry.mk (PyData.keyHash P "TimestampChecker") (.str "TimestampChecker" 446) (.ref 203)),(DictEntry.mk (PyData.keyHash P "DependencyStatus") (.str "DependencyStatus" 505) (.ref 244)),(DictEntry.mk (PyData.keyHash P "Dependency") (.str "Dependency" 653) (.ref 363)),(DictEntry.mk (PyData.keyHash P "UptodateCalculator") (.str "UptodateCalculator" 700) (.ref 398)),(DictEntry.mk (PyData.keyHash P "InvalidTask") (.str "InvalidTask" 722) (.ref 412)),(DictEntry.mk (PyData.keyHash P "Task") (.str "Task" 882) (.ref 522))] 21) #[])
noncomputable def o12_7 (P:Params):Obj:=(Obj.mk .none none (.fields #[(.int 1 0),(.int 0 0),(.ref 20),(.int 5 0),(.int 0 0),(.ref 27),(.int 7 0),(.int 0 0),(.ref 40),(.int 9 0),(.int 0 0),(.ref 47),(.int 35 0),(.int 0 0),(.ref 110),(.int 54 0),(.int 0 0),(.ref 159),(.int 72 0),(.int 0 0),(.ref 185),(.int 80 0),(.int 0 0),(.ref 211),(.int 104 0),(.int 0 0),(.ref 254),(.int 224 0),(.int 0 0),(.ref 373),(.int 237 0),(.int 0 0),(.ref 408),(.int 240 0),(.int 0 0),(.ref 421)]) #[])
noncomputable def o416_7 (P:Params):Obj:=(Obj.mk (.type "tuple") none (.seq #[] 0) #[])
noncomputable def o417_7 (P:Params):Obj:=(Obj.mk (.type "builtin_function_or_method") none (.fields #[(.builtin "type.__prepare__"),(.type "type")]) #[])
noncomputable def o418_7 (P:Params):Obj:=(Obj.mk (.type "dict") none (.dict #[(DictEntry.mk (PyData.keyHash P "__module__") (.str "__module__" 732) (.str "doit.task" 723)),(DictEntry.mk (PyData.keyHash P "__qualname__") (.str "__qualname__" 734) (.str "Task" 733)),(DictEntry.mk (PyData.keyHash P "__firstlineno__") (.str "__firstlineno__" 736) (.int 240 735)),(DictEntry.mk (PyData.keyHash P "__init__") (.str "__init__" 754) (.ref 436)),(DictEntry.mk (PyData.keyHash P "_init_deps") (.str "_init_deps" 764) (.ref 443)),(DictEntry.mk (PyData.keyHash P "_init_targets") (.str "_init_targets" 774) (.ref 450)),(DictEntry.mk (PyData.keyHash P "_init_uptodate") (.str "_init_uptodate" 784) (.ref 457)),(DictEntry.mk (PyData.keyHash P "_expand_file_dep") (.str "_expand_file_dep" 793) (.ref 464)),(DictEntry.mk (PyData.keyHash P "_expand_task_dep") (.str "_expand_task_dep" 802) (.ref 471)),(DictEntry.mk (PyData.keyHash P "_expand_calc_dep") (.str "_expand_calc_dep" 811) (.ref 478)),(DictEntry.mk (PyData.keyHash P "_extend_uptodate") (.str "_extend_uptodate" 819) (.ref 485)),(DictEntry.mk (PyData.keyHash P "update_deps") (.str "update_deps" 827) (.ref 492)),(DictEntry.mk (PyData.keyHash P "init_options") (.str "init_options" 835) (.ref 500)),(DictEntry.mk (PyData.keyHash P "_init_getargs") (.str "_init_getargs" 841) (.ref 505)),(DictEntry.mk (PyData.keyHash P "save_extra_values") (.str "save_extra_values" 848) (.ref 512)),(DictEntry.mk (PyData.keyHash P "execute") (.str "execute" 856) (.ref 519)),(DictEntry.mk (PyData.keyHash P "__static_attributes__") (.str "__static_attributes__" 875) (.ref 520))] 17) #[])
noncomputable def o419_7 (P:Params):Obj:=(Obj.mk (.type "tuple") none (.seq #[] 0) #[])
noncomputable def o420_7 (P:Params):Obj:=(Obj.mk .none none (.fields #[(.int 242 0),(.int 4 0),(.ref 435),(.int 267 0),(.int 4 0),(.ref 442),(.int 279 0),(.int 4 0),(.ref 449),(.int 288 0),(.int 4 0),(.ref 456),(.int 301 0),(.int 4 0),(.ref 463),(.int 309 0),(.int 4 0),(.ref 470),(.int 316 0),(.int 4 0),(.ref 477),(.int 321 0),(.int 4 0),(.ref 484),(.int 324 0),(.int 4 0),(.ref 491),(.int 327 0),(.int 4 0),(.ref 499),(.int 330 0),(.int 4 0),(.ref 504),(.int 340 0),(.int 4 0),(.ref 511),(.int 343 0),(.int 4 0),(.ref 518)]) #[])
noncomputable def o421_7 (P:Params):Obj:=(Obj.mk (.type "code") none (.fields #[(.str "Task" 727),(.str "Task" 728),(.str "/claim/cut.py" 729),(.int 240 0),(.int 0 0),(.int 0 0),(.int 0 0),(.int 0 0),(.ref 419),(.bool false),(.int 181 0),(.ref 420),.none,.none,.none,.none,(.int 730 0),(.int 240 0),(.str "/claim/cut.py" 731)]) #[])
noncomputable def o422_7 (P:Params):Obj:=(Obj.mk (.type "frame") none .plain #[(some (.ref 421)),(some (.ref 3)),(some (.ref 418)),none,(some (.str "doit.task" 723)),none,(some (.ref 0))])
noncomputable def o423_7 (P:Params):Obj:=(Obj.mk (.type "tuple") none (.seq #[] 0) #[])
noncomputable def o424_7 (P:Params):Obj:=(Obj.mk (.type "tuple") none (.seq #[] 0) #[])
noncomputable def o425_7 (P:Params):Obj:=(Obj.mk (.type "tuple") none (.seq #[] 0) #[])
noncomputable def o426_7 (P:Params):Obj:=(Obj.mk (.type "tuple") none (.seq #[] 0) #[])
noncomputable def o427_7 (P:Params):Obj:=(Obj.mk (.type "tuple") none (.seq #[] 0) #[])
noncomputable def o428_7 (P:Params):Obj:=(Obj.mk (.type "tuple") none (.seq #[] 0) #[])
noncomputable def o429_7 (P:Params):Obj:=(Obj.mk (.type "tuple") none (.seq #[(.ref 423),(.ref 424),(.ref 425),(.ref 426),(.ref 427),(.ref 428),.none,(.bool false),.none] 0) #[])
noncomputable def o430_7 (P:Params):Obj:=(Obj.mk (.type "tuple") none (.seq #[] 0) #[])
noncomputable def o431_7 (P:Params):Obj:=(Obj.mk .none none (.fields #[]) #[])
noncomputable def o432_7 (P:Params):Obj:=(Obj.mk (.type "tuple") none (.seq #[(.str "self" 740),(.str "name" 741),(.str "actions" 742),(.str "file_dep" 743),(.str "targets" 744),(.str "task_dep" 745),(.str "uptodate" 746),(.str "calc_dep" 747),(.str "setup" 748),(.str "subtask_of" 749),(.str "has_subtask" 750),(.str "getargs" 751)] 0) #[])
noncomputable def o433_7 (P:Params):Obj:=(Obj.mk (.type "tuple") none (.seq #[] 0) #[])
noncomputable def o434_7 (P:Params):Obj:=(Obj.mk .none none (.func (FuncData.mk "__init__" "Task.__init__" (fa [14,0]) (fb [14,0]) (fs [14,0]) 0 [] .none .none .none .none none .none .none 0)) #[])
noncomputable def o435_7 (P:Params):Obj:=(Obj.mk (.type "code") none (.fields #[(.str "__init__" 737),(.str "Task.__init__" 738),(.str "/claim/cut.py" 739),(.int 242 0),(.int 12 0),(.int 0 0),(.int 0 0),(.int 3 0),(.ref 430),(.bool true),(.int 181 0),(.ref 431),.none,(.ref 432),(.ref 433),(.ref 434),(.int 752 0),(.int 242 0),(.str "/claim/cut.py" 753)]) #[])
noncomputable def o436_7 (P:Params):Obj:=(Obj.mk (.type "function") none (.func (FuncData.mk "__init__" "Task.__init__" (fa [14,0]) (fb [14,0]) (fs [14,0]) 3 [] (.ref 429) .none .none (.str "doit.task" 723) none (.ref 435) .none 0)) #[])
noncomputable def o437_7 (P:Params):Obj:=(Obj.mk (.type "tuple") none (.seq #[] 0) #[])
noncomputable def o438_7 (P:Params):Obj:=(Obj.mk .none none (.fields #[]) #[])
noncomputable def o439_7 (P:Params):Obj:=(Obj.mk (.type "tuple") none (.seq #[(.str "self" 758),(.str "file_dep" 759),(.str "task_dep" 760),(.str "calc_dep" 761)] 0) #[])
noncomputable def o440_7 (P:Params):Obj:=(Obj.mk (.type "tuple") none (.seq #[] 0) #[])
noncomputable def o441_7 (P:Params):Obj:=(Obj.mk .none none (.func (FuncData.mk "_init_deps" "Task._init_deps" (fa [14,1]) (fb [14,1]) (fs [14,1]) 0 [] .none .none .none .none none .none .none 0)) #[])
noncomputable def o442_7 (P:Params):Obj:=(Obj.mk (.type "code") none (.fields #[(.str "_init_deps" 755),(.str "Task._init_deps" 756),(.str "/claim/cut.py" 757),(.int 267 0),(.int 4 0),(.int 0 0),(.int 0 0),(.int 3 0),(.ref 437),(.bool true),(.int 181 0),(.ref 438),.none,(.ref 439),(.ref 440),(.ref 441),(.int 762 0),(.int 267 0),(.str "/claim/cut.py" 763)]) #[])
noncomputable def o443_7 (P:Params):Obj:=(Obj.mk (.type "function") none (.func (FuncData.mk "_init_deps" "Task._init_deps" (fa [14,1]) (fb [14,1]) (fs [14,1]) 3 [] .none .none .none (.str "doit.task" 723) none (.ref 442) .none 0)) #[])
noncomputable def o444_7 (P:Params):Obj:=(Obj.mk (.type "tuple") none (.seq #[] 0) #[])
noncomputable def o445_7 (P:Params):Obj:=(Obj.mk .none none (.fields #[]) #[])
noncomputable def o446_7 (P:Params):Obj:=(Obj.mk (.type "tuple") none (.seq #[(.str "self" 768),(.str "items" 769),(.str "targets" 770),(.str "target" 771)] 0) #[])
noncomputable def o447_7 (P:Params):Obj:=(Obj.mk (.type "tuple") none (.seq #[] 0) #[])
noncomputable def o448_7 (P:Params):Obj:=(Obj.mk .none none (.func (FuncData.mk "_init_targets" "Task._init_targets" (fa [14,2]) (fb [14,2]) (fs [14,2]) 0 [] .none .none .none .none none .none .none 0)) #[])
noncomputable def o449_7 (P:Params):Obj:=(Obj.mk (.type "code") none (.fields #[(.str "_init_targets" 765),(.str "Task._init_targets" 766),(.str "/claim/cut.py" 767),(.int 279 0),(.int 2 0),(.int 0 0),(.int 0 0),(.int 3 0),(.ref 444),(.bool true),(.int 181 0),(.ref 445),.none,(.ref 446),(.ref 447),(.ref 448),(.int 772 0),(.int 279 0),(.str "/claim/cut.py" 773)]) #[])
noncomputable def o450_7 (P:Params):Obj:=(Obj.mk (.type "function") none (.func (FuncData.mk "_init_targets" "Task._init_targets" (fa [14,2]) (fb [14,2]) (fs [14,2]) 3 [] .none .none .none (.str "doit.task" 723) none (.ref 449) .none 0)) #[])
noncomputable def o451_7 (P:Params):Obj:=(Obj.mk (.type "tuple") none (.seq #[] 0) #[])
noncomputable def o452_7 (P:Params):Obj:=(Obj.mk .none none (.fields #[]) #[])
noncomputable def o453_7 (P:Params):Obj:=(Obj.mk (.type "tuple") none (.seq #[(.str "self" 778),(.str "items" 779),(.str "uptodate" 780),(.str "item" 781)] 0) #[])
noncomputable def o454_7 (P:Params):Obj:=(Obj.mk (.type "tuple") none (.seq #[] 0) #[])
noncomputable def o455_7 (P:Params):Obj:=(Obj.mk .none none (.func (FuncData.mk "_init_uptodate" "Task._init_uptodate" (fa [14,3]) (fb [14,3]) (fs [14,3]) 0 [] .none .none .none .none none .none .none 0)) #[])
noncomputable def o456_7 (P:Params):Obj:=(Obj.mk (.type "code") none (.fields #[(.str "_init_uptodate" 775),(.str "Task._init_uptodate" 776),(.str "/claim/cut.py" 777),(.int 288 0),(.int 2 0),(.int 0 0),(.int 0 0),(.int 3 0),(.ref 451),(.bool true),(.int 181 0),(.ref 452),.none,(.ref 453),(.ref 454),(.ref 455),(.int 782 0),(.int 288 0),(.str "/claim/cut.py" 783)]) #[])
noncomputable def o457_7 (P:Params):Obj:=(Obj.mk (.type "function") none (.func (FuncData.mk "_init_uptodate" "Task._init_uptodate" (fa [14,3]) (fb [14,3]) (fs [14,3]) 3 [] .none .none .none (.str "doit.task" 723) none (.ref 456) .none 0)) #[])
noncomputable def o458_7 (P:Params):Obj:=(Obj.mk (.type "tuple") none (.seq #[] 0) #[])
noncomputable def o459_7 (P:Params):Obj:=(Obj.mk .none none (.fields #[]) #[])
noncomputable def o460_7 (P:Params):Obj:=(Obj.mk (.type "tuple") none (.seq #[(.str "self" 788),(.str "file_dep" 789),(.str "dep" 790)] 0) #[])
noncomputable def o461_7 (P:Params):Obj:=(Obj.mk (.type "tuple") none (.seq #[] 0) #[])
noncomputable def o462_7 (P:Params):Obj:=(Obj.mk .none none (.func (FuncData.mk "_expand_file_dep" "Task._expand_file_dep" (fa [14,4]) (fb [14,4]) (fs [14,4]) 0 [] .none .none .none .none none .none .none 0)) #[])
noncomputable def o463_7 (P:Params):Obj:=(Obj.mk (.type "code") none (.fields #[(.str "_expand_file_dep" 785),(.str "Task._expand_file_dep" 786),(.str "/claim/cut.py" 787),(.int 301 0),(.int 2 0),(.int 0 0),(.int 0 0),(.int 3 0),(.ref 458),(.bool true),(.int 181 0),(.ref 459),.none,(.ref 460),(.ref 461),(.ref 462),(.int 791 0),(.int 301 0),(.str "/claim/cut.py" 792)]) #[])
noncomputable def o464_7 (P:Params):Obj:=(Obj.mk (.type "function") none (.func (FuncData.mk "_expand_file_dep" "Task._expand_file_dep" (fa [14,4]) (fb [14,4]) (fs [14,4]) 3 [] .none .none .none (.str "doit.task" 723) none (.ref 463) .none 0)) #[])
noncomputable def o465_7 (P:Params):Obj:=(Obj.mk (.type "tuple") none (.seq #[] 0) #[])
noncomputable def o466_7 (P:Params):Obj:=(Obj.mk .none none (.fields #[]) #[])
noncomputable def o467_7 (P:Params):Obj:=(Obj.mk (.type "tuple") none (.seq #[(.str "self" 797),(.str "task_dep" 798),(.str "dep" 799)] 0) #[])
noncomputable def o468_7 (P:Params):Obj:=(Obj.mk (.type "tuple") none (.seq #[] 0) #[])
noncomputable def o469_7 (P:Params):Obj:=(Obj.mk .none none (.func (FuncData.mk "_expand_task_dep" "Task._expand_task_dep" (fa [14,5]) (fb [14,5]) (fs [14,5]) 0 [] .none .none .none .none none .none .none 0)) #[])
noncomputable def o470_7 (P:Params):Obj:=(Obj.mk (.type "code") none (.fields #[(.str "_expand_task_dep" 794),(.str "Task._expand_task_dep" 795),(.str "/claim/cut.py" 796),(.int 309 0),(.int 2 0),(.int 0 0),(.int 0 0),(.int 3 0),(.ref 465),(.bool true),(.int 181 0),(.ref 466),.none,(.ref 467),(.ref 468),(.ref 469),(.int 800 0),(.int 309 0),(.str "/claim/cut.py" 801)]) #[])
noncomputable def o471_7 (P:Params):Obj:=(Obj.mk (.type "function") none (.func (FuncData.mk "_expand_task_dep" "Task._expand_task_dep" (fa [14,5]) (fb [14,5]) (fs [14,5]) 3 [] .none .none .none (.str "doit.task" 723) none (.ref 470) .none 0)) #[])
noncomputable def o472_7 (P:Params):Obj:=(Obj.mk (.type "tuple") none (.seq #[] 0) #[])
noncomputable def o473_7 (P:Params):Obj:=(Obj.mk .none none (.fields #[]) #[])
noncomputable def o474_7 (P:Params):Obj:=(Obj.mk (.type "tuple") none (.seq #[(.str "self" 806),(.str "calc_dep" 807),(.str "dep" 808)] 0) #[])
noncomputable def o475_7 (P:Params):Obj:=(Obj.mk (.type "tuple") none (.seq #[] 0) #[])
noncomputable def o476_7 (P:Params):Obj:=(Obj.mk .none none (.func (FuncData.mk "_expand_calc_dep" "Task._expand_calc_dep" (fa [14,6]) (fb [14,6]) (fs [14,6]) 0 [] .none .none .none .none none .none .none 0)) #[])
noncomputable def o477_7 (P:Params):Obj:=(Obj.mk (.type "code") none (.fields #[(.str "_expand_calc_dep" 803),(.str "Task._expand_calc_dep" 804),(.str "/claim/cut.py" 805),(.int 316 0),(.int 2 0),(.int 0 0),(.int 0 0),(.int 3 0),(.ref 472),(.bool true),(.int 181 0),(.ref 473),.none,(.ref 474),(.ref 475),(.ref 476),(.int 809 0),(.int 316 0),(.str "/claim/cut.py" 810)]) #[])
noncomputable def o478_7 (P:Params):Obj:=(Obj.mk (.type "function") none (.func (FuncData.mk "_expand_calc_dep" "Task._expand_calc_dep" (fa [14,6]) (fb [14,6]) (fs [14,6]) 3 [] .none .none .none (.str "doit.task" 723) none (.ref 477) .none 0)) #[])
noncomputable def o479_7 (P:Params):Obj:=(Obj.mk (.type "tuple") none (.seq #[] 0) #[])
noncomputable def o480_7 (P:Params):Obj:=(Obj.mk .none none (.fields #[]) #[])
noncomputable def o481_7 (P:Params):Obj:=(Obj.mk (.type "tuple") none (.seq #[(.str "self" 815),(.str "uptodate" 816)] 0) #[])
noncomputable def o482_7 (P:Params):Obj:=(Obj.mk (.type "tuple") none (.seq #[] 0) #[])
noncomputable def o483_7 (P:Params):Obj:=(Obj.mk .none none (.func (FuncData.mk "_extend_uptodate" "Task._extend_uptodate" (fa [14,7]) (fb [14,7]) (fs [14,7]) 0 [] .none .none .none .none none .none .none 0)) #[])
noncomputable def o484_7 (P:Params):Obj:=(Obj.mk (.type "code") none (.fields #[(.str "_extend_uptodate" 812),(.str "Task._extend_uptodate" 813),(.str "/claim/cut.py" 814),(.int 321 0),(.int 2 0),(.int 0 0),(.int 0 0),(.int 3 0),(.ref 479),(.bool true),(.int 181 0),(.ref 480),.none,(.ref 481),(.ref 482),(.ref 483),(.int 817 0),(.int 321 0),(.str "/claim/cut.py" 818)]) #[])
noncomputable def o485_7 (P:Params):Obj:=(Obj.mk (.type "function") none (.func (FuncData.mk "_extend_uptodate" "Task._extend_uptodate" (fa [14,7]) (fb [14,7]) (fs [14,7]) 3 [] .none .none .none (.str "doit.task" 723) none (.ref 484) .none 0)) #[])
noncomputable def o486_7 (P:Params):Obj:=(Obj.mk (.type "tuple") none (.seq #[] 0) #[])
noncomputable def o487_7 (P:Params):Obj:=(Obj.mk .none none (.fields #[]) #[])
noncomputable def o488_7 (P:Params):Obj:=(Obj.mk (.type "tuple") none (.seq #[(.str "self" 823),(.str "deps" 824)] 0) #[])
noncomputable def o489_7 (P:Params):Obj:=(Obj.mk (.type "tuple") none (.seq #[] 0) #[])
noncomputable def o490_7 (P:Params):Obj:=(Obj.mk .none none (.func (FuncData.mk "update_deps" "Task.update_deps" (fa [14,8]) (fb [14,8]) (fs [14,8]) 0 [] .none .none .none .none none .none .none 0)) #[])
noncomputable def o491_7 (P:Params):Obj:=(Obj.mk (.type "code") none (.fields #[(.str "update_deps" 820),(.str "Task.update_deps" 821),(.str "/claim/cut.py" 822),(.int 324 0),(.int 2 0),(.int 0 0),(.int 0 0),(.int 3 0),(.ref 486),(.bool true),(.int 181 0),(.ref 487),.none,(.ref 488),(.ref 489),(.ref 490),(.int 825 0),(.int 324 0),(.str "/claim/cut.py" 826)]) #[])
noncomputable def o492_7 (P:Params):Obj:=(Obj.mk (.type "function") none (.func (FuncData.mk "update_deps" "Task.update_deps" (fa [14,8]) (fb [14,8]) (fs [14,8]) 3 [] .none .none .none (.str "doit.task" 723) none (.ref 491) .none 0)) #[])
noncomputable def o493_7 (P:Params):Obj:=(Obj.mk (.type "tuple") none (.seq #[.none] 0) #[])
noncomputable def o494_7 (P:Params):Obj:=(Obj.mk (.type "tuple") none (.seq #[] 0) #[])
noncomputable def o495_7 (P:Params):Obj:=(Obj.mk .none none (.fields #[]) #[])
noncomputable def o496_7 (P:Params):Obj:=(Obj.mk (.type "tuple") none (.seq #[(.str "self" 831),(.str "args" 832)] 0) #[])
noncomputable def o497_7 (P:Params):Obj:=(Obj.mk (.type "tuple") none (.seq #[] 0) #[])
noncomputable def o498_7 (P:Params):Obj:=(Obj.mk .none none (.func (FuncData.mk "init_options" "Task.init_options" (fa [14,9]) (fb [14,9]) (fs [14,9]) 0 [] .none .none .none .none none .none .none 0)) #[])
noncomputable def o499_7 (P:Params):Obj:=(Obj.mk (.type "code") none (.fields #[(.str "init_options" 828),(.str "Task.init_options" 829),(.str "/claim/cut.py" 830),(.int 327 0),(.int 2 0),(.int 0 0),(.int 0 0),(.int 3 0),(.ref 494),(.bool true),(.int 181 0),(.ref 495),.none,(.ref 496),(.ref 497),(.ref 498),(.int 833 0),(.int 327 0),(.str "/claim/cut.py" 834)]) #[])
noncomputable def o500_7 (P:Params):Obj:=(Obj.mk (.type "function") none (.func (FuncData.mk "init_options" "Task.init_options" (fa [14,9]) (fb [14,9]) (fs [14,9]) 3 [] (.ref 493) .none .none (.str "doit.task" 723) none (.ref 499) .none 0)) #[])
noncomputable def o501_7 (P:Params):Obj:=(Obj.mk (.type "tuple") none (.seq #[] 0) #[])
noncomputable def o502_7 (P:Params):Obj:=(Obj.mk .none none (.fields #[]) #[])
noncomputable def o503_7 (P:Params):Obj:=(Obj.mk .none none (.func (FuncData.mk "_init_getargs" "Task._init_getargs" (fa [14,10]) (fb [14,10]) (fs [14,10]) 0 [] .none .none .none .none none .none .none 0)) #[])
noncomputable def o504_7 (P:Params):Obj:=(Obj.mk (.type "code") none (.fields #[(.str "_init_getargs" 836),(.str "Task._init_getargs" 837),(.str "/claim/cut.py" 838),(.int 330 0),(.int 1 0),(.int 0 0),(.int 0 0),(.int 3 0),(.ref 501),(.bool true),(.int 181 0),(.ref 502),.none,.none,.none,(.ref 503),(.int 839 0),(.int 330 0),(.str "/claim/cut.py" 840)]) #[])
noncomputable def o505_7 (P:Params):Obj:=(Obj.mk (.type "function") none (.func (FuncData.mk "_init_getargs" "Task._init_getargs" (fa [14,10]) (fb [14,10]) (fs [14,10]) 3 [] .none .none .none (.str "doit.task" 723) none (.ref 504) .none 0)) #[])
noncomputable def o506_7 (P:Params):Obj:=(Obj.mk (.type "tuple") none (.seq #[] 0) #[])
noncomputable def o507_7 (P:Params):Obj:=(Obj.mk .none none (.fields #[]) #[])
noncomputable def o508_7 (P:Params):Obj:=(Obj.mk (.type "tuple") none (.seq #[(.str "self" 845)] 0) #[])
noncomputable def o509_7 (P:Params):Obj:=(Obj.mk (.type "tuple") none (.seq #[] 0) #[])
noncomputable def o510_7 (P:Params):Obj:=(Obj.mk .none none (.func (FuncData.mk "save_extra_values" "Task.save_extra_values" (fa [14,11]) (fb [14,11]) (fs [4,6]) 0 [] .none .none .none .none none .none .none 0)) #[])
noncomputable def o511_7 (P:Params):Obj:=(Obj.mk (.type "code") none (.fields #[(.str "save_extra_values" 842),(.str "Task.save_extra_values" 843),(.str "/claim/cut.py" 844),(.int 340 0),(.int 1 0),(.int 0 0),(.int 0 0),(.int 3 0),(.ref 506),(.bool true),(.int 181 0),(.ref 507),.none,(.ref 508),(.ref 509),(.ref 510),(.int 846 0),(.int 340 0),(.str "/claim/cut.py" 847)]) #[])
noncomputable def o512_7 (P:Params):Obj:=(Obj.mk (.type "function") none (.func (FuncData.mk "save_extra_values" "Task.save_extra_values" (fa [14,11]) (fb [14,11]) (fs [4,6]) 3 [] .none .none .none (.str "doit.task" 723) none (.ref 511) .none 0)) #[])
noncomputable def o513_7 (P:Params):Obj:=(Obj.mk (.type "tuple") none (.seq #[] 0) #[])
noncomputable def o514_7 (P:Params):Obj:=(Obj.mk .none none (.fields #[]) #[])
noncomputable def o515_7 (P:Params):Obj:=(Obj.mk (.type "tuple") none (.seq #[(.str "self" 852),(.str "stream" 853)] 0) #[])
noncomputable def o516_7 (P:Params):Obj:=(Obj.mk (.type "tuple") none (.seq #[] 0) #[])
noncomputable def o517_7 (P:Params):Obj:=(Obj.mk .none none (.func (FuncData.mk "execute" "Task.execute" (fa [14,12]) (fb [14,12]) (fs [14,12]) 0 [] .none .none .none .none none .none .none 0)) #[])
noncomputable def o518_7 (P:Params):Obj:=(Obj.mk (.type "code") none (.fields #[(.str "execute" 849),(.str "Task.execute" 850),(.str "/claim/cut.py" 851),(.int 343 0),(.int 2 0),(.int 0 0),(.int 0 0),(.int 3 0),(.ref 513),(.bool true),(.int 181 0),(.ref 514),.none,(.ref 515),(.ref 516),(.ref 517),(.int 854 0),(.int 343 0),(.str "/claim/cut.py" 855)]) #[])
noncomputable def o519_7 (P:Params):Obj:=(Obj.mk (.type "function") none (.func (FuncData.mk "execute" "Task.execute" (fa [14,12]) (fb [14,12]) (fs [14,12]) 3 [] .none .none .none (.str "doit.task" 723) none (.ref 518) .none 0)) #[])
noncomputable def o520_7 (P:Params):Obj:=(Obj.mk (.type "tuple") none (.seq #[(.str "actions" 857),(.str "calc_dep" 858),(.str "dep_changed" 859),(.str "executed" 860),(.str "file_dep" 861),(.str "getargs" 862),(.str "has_subtask" 863),(.str "name" 864),(.str "options" 865),(.str "result" 866),(.str "setup_tasks" 867),(.str "subtask_of" 868),(.str "targets" 869),(.str "task_dep" 870),(.str "uptodate" 871),(.str "value_savers" 872),(.str "values" 873),(.str "wild_dep" 874)] 0) #[])
noncomputable def o521_7 (P:Params):Obj:=(Obj.mk (.type "dict") none (.dict #[(DictEntry.mk (PyData.keyHash P "__module__") (.str "__module__" 732) (.str "doit.task" 723)),(DictEntry.mk (PyData.keyHash P "__firstlineno__") (.str "__firstlineno__" 736) (.int 240 735)),(DictEntry.mk (PyData.keyHash P "__init__") (.str "__init__" 754) (.ref 436)),(DictEntry.mk (PyData.keyHash P "_init_deps") (.str "_init_deps" 764) (.ref 443)),(DictEntry.mk (PyData.keyHash P "_init_targets") (.str "_init_targets" 774) (.ref 450)),(DictEntry.mk (PyData.keyHash P "_init_uptodate") (.str "_init_uptodate" 784) (.ref 457)),(DictEntry.mk (PyData.keyHash P "_expand_file_dep") (.str "_expand_file_dep" 793) (.ref 464)),(DictEntry.mk (PyData.keyHash P "_expand_task_dep") (.str "_expand_task_dep" 802) (.ref 471)),(DictEntry.mk (PyData.keyHash P "_expand_calc_dep") (.str "_expand_calc_dep" 811) (.ref 478)),(DictEntry.mk (PyData.keyHash P "_extend_uptodate") (.str "_extend_uptodate" 819) (.ref 485)),(DictEntry.mk (PyData.keyHash P "update_deps") (.str "update_deps" 827) (.ref 492)),(DictEntry.mk (PyData.keyHash P "init_options") (.str "init_options" 835) (.ref 500)),(DictEntry.mk (PyData.keyHash P "_init_getargs") (.str "_init_getargs" 841) (.ref 505)),(DictEntry.mk (PyData.keyHash P "save_extra_values") (.str "save_extra_values" 848) (.ref 512)),(DictEntry.mk (PyData.keyHash P "execute") (.str "execute" 856) (.ref 519)),(DictEntry.mk (PyData.keyHash P "__static_attributes__") (.str "__static_attributes__" 875) (.ref 520)),(DictEntry.mk (PyData.keyHash P "__dict__") (.str "__dict__" 877) (.ref 523)),(DictEntry.mk (PyData.keyHash P "__weakref__") (.str "__weakref__" 879) (.ref 524)),(DictEntry.mk (PyData.keyHash P "__doc__") (.str "__doc__" 880) .none)] 4) #[])
noncomputable def o522_7 (P:Params):Obj:=(Obj.mk (.type "type") none (.cls (ClassData.mk "Task" [(.type "object")] [(.ref 522),(.type "object")] 521 "Task" true [] [] false none false)) #[none,none,(some (.str "Task" 725)),(some (.str "Task" 733)),(some (.builtin "object.__new__")),(some (.bool true))])
noncomputable def o523_7 (P:Params):Obj:=(Obj.mk (.type "getset_descriptor") none (.fields #[(.str "__dict__" 876),(.ref 522),(.builtin "function.__dict__"),(.builtin "function.__dict__#set")]) #[])
noncomputable def o524_7 (P:Params):Obj:=(Obj.mk (.type "getset_descriptor") none (.fields #[(.str "__weakref__" 878),(.ref 522),(.builtin "ExceptionGroup.__weakref__"),.none]) #[])
noncomputable def o525_7 (P:Params):Obj:=(Obj.mk (.type "super") none (.fields #[(.ref 522),(.ref 522),(.ref 522)]) #[])
noncomputable def o526_7 (P:Params):Obj:=(Obj.mk (.type "builtin_function_or_method") none (.fields #[(.builtin "object.__init_subclass__"),(.ref 522)]) #[])
noncomputable def tr6 (P : Params) : BT := (.node (boot_o_0 P) (.node (boot_o_1 P) (.node (o3_7 P) (.node (boot_o_7 P) (.node (Ui P) (.node (Uv P) (.node (Wn P) (.node (Gl P) (.node (Og P) (.node (o511_7 P) .nil .nil) .nil) (.node (o383_6 P) .nil .nil)) (.node (G1 P) (.node (Mt P) .nil .nil) (.node (o447_7 P) .nil .nil))) (.node (Hs P) (.node (Ky P) (.node (O6 P) .nil .nil) (.node (o415_6 P) .nil .nil)) (.node (Xh P) (.node (o351_5 P) .nil .nil) (.node (o479_7 P) .nil .nil)))) (.node (U8 P) (.node (Wy P) (.node (Kj P) (.node (o271_5 P) .nil .nil) (.node (o399_6 P) .nil .nil)) (.node (G5 P) (.node (o335_5 P) .nil .nil) (.node (o463_7 P) .nil .nil))) (.node (Zw P) (.node (Vb P) (.node (Mh P) .nil .nil) (.node (o431_7 P) .nil .nil)) (.node (Oa P) (.node (o367_5 P) .nil .nil) (.node (o495_7 P) .nil .nil))))) (.node (Uo P) (.node (Hd P) (.node (Hl P) (.node (Kd P) (.node (On P) (.node (o519_7 P) .nil .nil) .nil) (.node (o391_6 P) .nil .nil)) (.node (Vu P) (.node (Mz P) .nil .nil) (.node (o455_7 P) .nil .nil))) (.node (Zb P) (.node (K5 P) (.node (o295_5 P) .nil .nil) (.node (o423_7 P) .nil .nil)) (.node (Xo P) (.node (o359_5 P) .nil .nil) (.node (o487_7 P) .nil .nil)))) (.node (Wg P) (.node (W4 P) (.node (Kr P) (.node (O0 P) .nil .nil) (.node (o407_6 P) .nil .nil)) (.node (Xb P) (.node (o343_5 P) .nil .nil) (.node (o471_7 P) .nil .nil))) (.node (Z2 P) (.node (Vj P) (.node (Mn P) .nil .nil) (.node (o439_7 P) .nil .nil)) (.node (X2 P) (.node (o375_6 P) .nil .nil) (.node (o503_7 P) .nil .nil)))))) (.node (Zf P) (.node (Ha P) (.node (Uz P) (.node (Hk P) (.node (Ka P) (.node (Oj P) (.node (o515_7 P) .nil .nil) .nil) (.node (o387_6 P) .nil .nil)) (.node (G2 P) (.node (Mw P) .nil .nil) (.node (o451_7 P) .nil .nil))) (.node (Gd P) (.node (K2 P) (.node (O9 P) .nil .nil) (.node (o419_7 P) .nil .nil)) (.node (Xk P) (.node (o355_5 P) .nil .nil) (.node (o483_7 P) .nil .nil)))) (.node (Wb P) (.node (W1 P) (.node (Km P) (.node (Ox P) .nil .nil) (.node (o403_6 P) .nil .nil)) (.node (G8 P) (.node (M7 P) .nil .nil) (.node (o467_7 P) .nil .nil))) (.node (Zz P) (.node (Vf P) (.node (o307_5 P) .nil .nil) (.node (o435_7 P) .nil .nil)) (.node (Xy P) (.node (o371_6 P) .nil .nil) (.node (o499_7 P) .nil .nil))))) (.node (Ur P) (.node (U5 P) (.node (Wv P) (.node (Kg P) (.node (o267_5 P) (.node (o523_7 P) .nil .nil) .nil) (.node (o395_6 P) .nil .nil)) (.node (Vy P) (.node (o331_5 P) .nil .nil) (.node (o459_7 P) .nil .nil))) (.node (Zt P) (.node (K8 P) (.node (o299_5 P) .nil .nil) (.node (o427_7 P) .nil .nil)) (.node (Xr P) (.node (o363_5 P) .nil .nil) (.node (o491_7 P) .nil .nil)))) (.node (Wj P) (.node (W7 P) (.node (Kv P) (.node (O3 P) .nil .nil) (.node (o411_6 P) .nil .nil)) (.node (Xe P) (.node (o347_5 P) .nil .nil) (.node (o475_7 P) .nil .nil))) (.node (Gk P) (.node (Vm P) (.node (Mq P) .nil .nil) (.node (o443_7 P) .nil .nil)) (.node (Od P) (.node (o379_6 P) .nil .nil) (.node (o507_7 P) .nil .nil))))))) (.node (boot_o_5 P) (.node (boot_o_9 P) (.node (Uj P) (.node (Ux P) (.node (Wo P) (.node (Z9 P) (.node (o257_5 P) (.node (o513_7 P) .nil .nil) .nil) (.node (o385_6 P) .nil .nil)) (.node (Vq P) (.node (o321_5 P) .nil .nil) (.node (o449_7 P) .nil .nil))) (.node (Gb P) (.node (K1 P) (.node (O7 P) .nil .nil) (.node (o417_7 P) .nil .nil)) (.node (H6 P) (.node (o353_5 P) .nil .nil) (.node (o481_7 P) .nil .nil)))) (.node (Wa P) (.node (Ho P) (.node (Kk P) (.node (Ow P) .nil .nil) (.node (o401_6 P) .nil .nil)) (.node (G7 P) (.node (M6 P) .nil .nil) (.node (o465_7 P) .nil .nil))) (.node (Gh P) (.node (Vd P) (.node (Mj P) .nil .nil) (.node (o433_7 P) .nil .nil)) (.node (Xw P) (.node (o369_6 P) .nil .nil) (.node (o497_7 P) .nil .nil))))) (.node (Uq P) (.node (U3 P) (.node (Wu P) (.node (Go P) (.node (Oo P) (.node (o521_7 P) .nil .nil) .nil) (.node (o393_6 P) .nil .nil)) (.node (Vw P) (.node (M0 P) .nil .nil) (.node (o457_7 P) .nil .nil))) (.node (Zr P) (.node (Gx P) (.node (Md P) .nil .nil) (.node (o425_7 P) .nil .nil)) (.node (Xp P) (.node (o361_5 P) .nil .nil) (.node (o489_7 P) .nil .nil)))) (.node (Hh P) (.node (W5 P) (.node (Kt P) (.node (o281_5 P) .nil .nil) (.node (o409_6 P) .nil .nil)) (.node (H3 P) (.node (o345_5 P) .nil .nil) (.node (o473_7 P) .nil .nil))) (.node (Z3 P) (.node (Vk P) (.node (Mp P) .nil .nil) (.node (o441_7 P) .nil .nil)) (.node (Ob P) (.node (o377_6 P) .nil .nil) (.node (o505_7 P) .nil .nil)))))) (.node (Zg P) (.node (Um P) (.node (U0 P) (.node (Wr P) (.node (Kc P) (.node (Ol P) (.node (o517_7 P) .nil .nil) .nil) (.node (o389_6 P) .nil .nil)) (.node (Vt P) (.node (Mx P) .nil .nil) (.node (o453_7 P) .nil .nil))) (.node (Y9 P) (.node (Gw P) (.node (Ma P) .nil .nil) (.node (o421_7 P) .nil .nil)) (.node (H7 P) (.node (o357_5 P) .nil .nil) (.node (o485_7 P) .nil .nil)))) (.node (Hg P) (.node (Hp P) (.node (Ko P) (.node (Oz P) .nil .nil) (.node (o405_6 P) .nil .nil)) (.node (Xa P) (.node (o341_5 P) .nil .nil) (.node (o469_7 P) .nil .nil))) (.node (Z0 P) (.node (Vh P) (.node (Mm P) .nil .nil) (.node (o437_7 P) .nil .nil)) (.node (X0 P) (.node (o373_6 P) .nil .nil) (.node (o501_7 P) .nil .nil))))) (.node (Ut P) (.node (U7 P) (.node (Wx P) (.node (Gq P) (.node (Ot P) (.node (o525_7 P) .nil .nil) .nil) (.node (o397_6 P) .nil .nil)) (.node (V0 P) (.node (M3 P) .nil .nil) (.node (o461_7 P) .nil .nil))) (.node (Gg P) (.node (K9 P) (.node (Mg P) .nil .nil) (.node (o429_7 P) .nil .nil)) (.node (Xs P) (.node (o365_5 P) .nil .nil) (.node (o493_7 P) .nil .nil)))) (.node (Wl P) (.node (W8 P) (.node (Kx P) (.node (o285_5 P) .nil .nil) (.node (o413_6 P) .nil .nil)) (.node (Xg P) (.node (o349_5 P) .nil .nil) (.node (o477_7 P) .nil .nil))) (.node (Z6 P) (.node (Vn P) (.node (o317_5 P) .nil .nil) (.node (o445_7 P) .nil .nil)) (.node (o253_5 P) (.node (o381_6 P) .nil .nil) (.node (o509_7 P) .nil .nil)))))))) (.node (o2_6 P) (.node (boot_o_4 P) (.node (boot_o_8 P) (.node (X9 P) (.node (Uw P) (.node (Hj P) (.node (Z8 P) (.node (Oh P) (.node (o512_7 P) .nil .nil) .nil) (.node (o384_6 P) .nil .nil)) (.node (Vp P) (.node (Mu P) .nil .nil) (.node (o448_7 P) .nil .nil))) (.node (Ga P) (.node (Kz P) (.node (o288_5 P) .nil .nil) (.node (o416_7 P) .nil .nil)) (.node (Xi P) (.node (o352_5 P) .nil .nil) (.node (o480_7 P) .nil .nil)))) (.node (U9 P) (.node (Wz P) (.node (Gr P) (.node (Ov P) .nil .nil) (.node (o400_6 P) .nil .nil)) (.node (G6 P) (.node (M5 P) .nil .nil) (.node (o464_7 P) .nil .nil))) (.node (Zx P) (.node (Vc P) (.node (Mi P) .nil .nil) (.node (o432_7 P) .nil .nil)) (.node (Xv P) (.node (o368_6 P) .nil .nil) (.node (o496_7 P) .nil .nil))))) (.node (Up P) (.node (U2 P) (.node (Wt P) (.node (Ke P) (.node (o264_5 P) (.node (o520_7 P) .nil .nil) .nil) (.node (o392_6 P) .nil .nil)) (.node (Vv P) (.node (o328_5 P) .nil .nil) (.node (o456_7 P) .nil .nil))) (.node (Zc P) (.node (K6 P) (.node (Mc P) .nil .nil) (.node (o424_7 P) .nil .nil)) (.node (H8 P) (.node (o360_5 P) .nil .nil) (.node (o488_7 P) .nil .nil)))) (.node (Wh P) (.node (Hq P) (.node (Ks P) (.node (O1 P) .nil .nil) (.node (o408_6 P) .nil .nil)) (.node (Xc P) (.node (o344_5 P) .nil .nil) (.node (o472_7 P) .nil .nil))) (.node (Gj P) (.node (Gz P) (.node (Mo P) .nil .nil) (.node (o440_7 P) .nil .nil)) (.node (X3 P) (.node (o376_6 P) .nil .nil) (.node (o504_7 P) .nil .nil)))))) (.node (o12_7 P) (.node (Ul P) (.node (Hc P) (.node (Wq P) (.node (Kb P) (.node (o260_5 P) (.node (o516_7 P) .nil .nil) .nil) (.node (o388_6 P) .nil .nil)) (.node (Vs P) (.node (o324_5 P) .nil .nil) (.node (o452_7 P) .nil .nil))) (.node (Y8 P) (.node (K3 P) (.node (o292_5 P) .nil .nil) (.node (o420_7 P) .nil .nil)) (.node (Xl P) (.node (o356_5 P) .nil .nil) (.node (o484_7 P) .nil .nil)))) (.node (Wc P) (.node (W2 P) (.node (Kn P) (.node (Oy P) .nil .nil) (.node (o404_6 P) .nil .nil)) (.node (G9 P) (.node (o340_5 P) .nil .nil) (.node (o468_7 P) .nil .nil))) (.node (Gi P) (.node (Vg P) (.node (Ml P) .nil .nil) (.node (o436_7 P) .nil .nil)) (.node (Xz P) (.node (o372_6 P) .nil .nil) (.node (o500_7 P) .nil .nil))))) (.node (Us P) (.node (U6 P) (.node (Ww P) (.node (Kh P) (.node (Os P) (.node (o524_7 P) .nil .nil) .nil) (.node (o396_6 P) .nil .nil)) (.node (Vz P) (.node (M2 P) .nil .nil) (.node (o460_7 P) .nil .nil))) (.node (Zu P) (.node (Gy P) (.node (Mf P) .nil .nil) (.node (o428_7 P) .nil .nil)) (.node (H9 P) (.node (o364_5 P) .nil .nil) (.node (o492_7 P) .nil .nil)))) (.node (Hi P) (.node (Hr P) (.node (Kw P) (.node (O4 P) .nil .nil) (.node (o412_6 P) .nil .nil)) (.node (Xf P) (.node (o348_5 P) .nil .nil) (.node (o476_7 P) .nil .nil))) (.node (Z5 P) (.node (G0 P) (.node (Mr P) .nil .nil) (.node (o444_7 P) .nil .nil)) (.node (Oe P) (.node (o380_6 P) .nil .nil) (.node (o508_7 P) .nil .nil))))))) (.node (boot_o_6 P) (.node (boot_o_10 P) (.node (Uk P) (.node (Uy P) (.node (Wp P) (.node (Gm P) (.node (Oi P) (.node (o514_7 P) .nil .nil) .nil) (.node (o386_6 P) .nil .nil)) (.node (Vr P) (.node (Mv P) .nil .nil) (.node (o450_7 P) .nil .nil))) (.node (Gc P) (.node (Gv P) (.node (O8 P) .nil .nil) (.node (o418_7 P) .nil .nil)) (.node (Xj P) (.node (o354_5 P) .nil .nil) (.node (o482_7 P) .nil .nil)))) (.node (Hf P) (.node (W0 P) (.node (Kl P) (.node (o274_5 P) .nil .nil) (.node (o402_6 P) .nil .nil)) (.node (H1 P) (.node (o338_5 P) .nil .nil) (.node (o466_7 P) .nil .nil))) (.node (Zy P) (.node (Ve P) (.node (Mk P) .nil .nil) (.node (o434_7 P) .nil .nil)) (.node (Xx P) (.node (o370_6 P) .nil .nil) (.node (o498_7 P) .nil .nil))))) (.node (Hb P) (.node (U4 P) (.node (Hm P) (.node (Kf P) (.node (Oq P) (.node (o522_7 P) .nil .nil) .nil) (.node (o394_6 P) .nil .nil)) (.node (Vx P) (.node (M1 P) .nil .nil) (.node (o458_7 P) .nil .nil))) (.node (Zs P) (.node (K7 P) (.node (Me P) .nil .nil) (.node (o426_7 P) .nil .nil)) (.node (Xq P) (.node (o362_5 P) .nil .nil) (.node (o490_7 P) .nil .nil)))) (.node (Wi P) (.node (W6 P) (.node (Ku P) (.node (O2 P) .nil .nil) (.node (o410_6 P) .nil .nil)) (.node (Xd P) (.node (o346_5 P) .nil .nil) (.node (o474_7 P) .nil .nil))) (.node (Z4 P) (.node (Vl P) (.node (o314_5 P) .nil .nil) (.node (o442_7 P) .nil .nil)) (.node (Oc P) (.node (o378_6 P) .nil .nil) (.node (o506_7 P) .nil .nil)))))) (.node (Zh P) (.node (Un P) (.node (U1 P) (.node (Ws P) (.node (Gn P) (.node (Om P) (.node (o518_7 P) .nil .nil) .nil) (.node (o390_6 P) .nil .nil)) (.node (G3 P) (.node (My P) .nil .nil) (.node (o454_7 P) .nil .nil))) (.node (Za P) (.node (K4 P) (.node (Mb P) .nil .nil) (.node (o422_7 P) .nil .nil)) (.node (Xm P) (.node (o358_5 P) .nil .nil) (.node (o486_7 P) .nil .nil)))) (.node (Wf P) (.node (W3 P) (.node (Kq P) (.node (o278_5 P) .nil .nil) (.node (o406_6 P) .nil .nil)) (.node (H2 P) (.node (o342_5 P) .nil .nil) (.node (o470_7 P) .nil .nil))) (.node (Z1 P) (.node (Vi P) (.node (o310_5 P) .nil .nil) (.node (o438_7 P) .nil .nil)) (.node (X1 P) (.node (o374_6 P) .nil .nil) (.node (o502_7 P) .nil .nil))))) (.node (Uu P) (.node (He P) (.node (Hn P) (.node (Ki P) (.node (Ou P) (.node (o526_7 P) .nil .nil) .nil) (.node (o398_6 P) .nil .nil)) (.node (G4 P) (.node (M4 P) .nil .nil) (.node (o462_7 P) .nil .nil))) (.node (Zv P) (.node (Va P) (.node (o302_5 P) .nil .nil) (.node (o430_7 P) .nil .nil)) (.node (Xu P) (.node (o366_5 P) .nil .nil) (.node (o494_7 P) .nil .nil)))) (.node (Wm P) (.node (W9 P) (.node (Gu P) (.node (O5 P) .nil .nil) (.node (o414_6 P) .nil .nil)) (.node (H5 P) (.node (o350_5 P) .nil .nil) (.node (o478_7 P) .nil .nil))) (.node (Z7 P) (.node (Vo P) (.node (Ms P) .nil .nil) (.node (o446_7 P) .nil .nil)) (.node (Of P) (.node (o382_6 P) .nil .nil) (.node (o510_7 P) .nil .nil)))))))))
noncomputable def lf6 : Life := (Life.mk [] [] [] 0 [] [] Bool.false #[] [] 0 Bool.false Bool.false Bool.false 0 [2000,10,10] Bool.false 0 Bool.true [] [] 0 Bool.false)
noncomputable def dr6 : Drawn := (Drawn.mk 0 0 0 0)
noncomputable def st6 (w : World) (os : OsState) : SharedT := ⟨tr6 w.params,527,lf6,#[],dr6,883,os⟩
noncomputable def gr6 : List Stmt := ((behindTheImports pg).drop 14).take 1
theorem seg6 : ∀ (w : World) (os : OsState),segRunT treeTable pg w 11 annE 1 652 (st5 w os) (piecesOf gr6 ev cE ⟨239,0,239,8⟩ [topFrame qE]) = some (.next,st6 w os,cE,⟨240,0,344,17⟩) := by intro w os; kernel_rfl

noncomputable def o3_8 (P:Params):Obj:=(Obj.mk (.type "dict") none (.dict #[(DictEntry.mk (PyData.keyHash P "__name__") (.str "__name__" 165) (.str "law_az0001_01" 958)),(DictEntry.mk (PyData.keyHash P "__doc__") (.str "__doc__" 166) .none),(DictEntry.mk (PyData.keyHash P "__package__") (.str "__package__" 167) .none),(DictEntry.mk (PyData.keyHash P "__loader__") (.str "__loader__" 168) (.builtin "__main__.__loader__#opaque")),(DictEntry.mk (PyData.keyHash P "__spec__") (.str "__spec__" 169) .none),(DictEntry.mk (PyData.keyHash P "__annotations__") (.str "__annotations__" 170) (.ref 6)),(DictEntry.mk (PyData.keyHash P "__builtins__") (.str "__builtins__" 171) (.ref 4)),(DictEntry.mk (PyData.keyHash P "__file__") (.str "__file__" 173) (.str "/claim/cut.py" 172)),(DictEntry.mk (PyData.keyHash P "__cached__") (.str "__cached__" 174) .none),(DictEntry.mk (PyData.keyHash P "_wall") (.str "_wall" 193) (.ref 21)),(DictEntry.mk (PyData.keyHash P "MissingFile") (.str "MissingFile" 215) (.ref 31)),(DictEntry.mk (PyData.keyHash P "get_md5") (.str "get_md5" 222) (.ref 41)),(DictEntry.mk (PyData.keyHash P "JsonDB") (.str "JsonDB" 300) (.ref 100)),(DictEntry.mk (PyData.keyHash P "FileChangedChecker") (.str "FileChangedChecker" 366) (.ref 149)),(DictEntry.mk (PyData.keyHash P "MD5Checker") (.str "MD5Checker" 409) (.ref 177)),(DictEntry.mk (PyData.keyHash P "TimestampChecker") (.str "TimestampChecker" 446) (.ref 203)),(DictEntry.mk (PyData.keyHash P "DependencyStatus") (.str "DependencyStatus" 505) (.ref 244)),(DictEntry.mk (PyData.keyHash P "Dependency") (.str "Dependency" 653) (.ref 363)),(DictEntry.mk (PyData.keyHash P "UptodateCalculator") (.str "UptodateCalculator" 700) (.ref 398)),(DictEntry.mk (PyData.keyHash P "InvalidTask") (.str "InvalidTask" 722) (.ref 412)),(DictEntry.mk (PyData.keyHash P "Task") (.str "Task" 882) (.ref 522)),(DictEntry.mk (PyData.keyHash P "result_dep") (.str "result_dep" 957) (.ref 579)),(DictEntry.mk (PyData.keyHash P "_law_files") (.str "_law_files" 966) (.ref 582)),(DictEntry.mk (PyData.keyHash P "_law_uptodate") (.str "_law_uptodate" 967) (.ref 591)),(DictEntry.mk (PyData.keyHash P "_law_world") (.str "_law_world" 977) (.ref 598)),(DictEntry.mk (PyData.keyHash P "_law_modified") (.str "_law_modified" 986) (.ref 605))] 26) #[])
noncomputable def o12_8 (P:Params):Obj:=(Obj.mk .none none (.fields #[(.int 1 0),(.int 0 0),(.ref 20),(.int 5 0),(.int 0 0),(.ref 27),(.int 7 0),(.int 0 0),(.ref 40),(.int 9 0),(.int 0 0),(.ref 47),(.int 35 0),(.int 0 0),(.ref 110),(.int 54 0),(.int 0 0),(.ref 159),(.int 72 0),(.int 0 0),(.ref 185),(.int 80 0),(.int 0 0),(.ref 211),(.int 104 0),(.int 0 0),(.ref 254),(.int 224 0),(.int 0 0),(.ref 373),(.int 237 0),(.int 0 0),(.ref 408),(.int 240 0),(.int 0 0),(.ref 421),(.int 345 0),(.int 0 0),(.ref 532),(.int 387 0),(.int 0 0),(.ref 597),(.int 395 0),(.int 0 0),(.ref 604)]) #[])
noncomputable def o398_8 (P:Params):Obj:=(Obj.mk (.type "type") none (.cls (ClassData.mk "UptodateCalculator" [(.type "object")] [(.ref 398),(.type "object")] 397 "UptodateCalculator" true [] [(.ref 579)] false none false)) #[none,none,(some (.str "UptodateCalculator" 654)),(some (.str "UptodateCalculator" 662)),(some (.builtin "object.__new__")),(some (.bool true))])
noncomputable def o527_8 (P:Params):Obj:=(Obj.mk (.type "tuple") none (.seq #[(.ref 398)] 0) #[])
noncomputable def o528_8 (P:Params):Obj:=(Obj.mk (.type "builtin_function_or_method") none (.fields #[(.builtin "type.__prepare__"),(.type "type")]) #[])
noncomputable def o529_8 (P:Params):Obj:=(Obj.mk (.type "dict") none (.dict #[(DictEntry.mk (PyData.keyHash P "__module__") (.str "__module__" 890) (.str "doit.task" 723)),(DictEntry.mk (PyData.keyHash P "__qualname__") (.str "__qualname__" 892) (.str "result_dep" 891)),(DictEntry.mk (PyData.keyHash P "__firstlineno__") (.str "__firstlineno__" 894) (.int 345 893)),(DictEntry.mk (PyData.keyHash P "__init__") (.str "__init__" 903) (.ref 541)),(DictEntry.mk (PyData.keyHash P "configure_task") (.str "configure_task" 911) (.ref 548)),(DictEntry.mk (PyData.keyHash P "_result_single") (.str "_result_single" 918) (.ref 555)),(DictEntry.mk (PyData.keyHash P "_result_group") (.str "_result_group" 929) (.ref 562)),(DictEntry.mk (PyData.keyHash P "_get_dep_result") (.str "_get_dep_result" 938) (.ref 569)),(DictEntry.mk (PyData.keyHash P "tell") (.str "tell" 950) (.ref 576)),(DictEntry.mk (PyData.keyHash P "__static_attributes__") (.str "__static_attributes__" 954) (.ref 577))] 10) #[])
noncomputable def o530_8 (P:Params):Obj:=(Obj.mk (.type "tuple") none (.seq #[] 0) #[])
noncomputable def o531_8 (P:Params):Obj:=(Obj.mk .none none (.fields #[(.int 347 0),(.int 4 0),(.ref 540),(.int 352 0),(.int 4 0),(.ref 547),(.int 358 0),(.int 4 0),(.ref 554),(.int 361 0),(.int 4 0),(.ref 561),(.int 369 0),(.int 4 0),(.ref 568),(.int 376 0),(.int 4 0),(.ref 575)]) #[])
noncomputable def o532_8 (P:Params):Obj:=(Obj.mk (.type "code") none (.fields #[(.str "result_dep" 885),(.str "result_dep" 886),(.str "/claim/cut.py" 887),(.int 345 0),(.int 0 0),(.int 0 0),(.int 0 0),(.int 0 0),(.ref 530),(.bool false),(.int 181 0),(.ref 531),.none,.none,.none,.none,(.int 888 0),(.int 345 0),(.str "/claim/cut.py" 889)]) #[])
noncomputable def o533_8 (P:Params):Obj:=(Obj.mk (.type "frame") none .plain #[(some (.ref 532)),(some (.ref 3)),(some (.ref 529)),none,(some (.str "doit.task" 723)),none,(some (.ref 0))])
noncomputable def o534_8 (P:Params):Obj:=(Obj.mk (.type "tuple") none (.seq #[(.bool false)] 0) #[])
noncomputable def o535_8 (P:Params):Obj:=(Obj.mk (.type "tuple") none (.seq #[] 0) #[])
noncomputable def o536_8 (P:Params):Obj:=(Obj.mk .none none (.fields #[]) #[])
noncomputable def o537_8 (P:Params):Obj:=(Obj.mk (.type "tuple") none (.seq #[(.str "self" 898),(.str "dep_task_name" 899),(.str "setup_dep" 900)] 0) #[])
noncomputable def o538_8 (P:Params):Obj:=(Obj.mk (.type "tuple") none (.seq #[] 0) #[])
noncomputable def o539_8 (P:Params):Obj:=(Obj.mk .none none (.func (FuncData.mk "__init__" "result_dep.__init__" (fa [15,0]) (fb [15,0]) (fs [15,0]) 0 [] .none .none .none .none none .none .none 0)) #[])
noncomputable def o540_8 (P:Params):Obj:=(Obj.mk (.type "code") none (.fields #[(.str "__init__" 895),(.str "result_dep.__init__" 896),(.str "/claim/cut.py" 897),(.int 347 0),(.int 3 0),(.int 0 0),(.int 0 0),(.int 3 0),(.ref 535),(.bool true),(.int 181 0),(.ref 536),.none,(.ref 537),(.ref 538),(.ref 539),(.int 901 0),(.int 347 0),(.str "/claim/cut.py" 902)]) #[])
noncomputable def o541_8 (P:Params):Obj:=(Obj.mk (.type "function") none (.func (FuncData.mk "__init__" "result_dep.__init__" (fa [15,0]) (fb [15,0]) (fs [15,0]) 3 [] (.ref 534) .none .none (.str "doit.task" 723) none (.ref 540) .none 0)) #[])
noncomputable def o542_8 (P:Params):Obj:=(Obj.mk (.type "tuple") none (.seq #[] 0) #[])
noncomputable def o543_8 (P:Params):Obj:=(Obj.mk .none none (.fields #[]) #[])
noncomputable def o544_8 (P:Params):Obj:=(Obj.mk (.type "tuple") none (.seq #[(.str "self" 907),(.str "task" 908)] 0) #[])
noncomputable def o545_8 (P:Params):Obj:=(Obj.mk (.type "tuple") none (.seq #[] 0) #[])
noncomputable def o546_8 (P:Params):Obj:=(Obj.mk .none none (.func (FuncData.mk "configure_task" "result_dep.configure_task" (fa [15,1]) (fb [15,1]) (fs [15,1]) 0 [] .none .none .none .none none .none .none 0)) #[])
noncomputable def o547_8 (P:Params):Obj:=(Obj.mk (.type "code") none (.fields #[(.str "configure_task" 904),(.str "result_dep.configure_task" 905),(.str "/claim/cut.py" 906),(.int 352 0),(.int 2 0),(.int 0 0),(.int 0 0),(.int 3 0),(.ref 542),(.bool true),(.int 181 0),(.ref 543),.none,(.ref 544),(.ref 545),(.ref 546),(.int 909 0),(.int 352 0),(.str "/claim/cut.py" 910)]) #[])
noncomputable def o548_8 (P:Params):Obj:=(Obj.mk (.type "function") none (.func (FuncData.mk "configure_task" "result_dep.configure_task" (fa [15,1]) (fb [15,1]) (fs [15,1]) 3 [] .none .none .none (.str "doit.task" 723) none (.ref 547) .none 0)) #[])
noncomputable def o549_8 (P:Params):Obj:=(Obj.mk (.type "tuple") none (.seq #[] 0) #[])
noncomputable def o550_8 (P:Params):Obj:=(Obj.mk .none none (.fields #[]) #[])
noncomputable def o551_8 (P:Params):Obj:=(Obj.mk (.type "tuple") none (.seq #[(.str "self" 915)] 0) #[])
noncomputable def o552_8 (P:Params):Obj:=(Obj.mk (.type "tuple") none (.seq #[] 0) #[])
noncomputable def o553_8 (P:Params):Obj:=(Obj.mk .none none (.func (FuncData.mk "_result_single" "result_dep._result_single" (fa [15,2]) (fb [15,2]) (fs [4,1]) 0 [] .none .none .none .none none .none .none 0)) #[])
noncomputable def o554_8 (P:Params):Obj:=(Obj.mk (.type "code") none (.fields #[(.str "_result_single" 912),(.str "result_dep._result_single" 913),(.str "/claim/cut.py" 914),(.int 358 0),(.int 1 0),(.int 0 0),(.int 0 0),(.int 3 0),(.ref 549),(.bool true),(.int 181 0),(.ref 550),.none,(.ref 551),(.ref 552),(.ref 553),(.int 916 0),(.int 358 0),(.str "/claim/cut.py" 917)]) #[])
noncomputable def o555_8 (P:Params):Obj:=(Obj.mk (.type "function") none (.func (FuncData.mk "_result_single" "result_dep._result_single" (fa [15,2]) (fb [15,2]) (fs [4,1]) 3 [] .none .none .none (.str "doit.task" 723) none (.ref 554) .none 0)) #[])
noncomputable def o556_8 (P:Params):Obj:=(Obj.mk (.type "tuple") none (.seq #[] 0) #[])
noncomputable def o557_8 (P:Params):Obj:=(Obj.mk .none none (.fields #[]) #[])
noncomputable def o558_8 (P:Params):Obj:=(Obj.mk (.type "tuple") none (.seq #[(.str "self" 922),(.str "dep_task" 923),(.str "prefix" 924),(.str "sub_tasks" 925),(.str "sub" 926)] 0) #[])
noncomputable def o559_8 (P:Params):Obj:=(Obj.mk (.type "tuple") none (.seq #[] 0) #[])
noncomputable def o560_8 (P:Params):Obj:=(Obj.mk .none none (.func (FuncData.mk "_result_group" "result_dep._result_group" (fa [15,3]) (fb [15,3]) (fs [15,3]) 0 [] .none .none .none .none none .none .none 0)) #[])
noncomputable def o561_8 (P:Params):Obj:=(Obj.mk (.type "code") none (.fields #[(.str "_result_group" 919),(.str "result_dep._result_group" 920),(.str "/claim/cut.py" 921),(.int 361 0),(.int 2 0),(.int 0 0),(.int 0 0),(.int 3 0),(.ref 556),(.bool true),(.int 181 0),(.ref 557),.none,(.ref 558),(.ref 559),(.ref 560),(.int 927 0),(.int 361 0),(.str "/claim/cut.py" 928)]) #[])
noncomputable def o562_8 (P:Params):Obj:=(Obj.mk (.type "function") none (.func (FuncData.mk "_result_group" "result_dep._result_group" (fa [15,3]) (fb [15,3]) (fs [15,3]) 3 [] .none .none .none (.str "doit.task" 723) none (.ref 561) .none 0)) #[])
noncomputable def o563_8 (P:Params):Obj:=(Obj.mk (.type "tuple") none (.seq #[] 0) #[])
noncomputable def o564_8 (P:Params):Obj:=(Obj.mk .none none (.fields #[]) #[])
noncomputable def o565_8 (P:Params):Obj:=(Obj.mk (.type "tuple") none (.seq #[(.str "self" 933),(.str "dep_task" 934),(.str "dep_result" 935)] 0) #[])
noncomputable def o566_8 (P:Params):Obj:=(Obj.mk (.type "tuple") none (.seq #[] 0) #[])
noncomputable def o567_8 (P:Params):Obj:=(Obj.mk .none none (.func (FuncData.mk "_get_dep_result" "result_dep._get_dep_result" (fa [15,4]) (fb [15,4]) (fs [15,4]) 0 [] .none .none .none .none none .none .none 0)) #[])
noncomputable def o568_8 (P:Params):Obj:=(Obj.mk (.type "code") none (.fields #[(.str "_get_dep_result" 930),(.str "result_dep._get_dep_result" 931),(.str "/claim/cut.py" 932),(.int 369 0),(.int 2 0),(.int 0 0),(.int 0 0),(.int 3 0),(.ref 563),(.bool true),(.int 181 0),(.ref 564),.none,(.ref 565),(.ref 566),(.ref 567),(.int 936 0),(.int 369 0),(.str "/claim/cut.py" 937)]) #[])
noncomputable def o569_8 (P:Params):Obj:=(Obj.mk (.type "function") none (.func (FuncData.mk "_get_dep_result" "result_dep._get_dep_result" (fa [15,4]) (fb [15,4]) (fs [15,4]) 3 [] .none .none .none (.str "doit.task" 723) none (.ref 568) .none 0)) #[])
noncomputable def o570_8 (P:Params):Obj:=(Obj.mk (.type "tuple") none (.seq #[] 0) #[])
noncomputable def o571_8 (P:Params):Obj:=(Obj.mk .none none (.fields #[]) #[])
noncomputable def o572_8 (P:Params):Obj:=(Obj.mk (.type "tuple") none (.seq #[(.str "self" 942),(.str "task" 943),(.str "values" 944),(.str "dep_task" 945),(.str "dep_result" 946),(.str "last_success" 947)] 0) #[])
noncomputable def o573_8 (P:Params):Obj:=(Obj.mk (.type "tuple") none (.seq #[] 0) #[])
noncomputable def o574_8 (P:Params):Obj:=(Obj.mk .none none (.func (FuncData.mk "tell" "result_dep.tell" (fa [15,5]) (fb [15,5]) (fs [15,5]) 0 [] .none .none .none .none none .none .none 0)) #[])
noncomputable def o575_8 (P:Params):Obj:=(Obj.mk (.type "code") none (.fields #[(.str "tell" 939),(.str "result_dep.tell" 940),(.str "/claim/cut.py" 941),(.int 376 0),(.int 3 0),(.int 0 0),(.int 0 0),(.int 3 0),(.ref 570),(.bool true),(.int 181 0),(.ref 571),.none,(.ref 572),(.ref 573),(.ref 574),(.int 948 0),(.int 376 0),(.str "/claim/cut.py" 949)]) #[])
noncomputable def o576_8 (P:Params):Obj:=(Obj.mk (.type "function") none (.func (FuncData.mk "tell" "result_dep.tell" (fa [15,5]) (fb [15,5]) (fs [15,5]) 3 [] .none .none .none (.str "doit.task" 723) none (.ref 575) .none 0)) #[])
noncomputable def o577_8 (P:Params):Obj:=(Obj.mk (.type "tuple") none (.seq #[(.str "dep_name" 951),(.str "result_name" 952),(.str "setup_dep" 953)] 0) #[])
noncomputable def o578_8 (P:Params):Obj:=(Obj.mk (.type "dict") none (.dict #[(DictEntry.mk (PyData.keyHash P "__module__") (.str "__module__" 890) (.str "doit.task" 723)),(DictEntry.mk (PyData.keyHash P "__firstlineno__") (.str "__firstlineno__" 894) (.int 345 893)),(DictEntry.mk (PyData.keyHash P "__init__") (.str "__init__" 903) (.ref 541)),(DictEntry.mk (PyData.keyHash P "configure_task") (.str "configure_task" 911) (.ref 548)),(DictEntry.mk (PyData.keyHash P "_result_single") (.str "_result_single" 918) (.ref 555)),(DictEntry.mk (PyData.keyHash P "_result_group") (.str "_result_group" 929) (.ref 562)),(DictEntry.mk (PyData.keyHash P "_get_dep_result") (.str "_get_dep_result" 938) (.ref 569)),(DictEntry.mk (PyData.keyHash P "tell") (.str "tell" 950) (.ref 576)),(DictEntry.mk (PyData.keyHash P "__static_attributes__") (.str "__static_attributes__" 954) (.ref 577)),(DictEntry.mk (PyData.keyHash P "__doc__") (.str "__doc__" 955) .none)] 2) #[])
noncomputable def o579_8 (P:Params):Obj:=(Obj.mk (.type "type") none (.cls (ClassData.mk "result_dep" [(.ref 398)] [(.ref 579),(.ref 398),(.type "object")] 578 "result_dep" true [] [] false none false)) #[(some (.ref 527)),none,(some (.str "result_dep" 883)),(some (.str "result_dep" 891)),(some (.builtin "object.__new__")),(some (.bool true))])
noncomputable def o580_8 (P:Params):Obj:=(Obj.mk (.type "super") none (.fields #[(.ref 579),(.ref 579),(.ref 579)]) #[])
noncomputable def o581_8 (P:Params):Obj:=(Obj.mk (.type "builtin_function_or_method") none (.fields #[(.builtin "object.__init_subclass__"),(.ref 579)]) #[])
noncomputable def o582_8 (P:Params):Obj:=(Obj.mk (.type "list") none (.seq #[(.str "f1" 960),(.str "f2" 961),(.str "f3" 962),(.str "f4" 963),(.str "t1" 964),(.str "t2" 965)] 0) #[])
noncomputable def o583_8 (P:Params):Obj:=(Obj.mk (.type "list") none (.seq #[] 0) #[])
noncomputable def o584_8 (P:Params):Obj:=(Obj.mk (.type "list") none (.seq #[(.bool true)] 0) #[])
noncomputable def o585_8 (P:Params):Obj:=(Obj.mk (.type "list") none (.seq #[(.bool false)] 0) #[])
noncomputable def o586_8 (P:Params):Obj:=(Obj.mk (.type "list") none (.seq #[.none] 0) #[])
noncomputable def o587_8 (P:Params):Obj:=(Obj.mk (.type "list") none (.seq #[(.bool true),(.bool false)] 0) #[])
noncomputable def o588_8 (P:Params):Obj:=(Obj.mk (.type "list") none (.seq #[.none,(.bool true)] 0) #[])
noncomputable def o589_8 (P:Params):Obj:=(Obj.mk (.type "list") none (.seq #[(.bool false),.none] 0) #[])
noncomputable def o590_8 (P:Params):Obj:=(Obj.mk (.type "list") none (.seq #[(.bool false),(.bool false)] 0) #[])
noncomputable def o591_8 (P:Params):Obj:=(Obj.mk (.type "list") none (.seq #[(.ref 583),(.ref 584),(.ref 585),(.ref 586),(.ref 587),(.ref 588),(.ref 589),(.ref 590)] 0) #[])
noncomputable def o592_8 (P:Params):Obj:=(Obj.mk (.type "tuple") none (.seq #[] 0) #[])
noncomputable def o593_8 (P:Params):Obj:=(Obj.mk .none none (.fields #[]) #[])
noncomputable def o594_8 (P:Params):Obj:=(Obj.mk (.type "tuple") none (.seq #[(.str "number" 971),(.str "world" 972),(.str "path" 973),(.str "digit" 974)] 0) #[])
noncomputable def o595_8 (P:Params):Obj:=(Obj.mk (.type "tuple") none (.seq #[] 0) #[])
noncomputable def o596_8 (P:Params):Obj:=(Obj.mk .none none (.func (FuncData.mk "_law_world" "_law_world" (fa [19]) (fb [19]) (fs [19]) 0 [] .none .none .none .none none .none .none 0)) #[])
noncomputable def o597_8 (P:Params):Obj:=(Obj.mk (.type "code") none (.fields #[(.str "_law_world" 968),(.str "_law_world" 969),(.str "/claim/cut.py" 970),(.int 387 0),(.int 1 0),(.int 0 0),(.int 0 0),(.int 3 0),(.ref 592),(.bool true),(.int 181 0),(.ref 593),.none,(.ref 594),(.ref 595),(.ref 596),(.int 975 0),(.int 387 0),(.str "/claim/cut.py" 976)]) #[])
noncomputable def o598_8 (P:Params):Obj:=(Obj.mk (.type "function") none (.func (FuncData.mk "_law_world" "_law_world" (fa [19]) (fb [19]) (fs [19]) 3 [] .none .none .none (.str "law_az0001_01" 958) none (.ref 597) .none 0)) #[])
noncomputable def o599_8 (P:Params):Obj:=(Obj.mk (.type "tuple") none (.seq #[] 0) #[])
noncomputable def o600_8 (P:Params):Obj:=(Obj.mk .none none (.fields #[]) #[])
noncomputable def o601_8 (P:Params):Obj:=(Obj.mk (.type "tuple") none (.seq #[(.str "checker_name" 981),(.str "state" 982),(.str "row" 983)] 0) #[])
noncomputable def o602_8 (P:Params):Obj:=(Obj.mk (.type "tuple") none (.seq #[] 0) #[])
noncomputable def o603_8 (P:Params):Obj:=(Obj.mk .none none (.func (FuncData.mk "_law_modified" "_law_modified" (fa [20]) (fb [20]) (fs [20]) 0 [] .none .none .none .none none .none .none 0)) #[])
noncomputable def o604_8 (P:Params):Obj:=(Obj.mk (.type "code") none (.fields #[(.str "_law_modified" 978),(.str "_law_modified" 979),(.str "/claim/cut.py" 980),(.int 395 0),(.int 3 0),(.int 0 0),(.int 0 0),(.int 3 0),(.ref 599),(.bool true),(.int 181 0),(.ref 600),.none,(.ref 601),(.ref 602),(.ref 603),(.int 984 0),(.int 395 0),(.str "/claim/cut.py" 985)]) #[])
noncomputable def o605_8 (P:Params):Obj:=(Obj.mk (.type "function") none (.func (FuncData.mk "_law_modified" "_law_modified" (fa [20]) (fb [20]) (fs [20]) 3 [] .none .none .none (.str "law_az0001_01" 958) none (.ref 604) .none 0)) #[])
noncomputable def tr7 (P : Params) : BT := (.node (boot_o_0 P) (.node (boot_o_1 P) (.node (o3_8 P) (.node (boot_o_7 P) (.node (Ui P) (.node (Uv P) (.node (Wn P) (.node (Gl P) (.node (Og P) (.node (o511_7 P) .nil .nil) .nil) (.node (o383_6 P) .nil .nil)) (.node (G1 P) (.node (Mt P) (.node (o575_8 P) .nil .nil) .nil) (.node (o447_7 P) .nil .nil))) (.node (Hs P) (.node (Ky P) (.node (O6 P) (.node (o543_8 P) .nil .nil) .nil) (.node (o415_6 P) .nil .nil)) (.node (Xh P) (.node (o351_5 P) .nil .nil) (.node (o479_7 P) .nil .nil)))) (.node (U8 P) (.node (Wy P) (.node (Kj P) (.node (o271_5 P) (.node (o527_8 P) .nil .nil) .nil) (.node (o399_6 P) .nil .nil)) (.node (G5 P) (.node (o335_5 P) (.node (o591_8 P) .nil .nil) .nil) (.node (o463_7 P) .nil .nil))) (.node (Zw P) (.node (Vb P) (.node (Mh P) (.node (o559_8 P) .nil .nil) .nil) (.node (o431_7 P) .nil .nil)) (.node (Oa P) (.node (o367_5 P) .nil .nil) (.node (o495_7 P) .nil .nil))))) (.node (Uo P) (.node (Hd P) (.node (Hl P) (.node (Kd P) (.node (On P) (.node (o519_7 P) .nil .nil) .nil) (.node (o391_6 P) .nil .nil)) (.node (Vu P) (.node (Mz P) (.node (o583_8 P) .nil .nil) .nil) (.node (o455_7 P) .nil .nil))) (.node (Zb P) (.node (K5 P) (.node (o295_5 P) (.node (o551_8 P) .nil .nil) .nil) (.node (o423_7 P) .nil .nil)) (.node (Xo P) (.node (o359_5 P) .nil .nil) (.node (o487_7 P) .nil .nil)))) (.node (Wg P) (.node (W4 P) (.node (Kr P) (.node (O0 P) (.node (o535_8 P) .nil .nil) .nil) (.node (o407_6 P) .nil .nil)) (.node (Xb P) (.node (o343_5 P) (.node (o599_8 P) .nil .nil) .nil) (.node (o471_7 P) .nil .nil))) (.node (Z2 P) (.node (Vj P) (.node (Mn P) (.node (o567_8 P) .nil .nil) .nil) (.node (o439_7 P) .nil .nil)) (.node (X2 P) (.node (o375_6 P) .nil .nil) (.node (o503_7 P) .nil .nil)))))) (.node (Zf P) (.node (Ha P) (.node (Uz P) (.node (Hk P) (.node (Ka P) (.node (Oj P) (.node (o515_7 P) .nil .nil) .nil) (.node (o387_6 P) .nil .nil)) (.node (G2 P) (.node (Mw P) (.node (o579_8 P) .nil .nil) .nil) (.node (o451_7 P) .nil .nil))) (.node (Gd P) (.node (K2 P) (.node (O9 P) (.node (o547_8 P) .nil .nil) .nil) (.node (o419_7 P) .nil .nil)) (.node (Xk P) (.node (o355_5 P) .nil .nil) (.node (o483_7 P) .nil .nil)))) (.node (Wb P) (.node (W1 P) (.node (Km P) (.node (Ox P) (.node (o531_8 P) .nil .nil) .nil) (.node (o403_6 P) .nil .nil)) (.node (G8 P) (.node (M7 P) (.node (o595_8 P) .nil .nil) .nil) (.node (o467_7 P) .nil .nil))) (.node (Zz P) (.node (Vf P) (.node (o307_5 P) (.node (o563_8 P) .nil .nil) .nil) (.node (o435_7 P) .nil .nil)) (.node (Xy P) (.node (o371_6 P) .nil .nil) (.node (o499_7 P) .nil .nil))))) (.node (Ur P) (.node (U5 P) (.node (Wv P) (.node (Kg P) (.node (o267_5 P) (.node (o523_7 P) .nil .nil) .nil) (.node (o395_6 P) .nil .nil)) (.node (Vy P) (.node (o331_5 P) (.node (o587_8 P) .nil .nil) .nil) (.node (o459_7 P) .nil .nil))) (.node (Zt P) (.node (K8 P) (.node (o299_5 P) (.node (o555_8 P) .nil .nil) .nil) (.node (o427_7 P) .nil .nil)) (.node (Xr P) (.node (o363_5 P) .nil .nil) (.node (o491_7 P) .nil .nil)))) (.node (Wj P) (.node (W7 P) (.node (Kv P) (.node (O3 P) (.node (o539_8 P) .nil .nil) .nil) (.node (o411_6 P) .nil .nil)) (.node (Xe P) (.node (o347_5 P) (.node (o603_8 P) .nil .nil) .nil) (.node (o475_7 P) .nil .nil))) (.node (Gk P) (.node (Vm P) (.node (Mq P) (.node (o571_8 P) .nil .nil) .nil) (.node (o443_7 P) .nil .nil)) (.node (Od P) (.node (o379_6 P) .nil .nil) (.node (o507_7 P) .nil .nil))))))) (.node (boot_o_5 P) (.node (boot_o_9 P) (.node (Uj P) (.node (Ux P) (.node (Wo P) (.node (Z9 P) (.node (o257_5 P) (.node (o513_7 P) .nil .nil) .nil) (.node (o385_6 P) .nil .nil)) (.node (Vq P) (.node (o321_5 P) (.node (o577_8 P) .nil .nil) .nil) (.node (o449_7 P) .nil .nil))) (.node (Gb P) (.node (K1 P) (.node (O7 P) (.node (o545_8 P) .nil .nil) .nil) (.node (o417_7 P) .nil .nil)) (.node (H6 P) (.node (o353_5 P) .nil .nil) (.node (o481_7 P) .nil .nil)))) (.node (Wa P) (.node (Ho P) (.node (Kk P) (.node (Ow P) (.node (o529_8 P) .nil .nil) .nil) (.node (o401_6 P) .nil .nil)) (.node (G7 P) (.node (M6 P) (.node (o593_8 P) .nil .nil) .nil) (.node (o465_7 P) .nil .nil))) (.node (Gh P) (.node (Vd P) (.node (Mj P) (.node (o561_8 P) .nil .nil) .nil) (.node (o433_7 P) .nil .nil)) (.node (Xw P) (.node (o369_6 P) .nil .nil) (.node (o497_7 P) .nil .nil))))) (.node (Uq P) (.node (U3 P) (.node (Wu P) (.node (Go P) (.node (Oo P) (.node (o521_7 P) .nil .nil) .nil) (.node (o393_6 P) .nil .nil)) (.node (Vw P) (.node (M0 P) (.node (o585_8 P) .nil .nil) .nil) (.node (o457_7 P) .nil .nil))) (.node (Zr P) (.node (Gx P) (.node (Md P) (.node (o553_8 P) .nil .nil) .nil) (.node (o425_7 P) .nil .nil)) (.node (Xp P) (.node (o361_5 P) .nil .nil) (.node (o489_7 P) .nil .nil)))) (.node (Hh P) (.node (W5 P) (.node (Kt P) (.node (o281_5 P) (.node (o537_8 P) .nil .nil) .nil) (.node (o409_6 P) .nil .nil)) (.node (H3 P) (.node (o345_5 P) (.node (o601_8 P) .nil .nil) .nil) (.node (o473_7 P) .nil .nil))) (.node (Z3 P) (.node (Vk P) (.node (Mp P) (.node (o569_8 P) .nil .nil) .nil) (.node (o441_7 P) .nil .nil)) (.node (Ob P) (.node (o377_6 P) .nil .nil) (.node (o505_7 P) .nil .nil)))))) (.node (Zg P) (.node (Um P) (.node (U0 P) (.node (Wr P) (.node (Kc P) (.node (Ol P) (.node (o517_7 P) .nil .nil) .nil) (.node (o389_6 P) .nil .nil)) (.node (Vt P) (.node (Mx P) (.node (o581_8 P) .nil .nil) .nil) (.node (o453_7 P) .nil .nil))) (.node (Y9 P) (.node (Gw P) (.node (Ma P) (.node (o549_8 P) .nil .nil) .nil) (.node (o421_7 P) .nil .nil)) (.node (H7 P) (.node (o357_5 P) .nil .nil) (.node (o485_7 P) .nil .nil)))) (.node (Hg P) (.node (Hp P) (.node (Ko P) (.node (Oz P) (.node (o533_8 P) .nil .nil) .nil) (.node (o405_6 P) .nil .nil)) (.node (Xa P) (.node (o341_5 P) (.node (o597_8 P) .nil .nil) .nil) (.node (o469_7 P) .nil .nil))) (.node (Z0 P) (.node (Vh P) (.node (Mm P) (.node (o565_8 P) .nil .nil) .nil) (.node (o437_7 P) .nil .nil)) (.node (X0 P) (.node (o373_6 P) .nil .nil) (.node (o501_7 P) .nil .nil))))) (.node (Ut P) (.node (U7 P) (.node (Wx P) (.node (Gq P) (.node (Ot P) (.node (o525_7 P) .nil .nil) .nil) (.node (o397_6 P) .nil .nil)) (.node (V0 P) (.node (M3 P) (.node (o589_8 P) .nil .nil) .nil) (.node (o461_7 P) .nil .nil))) (.node (Gg P) (.node (K9 P) (.node (Mg P) (.node (o557_8 P) .nil .nil) .nil) (.node (o429_7 P) .nil .nil)) (.node (Xs P) (.node (o365_5 P) .nil .nil) (.node (o493_7 P) .nil .nil)))) (.node (Wl P) (.node (W8 P) (.node (Kx P) (.node (o285_5 P) (.node (o541_8 P) .nil .nil) .nil) (.node (o413_6 P) .nil .nil)) (.node (Xg P) (.node (o349_5 P) (.node (o605_8 P) .nil .nil) .nil) (.node (o477_7 P) .nil .nil))) (.node (Z6 P) (.node (Vn P) (.node (o317_5 P) (.node (o573_8 P) .nil .nil) .nil) (.node (o445_7 P) .nil .nil)) (.node (o253_5 P) (.node (o381_6 P) .nil .nil) (.node (o509_7 P) .nil .nil)))))))) (.node (o2_6 P) (.node (boot_o_4 P) (.node (boot_o_8 P) (.node (X9 P) (.node (Uw P) (.node (Hj P) (.node (Z8 P) (.node (Oh P) (.node (o512_7 P) .nil .nil) .nil) (.node (o384_6 P) .nil .nil)) (.node (Vp P) (.node (Mu P) (.node (o576_8 P) .nil .nil) .nil) (.node (o448_7 P) .nil .nil))) (.node (Ga P) (.node (Kz P) (.node (o288_5 P) (.node (o544_8 P) .nil .nil) .nil) (.node (o416_7 P) .nil .nil)) (.node (Xi P) (.node (o352_5 P) .nil .nil) (.node (o480_7 P) .nil .nil)))) (.node (U9 P) (.node (Wz P) (.node (Gr P) (.node (Ov P) (.node (o528_8 P) .nil .nil) .nil) (.node (o400_6 P) .nil .nil)) (.node (G6 P) (.node (M5 P) (.node (o592_8 P) .nil .nil) .nil) (.node (o464_7 P) .nil .nil))) (.node (Zx P) (.node (Vc P) (.node (Mi P) (.node (o560_8 P) .nil .nil) .nil) (.node (o432_7 P) .nil .nil)) (.node (Xv P) (.node (o368_6 P) .nil .nil) (.node (o496_7 P) .nil .nil))))) (.node (Up P) (.node (U2 P) (.node (Wt P) (.node (Ke P) (.node (o264_5 P) (.node (o520_7 P) .nil .nil) .nil) (.node (o392_6 P) .nil .nil)) (.node (Vv P) (.node (o328_5 P) (.node (o584_8 P) .nil .nil) .nil) (.node (o456_7 P) .nil .nil))) (.node (Zc P) (.node (K6 P) (.node (Mc P) (.node (o552_8 P) .nil .nil) .nil) (.node (o424_7 P) .nil .nil)) (.node (H8 P) (.node (o360_5 P) .nil .nil) (.node (o488_7 P) .nil .nil)))) (.node (Wh P) (.node (Hq P) (.node (Ks P) (.node (O1 P) (.node (o536_8 P) .nil .nil) .nil) (.node (o408_6 P) .nil .nil)) (.node (Xc P) (.node (o344_5 P) (.node (o600_8 P) .nil .nil) .nil) (.node (o472_7 P) .nil .nil))) (.node (Gj P) (.node (Gz P) (.node (Mo P) (.node (o568_8 P) .nil .nil) .nil) (.node (o440_7 P) .nil .nil)) (.node (X3 P) (.node (o376_6 P) .nil .nil) (.node (o504_7 P) .nil .nil)))))) (.node (o12_8 P) (.node (Ul P) (.node (Hc P) (.node (Wq P) (.node (Kb P) (.node (o260_5 P) (.node (o516_7 P) .nil .nil) .nil) (.node (o388_6 P) .nil .nil)) (.node (Vs P) (.node (o324_5 P) (.node (o580_8 P) .nil .nil) .nil) (.node (o452_7 P) .nil .nil))) (.node (Y8 P) (.node (K3 P) (.node (o292_5 P) (.node (o548_8 P) .nil .nil) .nil) (.node (o420_7 P) .nil .nil)) (.node (Xl P) (.node (o356_5 P) .nil .nil) (.node (o484_7 P) .nil .nil)))) (.node (Wc P) (.node (W2 P) (.node (Kn P) (.node (Oy P) (.node (o532_8 P) .nil .nil) .nil) (.node (o404_6 P) .nil .nil)) (.node (G9 P) (.node (o340_5 P) (.node (o596_8 P) .nil .nil) .nil) (.node (o468_7 P) .nil .nil))) (.node (Gi P) (.node (Vg P) (.node (Ml P) (.node (o564_8 P) .nil .nil) .nil) (.node (o436_7 P) .nil .nil)) (.node (Xz P) (.node (o372_6 P) .nil .nil) (.node (o500_7 P) .nil .nil))))) (.node (Us P) (.node (U6 P) (.node (Ww P) (.node (Kh P) (.node (Os P) (.node (o524_7 P) .nil .nil) .nil) (.node (o396_6 P) .nil .nil)) (.node (Vz P) (.node (M2 P) (.node (o588_8 P) .nil .nil) .nil) (.node (o460_7 P) .nil .nil))) (.node (Zu P) (.node (Gy P) (.node (Mf P) (.node (o556_8 P) .nil .nil) .nil) (.node (o428_7 P) .nil .nil)) (.node (H9 P) (.node (o364_5 P) .nil .nil) (.node (o492_7 P) .nil .nil)))) (.node (Hi P) (.node (Hr P) (.node (Kw P) (.node (O4 P) (.node (o540_8 P) .nil .nil) .nil) (.node (o412_6 P) .nil .nil)) (.node (Xf P) (.node (o348_5 P) (.node (o604_8 P) .nil .nil) .nil) (.node (o476_7 P) .nil .nil))) (.node (Z5 P) (.node (G0 P) (.node (Mr P) (.node (o572_8 P) .nil .nil) .nil) (.node (o444_7 P) .nil .nil)) (.node (Oe P) (.node (o380_6 P) .nil .nil) (.node (o508_7 P) .nil .nil))))))) (.node (boot_o_6 P) (.node (boot_o_10 P) (.node (Uk P) (.node (Uy P) (.node (Wp P) (.node (Gm P) (.node (Oi P) (.node (o514_7 P) .nil .nil) .nil) (.node (o386_6 P) .nil .nil)) (.node (Vr P) (.node (Mv P) (.node (o578_8 P) .nil .nil) .nil) (.node (o450_7 P) .nil .nil))) (.node (Gc P) (.node (Gv P) (.node (O8 P) (.node (o546_8 P) .nil .nil) .nil) (.node (o418_7 P) .nil .nil)) (.node (Xj P) (.node (o354_5 P) .nil .nil) (.node (o482_7 P) .nil .nil)))) (.node (Hf P) (.node (W0 P) (.node (Kl P) (.node (o274_5 P) (.node (o530_8 P) .nil .nil) .nil) (.node (o402_6 P) .nil .nil)) (.node (H1 P) (.node (o338_5 P) (.node (o594_8 P) .nil .nil) .nil) (.node (o466_7 P) .nil .nil))) (.node (Zy P) (.node (Ve P) (.node (Mk P) (.node (o562_8 P) .nil .nil) .nil) (.node (o434_7 P) .nil .nil)) (.node (Xx P) (.node (o370_6 P) .nil .nil) (.node (o498_7 P) .nil .nil))))) (.node (Hb P) (.node (U4 P) (.node (Hm P) (.node (Kf P) (.node (Oq P) (.node (o522_7 P) .nil .nil) .nil) (.node (o394_6 P) .nil .nil)) (.node (Vx P) (.node (M1 P) (.node (o586_8 P) .nil .nil) .nil) (.node (o458_7 P) .nil .nil))) (.node (Zs P) (.node (K7 P) (.node (Me P) (.node (o554_8 P) .nil .nil) .nil) (.node (o426_7 P) .nil .nil)) (.node (Xq P) (.node (o362_5 P) .nil .nil) (.node (o490_7 P) .nil .nil)))) (.node (Wi P) (.node (W6 P) (.node (Ku P) (.node (O2 P) (.node (o538_8 P) .nil .nil) .nil) (.node (o410_6 P) .nil .nil)) (.node (Xd P) (.node (o346_5 P) (.node (o602_8 P) .nil .nil) .nil) (.node (o474_7 P) .nil .nil))) (.node (Z4 P) (.node (Vl P) (.node (o314_5 P) (.node (o570_8 P) .nil .nil) .nil) (.node (o442_7 P) .nil .nil)) (.node (Oc P) (.node (o378_6 P) .nil .nil) (.node (o506_7 P) .nil .nil)))))) (.node (Zh P) (.node (Un P) (.node (U1 P) (.node (Ws P) (.node (Gn P) (.node (Om P) (.node (o518_7 P) .nil .nil) .nil) (.node (o390_6 P) .nil .nil)) (.node (G3 P) (.node (My P) (.node (o582_8 P) .nil .nil) .nil) (.node (o454_7 P) .nil .nil))) (.node (Za P) (.node (K4 P) (.node (Mb P) (.node (o550_8 P) .nil .nil) .nil) (.node (o422_7 P) .nil .nil)) (.node (Xm P) (.node (o358_5 P) .nil .nil) (.node (o486_7 P) .nil .nil)))) (.node (Wf P) (.node (W3 P) (.node (Kq P) (.node (o278_5 P) (.node (o534_8 P) .nil .nil) .nil) (.node (o406_6 P) .nil .nil)) (.node (H2 P) (.node (o342_5 P) (.node (o598_8 P) .nil .nil) .nil) (.node (o470_7 P) .nil .nil))) (.node (Z1 P) (.node (Vi P) (.node (o310_5 P) (.node (o566_8 P) .nil .nil) .nil) (.node (o438_7 P) .nil .nil)) (.node (X1 P) (.node (o374_6 P) .nil .nil) (.node (o502_7 P) .nil .nil))))) (.node (Uu P) (.node (He P) (.node (Hn P) (.node (Ki P) (.node (Ou P) (.node (o526_7 P) .nil .nil) .nil) (.node (o398_8 P) .nil .nil)) (.node (G4 P) (.node (M4 P) (.node (o590_8 P) .nil .nil) .nil) (.node (o462_7 P) .nil .nil))) (.node (Zv P) (.node (Va P) (.node (o302_5 P) (.node (o558_8 P) .nil .nil) .nil) (.node (o430_7 P) .nil .nil)) (.node (Xu P) (.node (o366_5 P) .nil .nil) (.node (o494_7 P) .nil .nil)))) (.node (Wm P) (.node (W9 P) (.node (Gu P) (.node (O5 P) (.node (o542_8 P) .nil .nil) .nil) (.node (o414_6 P) .nil .nil)) (.node (H5 P) (.node (o350_5 P) .nil .nil) (.node (o478_7 P) .nil .nil))) (.node (Z7 P) (.node (Vo P) (.node (Ms P) (.node (o574_8 P) .nil .nil) .nil) (.node (o446_7 P) .nil .nil)) (.node (Of P) (.node (o382_6 P) .nil .nil) (.node (o510_7 P) .nil .nil)))))))))
noncomputable def lf7 : Life := (Life.mk [] [] [] 0 [] [] Bool.false #[] [] 0 Bool.false Bool.false Bool.false 0 [2000,10,10] Bool.false 0 Bool.true [] [] 0 Bool.false)
noncomputable def dr7 : Drawn := (Drawn.mk 0 0 0 0)
noncomputable def st7 (w : World) (os : OsState) : SharedT := ⟨tr7 w.params,606,lf7,#[],dr7,987,os⟩
noncomputable def gr7 : List Stmt := ((behindTheImports pg).drop 15).take 6
theorem seg7 : ∀ (w : World) (os : OsState),segRunT treeTable pg w 11 annE 1 531 (st6 w os) (piecesOf gr7 ev cE ⟨240,0,344,17⟩ [topFrame qE]) = some (.next,st7 w os,cE,⟨395,0,398,26⟩) := by intro w os; kernel_rfl

noncomputable def o3_9 (P:Params):Obj:=(Obj.mk (.type "dict") none (.dict #[(DictEntry.mk (PyData.keyHash P "__name__") (.str "__name__" 165) (.str "law_az0001_01" 958)),(DictEntry.mk (PyData.keyHash P "__doc__") (.str "__doc__" 166) .none),(DictEntry.mk (PyData.keyHash P "__package__") (.str "__package__" 167) .none),(DictEntry.mk (PyData.keyHash P "__loader__") (.str "__loader__" 168) (.builtin "__main__.__loader__#opaque")),(DictEntry.mk (PyData.keyHash P "__spec__") (.str "__spec__" 169) .none),(DictEntry.mk (PyData.keyHash P "__annotations__") (.str "__annotations__" 170) (.ref 6)),(DictEntry.mk (PyData.keyHash P "__builtins__") (.str "__builtins__" 171) (.ref 4)),(DictEntry.mk (PyData.keyHash P "__file__") (.str "__file__" 173) (.str "/claim/cut.py" 172)),(DictEntry.mk (PyData.keyHash P "__cached__") (.str "__cached__" 174) .none),(DictEntry.mk (PyData.keyHash P "_wall") (.str "_wall" 193) (.ref 21)),(DictEntry.mk (PyData.keyHash P "MissingFile") (.str "MissingFile" 215) (.ref 31)),(DictEntry.mk (PyData.keyHash P "get_md5") (.str "get_md5" 222) (.ref 41)),(DictEntry.mk (PyData.keyHash P "JsonDB") (.str "JsonDB" 300) (.ref 100)),(DictEntry.mk (PyData.keyHash P "FileChangedChecker") (.str "FileChangedChecker" 366) (.ref 149)),(DictEntry.mk (PyData.keyHash P "MD5Checker") (.str "MD5Checker" 409) (.ref 177)),(DictEntry.mk (PyData.keyHash P "TimestampChecker") (.str "TimestampChecker" 446) (.ref 203)),(DictEntry.mk (PyData.keyHash P "DependencyStatus") (.str "DependencyStatus" 505) (.ref 244)),(DictEntry.mk (PyData.keyHash P "Dependency") (.str "Dependency" 653) (.ref 363)),(DictEntry.mk (PyData.keyHash P "UptodateCalculator") (.str "UptodateCalculator" 700) (.ref 398)),(DictEntry.mk (PyData.keyHash P "InvalidTask") (.str "InvalidTask" 722) (.ref 412)),(DictEntry.mk (PyData.keyHash P "Task") (.str "Task" 882) (.ref 522)),(DictEntry.mk (PyData.keyHash P "result_dep") (.str "result_dep" 957) (.ref 579)),(DictEntry.mk (PyData.keyHash P "_law_files") (.str "_law_files" 966) (.ref 582)),(DictEntry.mk (PyData.keyHash P "_law_uptodate") (.str "_law_uptodate" 967) (.ref 591)),(DictEntry.mk (PyData.keyHash P "_law_world") (.str "_law_world" 977) (.ref 598)),(DictEntry.mk (PyData.keyHash P "_law_modified") (.str "_law_modified" 986) (.ref 605)),(DictEntry.mk (PyData.keyHash P "_law_reasons") (.str "_law_reasons" 992) (.ref 610)),(DictEntry.mk (PyData.keyHash P "_law_log") (.str "_law_log" 1002) (.ref 617)),(DictEntry.mk (PyData.keyHash P "_law_first") (.str "_law_first" 1008) (.ref 622)),(DictEntry.mk (PyData.keyHash P "_law_saved") (.str "_law_saved" 1020) (.ref 629)),(DictEntry.mk (PyData.keyHash P "_law_with_log") (.str "_law_with_log" 1026) (.ref 634)),(DictEntry.mk (PyData.keyHash P "_law_without_log") (.str "_law_without_log" 1032) (.ref 639)),(DictEntry.mk (PyData.keyHash P "_law_round") (.str "_law_round" 1038) (.ref 644)),(DictEntry.mk (PyData.keyHash P "law") (.str "law" 1048) (.ref 651))] 34) #[])
noncomputable def o12_9 (P:Params):Obj:=(Obj.mk .none none (.fields #[(.int 1 0),(.int 0 0),(.ref 20),(.int 5 0),(.int 0 0),(.ref 27),(.int 7 0),(.int 0 0),(.ref 40),(.int 9 0),(.int 0 0),(.ref 47),(.int 35 0),(.int 0 0),(.ref 110),(.int 54 0),(.int 0 0),(.ref 159),(.int 72 0),(.int 0 0),(.ref 185),(.int 80 0),(.int 0 0),(.ref 211),(.int 104 0),(.int 0 0),(.ref 254),(.int 224 0),(.int 0 0),(.ref 373),(.int 237 0),(.int 0 0),(.ref 408),(.int 240 0),(.int 0 0),(.ref 421),(.int 345 0),(.int 0 0),(.ref 532),(.int 387 0),(.int 0 0),(.ref 597),(.int 395 0),(.int 0 0),(.ref 604),(.int 399 0),(.int 0 0),(.ref 609),(.int 423 0),(.int 0 0),(.ref 616),(.int 433 0),(.int 0 0),(.ref 621),(.int 443 0),(.int 0 0),(.ref 628),(.int 451 0),(.int 0 0),(.ref 633),(.int 464 0),(.int 0 0),(.ref 638),(.int 473 0),(.int 0 0),(.ref 643),(.int 497 0),(.int 0 0),(.ref 650)]) #[])
noncomputable def o606_9 (P:Params):Obj:=(Obj.mk (.type "tuple") none (.seq #[] 0) #[])
noncomputable def o607_9 (P:Params):Obj:=(Obj.mk .none none (.fields #[]) #[])
noncomputable def o608_9 (P:Params):Obj:=(Obj.mk .none none (.func (FuncData.mk "_law_reasons" "_law_reasons" (fa [21]) (fb [21]) (fs [21]) 0 [] .none .none .none .none none .none .none 0)) #[])
noncomputable def o609_9 (P:Params):Obj:=(Obj.mk (.type "code") none (.fields #[(.str "_law_reasons" 987),(.str "_law_reasons" 988),(.str "/claim/cut.py" 989),(.int 399 0),(.int 4 0),(.int 0 0),(.int 0 0),(.int 3 0),(.ref 606),(.bool true),(.int 181 0),(.ref 607),.none,.none,.none,(.ref 608),(.int 990 0),(.int 399 0),(.str "/claim/cut.py" 991)]) #[])
noncomputable def o610_9 (P:Params):Obj:=(Obj.mk (.type "function") none (.func (FuncData.mk "_law_reasons" "_law_reasons" (fa [21]) (fb [21]) (fs [21]) 3 [] .none .none .none (.str "law_az0001_01" 958) none (.ref 609) .none 0)) #[])
noncomputable def o611_9 (P:Params):Obj:=(Obj.mk (.type "tuple") none (.seq #[] 0) #[])
noncomputable def o612_9 (P:Params):Obj:=(Obj.mk .none none (.fields #[]) #[])
noncomputable def o613_9 (P:Params):Obj:=(Obj.mk (.type "tuple") none (.seq #[(.str "found" 996),(.str "log" 997),(.str "word" 998),(.str "what" 999)] 0) #[])
noncomputable def o614_9 (P:Params):Obj:=(Obj.mk (.type "tuple") none (.seq #[] 0) #[])
noncomputable def o615_9 (P:Params):Obj:=(Obj.mk .none none (.func (FuncData.mk "_law_log" "_law_log" (fa [22]) (fb [22]) (fs [22]) 0 [] .none .none .none .none none .none .none 0)) #[])
noncomputable def o616_9 (P:Params):Obj:=(Obj.mk (.type "code") none (.fields #[(.str "_law_log" 993),(.str "_law_log" 994),(.str "/claim/cut.py" 995),(.int 423 0),(.int 1 0),(.int 0 0),(.int 0 0),(.int 3 0),(.ref 611),(.bool true),(.int 181 0),(.ref 612),.none,(.ref 613),(.ref 614),(.ref 615),(.int 1000 0),(.int 423 0),(.str "/claim/cut.py" 1001)]) #[])
noncomputable def o617_9 (P:Params):Obj:=(Obj.mk (.type "function") none (.func (FuncData.mk "_law_log" "_law_log" (fa [22]) (fb [22]) (fs [22]) 3 [] .none .none .none (.str "law_az0001_01" 958) none (.ref 616) .none 0)) #[])
noncomputable def o618_9 (P:Params):Obj:=(Obj.mk (.type "tuple") none (.seq #[] 0) #[])
noncomputable def o619_9 (P:Params):Obj:=(Obj.mk .none none (.fields #[]) #[])
noncomputable def o620_9 (P:Params):Obj:=(Obj.mk .none none (.func (FuncData.mk "_law_first" "_law_first" (fa [23]) (fb [23]) (fs [23]) 0 [] .none .none .none .none none .none .none 0)) #[])
noncomputable def o621_9 (P:Params):Obj:=(Obj.mk (.type "code") none (.fields #[(.str "_law_first" 1003),(.str "_law_first" 1004),(.str "/claim/cut.py" 1005),(.int 433 0),(.int 2 0),(.int 0 0),(.int 0 0),(.int 3 0),(.ref 618),(.bool true),(.int 181 0),(.ref 619),.none,.none,.none,(.ref 620),(.int 1006 0),(.int 433 0),(.str "/claim/cut.py" 1007)]) #[])
noncomputable def o622_9 (P:Params):Obj:=(Obj.mk (.type "function") none (.func (FuncData.mk "_law_first" "_law_first" (fa [23]) (fb [23]) (fs [23]) 3 [] .none .none .none (.str "law_az0001_01" 958) none (.ref 621) .none 0)) #[])
noncomputable def o623_9 (P:Params):Obj:=(Obj.mk (.type "tuple") none (.seq #[] 0) #[])
noncomputable def o624_9 (P:Params):Obj:=(Obj.mk .none none (.fields #[]) #[])
noncomputable def o625_9 (P:Params):Obj:=(Obj.mk (.type "tuple") none (.seq #[(.str "saved" 1012),(.str "deps" 1013),(.str "world" 1014),(.str "checker_name" 1015),(.str "states" 1016),(.str "path" 1017)] 0) #[])
noncomputable def o626_9 (P:Params):Obj:=(Obj.mk (.type "tuple") none (.seq #[] 0) #[])
noncomputable def o627_9 (P:Params):Obj:=(Obj.mk .none none (.func (FuncData.mk "_law_saved" "_law_saved" (fa [24]) (fb [24]) (fs [24]) 0 [] .none .none .none .none none .none .none 0)) #[])
noncomputable def o628_9 (P:Params):Obj:=(Obj.mk (.type "code") none (.fields #[(.str "_law_saved" 1009),(.str "_law_saved" 1010),(.str "/claim/cut.py" 1011),(.int 443 0),(.int 4 0),(.int 0 0),(.int 0 0),(.int 3 0),(.ref 623),(.bool true),(.int 181 0),(.ref 624),.none,(.ref 625),(.ref 626),(.ref 627),(.int 1018 0),(.int 443 0),(.str "/claim/cut.py" 1019)]) #[])
noncomputable def o629_9 (P:Params):Obj:=(Obj.mk (.type "function") none (.func (FuncData.mk "_law_saved" "_law_saved" (fa [24]) (fb [24]) (fs [24]) 3 [] .none .none .none (.str "law_az0001_01" 958) none (.ref 628) .none 0)) #[])
noncomputable def o630_9 (P:Params):Obj:=(Obj.mk (.type "tuple") none (.seq #[] 0) #[])
noncomputable def o631_9 (P:Params):Obj:=(Obj.mk .none none (.fields #[]) #[])
noncomputable def o632_9 (P:Params):Obj:=(Obj.mk .none none (.func (FuncData.mk "_law_with_log" "_law_with_log" (fa [25]) (fb [25]) (fs [25]) 0 [] .none .none .none .none none .none .none 0)) #[])
noncomputable def o633_9 (P:Params):Obj:=(Obj.mk (.type "code") none (.fields #[(.str "_law_with_log" 1021),(.str "_law_with_log" 1022),(.str "/claim/cut.py" 1023),(.int 451 0),(.int 6 0),(.int 0 0),(.int 0 0),(.int 3 0),(.ref 630),(.bool true),(.int 181 0),(.ref 631),.none,.none,.none,(.ref 632),(.int 1024 0),(.int 451 0),(.str "/claim/cut.py" 1025)]) #[])
noncomputable def o634_9 (P:Params):Obj:=(Obj.mk (.type "function") none (.func (FuncData.mk "_law_with_log" "_law_with_log" (fa [25]) (fb [25]) (fs [25]) 3 [] .none .none .none (.str "law_az0001_01" 958) none (.ref 633) .none 0)) #[])
noncomputable def o635_9 (P:Params):Obj:=(Obj.mk (.type "tuple") none (.seq #[] 0) #[])
noncomputable def o636_9 (P:Params):Obj:=(Obj.mk .none none (.fields #[]) #[])
noncomputable def o637_9 (P:Params):Obj:=(Obj.mk .none none (.func (FuncData.mk "_law_without_log" "_law_without_log" (fa [26]) (fb [26]) (fs [26]) 0 [] .none .none .none .none none .none .none 0)) #[])
noncomputable def o638_9 (P:Params):Obj:=(Obj.mk (.type "code") none (.fields #[(.str "_law_without_log" 1027),(.str "_law_without_log" 1028),(.str "/claim/cut.py" 1029),(.int 464 0),(.int 6 0),(.int 0 0),(.int 0 0),(.int 3 0),(.ref 635),(.bool true),(.int 181 0),(.ref 636),.none,.none,.none,(.ref 637),(.int 1030 0),(.int 464 0),(.str "/claim/cut.py" 1031)]) #[])
noncomputable def o639_9 (P:Params):Obj:=(Obj.mk (.type "function") none (.func (FuncData.mk "_law_without_log" "_law_without_log" (fa [26]) (fb [26]) (fs [26]) 3 [] .none .none .none (.str "law_az0001_01" 958) none (.ref 638) .none 0)) #[])
noncomputable def o640_9 (P:Params):Obj:=(Obj.mk (.type "tuple") none (.seq #[] 0) #[])
noncomputable def o641_9 (P:Params):Obj:=(Obj.mk .none none (.fields #[]) #[])
noncomputable def o642_9 (P:Params):Obj:=(Obj.mk .none none (.func (FuncData.mk "_law_round" "_law_round" (fa [27]) (fb [27]) (fs [27]) 0 [] .none .none .none .none none .none .none 0)) #[])
noncomputable def o643_9 (P:Params):Obj:=(Obj.mk (.type "code") none (.fields #[(.str "_law_round" 1033),(.str "_law_round" 1034),(.str "/claim/cut.py" 1035),(.int 473 0),(.int 3 0),(.int 0 0),(.int 0 0),(.int 3 0),(.ref 640),(.bool true),(.int 181 0),(.ref 641),.none,.none,.none,(.ref 642),(.int 1036 0),(.int 473 0),(.str "/claim/cut.py" 1037)]) #[])
noncomputable def o644_9 (P:Params):Obj:=(Obj.mk (.type "function") none (.func (FuncData.mk "_law_round" "_law_round" (fa [27]) (fb [27]) (fs [27]) 3 [] .none .none .none (.str "law_az0001_01" 958) none (.ref 643) .none 0)) #[])
noncomputable def o645_9 (P:Params):Obj:=(Obj.mk (.type "tuple") none (.seq #[] 0) #[])
noncomputable def o646_9 (P:Params):Obj:=(Obj.mk .none none (.fields #[]) #[])
noncomputable def o647_9 (P:Params):Obj:=(Obj.mk (.type "tuple") none (.seq #[(.str "script" 1042),(.str "db" 1043),(.str "kept" 1044),(.str "number" 1045)] 0) #[])
noncomputable def o648_9 (P:Params):Obj:=(Obj.mk (.type "tuple") none (.seq #[] 0) #[])
noncomputable def o649_9 (P:Params):Obj:=(Obj.mk .none none (.func (FuncData.mk "law" "law" (fa [28]) (fb [28]) (fs [28]) 0 [] .none .none .none .none none .none .none 0)) #[])
noncomputable def o650_9 (P:Params):Obj:=(Obj.mk (.type "code") none (.fields #[(.str "law" 1039),(.str "law" 1040),(.str "/claim/cut.py" 1041),(.int 497 0),(.int 1 0),(.int 0 0),(.int 0 0),(.int 3 0),(.ref 645),(.bool true),(.int 181 0),(.ref 646),.none,(.ref 647),(.ref 648),(.ref 649),(.int 1046 0),(.int 497 0),(.str "/claim/cut.py" 1047)]) #[])
noncomputable def o651_9 (P:Params):Obj:=(Obj.mk (.type "function") none (.func (FuncData.mk "law" "law" (fa [28]) (fb [28]) (fs [28]) 3 [] .none .none .none (.str "law_az0001_01" 958) none (.ref 650) .none 0)) #[])
noncomputable def tr8 (P : Params) : BT := (.node (boot_o_0 P) (.node (boot_o_1 P) (.node (o3_9 P) (.node (boot_o_7 P) (.node (Ui P) (.node (Uv P) (.node (Wn P) (.node (Gl P) (.node (Og P) (.node (o511_7 P) .nil .nil) .nil) (.node (o383_6 P) (.node (o639_9 P) .nil .nil) .nil)) (.node (G1 P) (.node (Mt P) (.node (o575_8 P) .nil .nil) .nil) (.node (o447_7 P) .nil .nil))) (.node (Hs P) (.node (Ky P) (.node (O6 P) (.node (o543_8 P) .nil .nil) .nil) (.node (o415_6 P) .nil .nil)) (.node (Xh P) (.node (o351_5 P) (.node (o607_9 P) .nil .nil) .nil) (.node (o479_7 P) .nil .nil)))) (.node (U8 P) (.node (Wy P) (.node (Kj P) (.node (o271_5 P) (.node (o527_8 P) .nil .nil) .nil) (.node (o399_6 P) .nil .nil)) (.node (G5 P) (.node (o335_5 P) (.node (o591_8 P) .nil .nil) .nil) (.node (o463_7 P) .nil .nil))) (.node (Zw P) (.node (Vb P) (.node (Mh P) (.node (o559_8 P) .nil .nil) .nil) (.node (o431_7 P) .nil .nil)) (.node (Oa P) (.node (o367_5 P) (.node (o623_9 P) .nil .nil) .nil) (.node (o495_7 P) .nil .nil))))) (.node (Uo P) (.node (Hd P) (.node (Hl P) (.node (Kd P) (.node (On P) (.node (o519_7 P) .nil .nil) .nil) (.node (o391_6 P) (.node (o647_9 P) .nil .nil) .nil)) (.node (Vu P) (.node (Mz P) (.node (o583_8 P) .nil .nil) .nil) (.node (o455_7 P) .nil .nil))) (.node (Zb P) (.node (K5 P) (.node (o295_5 P) (.node (o551_8 P) .nil .nil) .nil) (.node (o423_7 P) .nil .nil)) (.node (Xo P) (.node (o359_5 P) (.node (o615_9 P) .nil .nil) .nil) (.node (o487_7 P) .nil .nil)))) (.node (Wg P) (.node (W4 P) (.node (Kr P) (.node (O0 P) (.node (o535_8 P) .nil .nil) .nil) (.node (o407_6 P) .nil .nil)) (.node (Xb P) (.node (o343_5 P) (.node (o599_8 P) .nil .nil) .nil) (.node (o471_7 P) .nil .nil))) (.node (Z2 P) (.node (Vj P) (.node (Mn P) (.node (o567_8 P) .nil .nil) .nil) (.node (o439_7 P) .nil .nil)) (.node (X2 P) (.node (o375_6 P) (.node (o631_9 P) .nil .nil) .nil) (.node (o503_7 P) .nil .nil)))))) (.node (Zf P) (.node (Ha P) (.node (Uz P) (.node (Hk P) (.node (Ka P) (.node (Oj P) (.node (o515_7 P) .nil .nil) .nil) (.node (o387_6 P) (.node (o643_9 P) .nil .nil) .nil)) (.node (G2 P) (.node (Mw P) (.node (o579_8 P) .nil .nil) .nil) (.node (o451_7 P) .nil .nil))) (.node (Gd P) (.node (K2 P) (.node (O9 P) (.node (o547_8 P) .nil .nil) .nil) (.node (o419_7 P) .nil .nil)) (.node (Xk P) (.node (o355_5 P) (.node (o611_9 P) .nil .nil) .nil) (.node (o483_7 P) .nil .nil)))) (.node (Wb P) (.node (W1 P) (.node (Km P) (.node (Ox P) (.node (o531_8 P) .nil .nil) .nil) (.node (o403_6 P) .nil .nil)) (.node (G8 P) (.node (M7 P) (.node (o595_8 P) .nil .nil) .nil) (.node (o467_7 P) .nil .nil))) (.node (Zz P) (.node (Vf P) (.node (o307_5 P) (.node (o563_8 P) .nil .nil) .nil) (.node (o435_7 P) .nil .nil)) (.node (Xy P) (.node (o371_6 P) (.node (o627_9 P) .nil .nil) .nil) (.node (o499_7 P) .nil .nil))))) (.node (Ur P) (.node (U5 P) (.node (Wv P) (.node (Kg P) (.node (o267_5 P) (.node (o523_7 P) .nil .nil) .nil) (.node (o395_6 P) (.node (o651_9 P) .nil .nil) .nil)) (.node (Vy P) (.node (o331_5 P) (.node (o587_8 P) .nil .nil) .nil) (.node (o459_7 P) .nil .nil))) (.node (Zt P) (.node (K8 P) (.node (o299_5 P) (.node (o555_8 P) .nil .nil) .nil) (.node (o427_7 P) .nil .nil)) (.node (Xr P) (.node (o363_5 P) (.node (o619_9 P) .nil .nil) .nil) (.node (o491_7 P) .nil .nil)))) (.node (Wj P) (.node (W7 P) (.node (Kv P) (.node (O3 P) (.node (o539_8 P) .nil .nil) .nil) (.node (o411_6 P) .nil .nil)) (.node (Xe P) (.node (o347_5 P) (.node (o603_8 P) .nil .nil) .nil) (.node (o475_7 P) .nil .nil))) (.node (Gk P) (.node (Vm P) (.node (Mq P) (.node (o571_8 P) .nil .nil) .nil) (.node (o443_7 P) .nil .nil)) (.node (Od P) (.node (o379_6 P) (.node (o635_9 P) .nil .nil) .nil) (.node (o507_7 P) .nil .nil))))))) (.node (boot_o_5 P) (.node (boot_o_9 P) (.node (Uj P) (.node (Ux P) (.node (Wo P) (.node (Z9 P) (.node (o257_5 P) (.node (o513_7 P) .nil .nil) .nil) (.node (o385_6 P) (.node (o641_9 P) .nil .nil) .nil)) (.node (Vq P) (.node (o321_5 P) (.node (o577_8 P) .nil .nil) .nil) (.node (o449_7 P) .nil .nil))) (.node (Gb P) (.node (K1 P) (.node (O7 P) (.node (o545_8 P) .nil .nil) .nil) (.node (o417_7 P) .nil .nil)) (.node (H6 P) (.node (o353_5 P) (.node (o609_9 P) .nil .nil) .nil) (.node (o481_7 P) .nil .nil)))) (.node (Wa P) (.node (Ho P) (.node (Kk P) (.node (Ow P) (.node (o529_8 P) .nil .nil) .nil) (.node (o401_6 P) .nil .nil)) (.node (G7 P) (.node (M6 P) (.node (o593_8 P) .nil .nil) .nil) (.node (o465_7 P) .nil .nil))) (.node (Gh P) (.node (Vd P) (.node (Mj P) (.node (o561_8 P) .nil .nil) .nil) (.node (o433_7 P) .nil .nil)) (.node (Xw P) (.node (o369_6 P) (.node (o625_9 P) .nil .nil) .nil) (.node (o497_7 P) .nil .nil))))) (.node (Uq P) (.node (U3 P) (.node (Wu P) (.node (Go P) (.node (Oo P) (.node (o521_7 P) .nil .nil) .nil) (.node (o393_6 P) (.node (o649_9 P) .nil .nil) .nil)) (.node (Vw P) (.node (M0 P) (.node (o585_8 P) .nil .nil) .nil) (.node (o457_7 P) .nil .nil))) (.node (Zr P) (.node (Gx P) (.node (Md P) (.node (o553_8 P) .nil .nil) .nil) (.node (o425_7 P) .nil .nil)) (.node (Xp P) (.node (o361_5 P) (.node (o617_9 P) .nil .nil) .nil) (.node (o489_7 P) .nil .nil)))) (.node (Hh P) (.node (W5 P) (.node (Kt P) (.node (o281_5 P) (.node (o537_8 P) .nil .nil) .nil) (.node (o409_6 P) .nil .nil)) (.node (H3 P) (.node (o345_5 P) (.node (o601_8 P) .nil .nil) .nil) (.node (o473_7 P) .nil .nil))) (.node (Z3 P) (.node (Vk P) (.node (Mp P) (.node (o569_8 P) .nil .nil) .nil) (.node (o441_7 P) .nil .nil)) (.node (Ob P) (.node (o377_6 P) (.node (o633_9 P) .nil .nil) .nil) (.node (o505_7 P) .nil .nil)))))) (.node (Zg P) (.node (Um P) (.node (U0 P) (.node (Wr P) (.node (Kc P) (.node (Ol P) (.node (o517_7 P) .nil .nil) .nil) (.node (o389_6 P) (.node (o645_9 P) .nil .nil) .nil)) (.node (Vt P) (.node (Mx P) (.node (o581_8 P) .nil .nil) .nil) (.node (o453_7 P) .nil .nil))) (.node (Y9 P) (.node (Gw P) (.node (Ma P) (.node (o549_8 P) .nil .nil) .nil) (.node (o421_7 P) .nil .nil)) (.node (H7 P) (.node (o357_5 P) (.node (o613_9 P) .nil .nil) .nil) (.node (o485_7 P) .nil .nil)))) (.node (Hg P) (.node (Hp P) (.node (Ko P) (.node (Oz P) (.node (o533_8 P) .nil .nil) .nil) (.node (o405_6 P) .nil .nil)) (.node (Xa P) (.node (o341_5 P) (.node (o597_8 P) .nil .nil) .nil) (.node (o469_7 P) .nil .nil))) (.node (Z0 P) (.node (Vh P) (.node (Mm P) (.node (o565_8 P) .nil .nil) .nil) (.node (o437_7 P) .nil .nil)) (.node (X0 P) (.node (o373_6 P) (.node (o629_9 P) .nil .nil) .nil) (.node (o501_7 P) .nil .nil))))) (.node (Ut P) (.node (U7 P) (.node (Wx P) (.node (Gq P) (.node (Ot P) (.node (o525_7 P) .nil .nil) .nil) (.node (o397_6 P) .nil .nil)) (.node (V0 P) (.node (M3 P) (.node (o589_8 P) .nil .nil) .nil) (.node (o461_7 P) .nil .nil))) (.node (Gg P) (.node (K9 P) (.node (Mg P) (.node (o557_8 P) .nil .nil) .nil) (.node (o429_7 P) .nil .nil)) (.node (Xs P) (.node (o365_5 P) (.node (o621_9 P) .nil .nil) .nil) (.node (o493_7 P) .nil .nil)))) (.node (Wl P) (.node (W8 P) (.node (Kx P) (.node (o285_5 P) (.node (o541_8 P) .nil .nil) .nil) (.node (o413_6 P) .nil .nil)) (.node (Xg P) (.node (o349_5 P) (.node (o605_8 P) .nil .nil) .nil) (.node (o477_7 P) .nil .nil))) (.node (Z6 P) (.node (Vn P) (.node (o317_5 P) (.node (o573_8 P) .nil .nil) .nil) (.node (o445_7 P) .nil .nil)) (.node (o253_5 P) (.node (o381_6 P) (.node (o637_9 P) .nil .nil) .nil) (.node (o509_7 P) .nil .nil)))))))) (.node (o2_6 P) (.node (boot_o_4 P) (.node (boot_o_8 P) (.node (X9 P) (.node (Uw P) (.node (Hj P) (.node (Z8 P) (.node (Oh P) (.node (o512_7 P) .nil .nil) .nil) (.node (o384_6 P) (.node (o640_9 P) .nil .nil) .nil)) (.node (Vp P) (.node (Mu P) (.node (o576_8 P) .nil .nil) .nil) (.node (o448_7 P) .nil .nil))) (.node (Ga P) (.node (Kz P) (.node (o288_5 P) (.node (o544_8 P) .nil .nil) .nil) (.node (o416_7 P) .nil .nil)) (.node (Xi P) (.node (o352_5 P) (.node (o608_9 P) .nil .nil) .nil) (.node (o480_7 P) .nil .nil)))) (.node (U9 P) (.node (Wz P) (.node (Gr P) (.node (Ov P) (.node (o528_8 P) .nil .nil) .nil) (.node (o400_6 P) .nil .nil)) (.node (G6 P) (.node (M5 P) (.node (o592_8 P) .nil .nil) .nil) (.node (o464_7 P) .nil .nil))) (.node (Zx P) (.node (Vc P) (.node (Mi P) (.node (o560_8 P) .nil .nil) .nil) (.node (o432_7 P) .nil .nil)) (.node (Xv P) (.node (o368_6 P) (.node (o624_9 P) .nil .nil) .nil) (.node (o496_7 P) .nil .nil))))) (.node (Up P) (.node (U2 P) (.node (Wt P) (.node (Ke P) (.node (o264_5 P) (.node (o520_7 P) .nil .nil) .nil) (.node (o392_6 P) (.node (o648_9 P) .nil .nil) .nil)) (.node (Vv P) (.node (o328_5 P) (.node (o584_8 P) .nil .nil) .nil) (.node (o456_7 P) .nil .nil))) (.node (Zc P) (.node (K6 P) (.node (Mc P) (.node (o552_8 P) .nil .nil) .nil) (.node (o424_7 P) .nil .nil)) (.node (H8 P) (.node (o360_5 P) (.node (o616_9 P) .nil .nil) .nil) (.node (o488_7 P) .nil .nil)))) (.node (Wh P) (.node (Hq P) (.node (Ks P) (.node (O1 P) (.node (o536_8 P) .nil .nil) .nil) (.node (o408_6 P) .nil .nil)) (.node (Xc P) (.node (o344_5 P) (.node (o600_8 P) .nil .nil) .nil) (.node (o472_7 P) .nil .nil))) (.node (Gj P) (.node (Gz P) (.node (Mo P) (.node (o568_8 P) .nil .nil) .nil) (.node (o440_7 P) .nil .nil)) (.node (X3 P) (.node (o376_6 P) (.node (o632_9 P) .nil .nil) .nil) (.node (o504_7 P) .nil .nil)))))) (.node (o12_9 P) (.node (Ul P) (.node (Hc P) (.node (Wq P) (.node (Kb P) (.node (o260_5 P) (.node (o516_7 P) .nil .nil) .nil) (.node (o388_6 P) (.node (o644_9 P) .nil .nil) .nil)) (.node (Vs P) (.node (o324_5 P) (.node (o580_8 P) .nil .nil) .nil) (.node (o452_7 P) .nil .nil))) (.node (Y8 P) (.node (K3 P) (.node (o292_5 P) (.node (o548_8 P) .nil .nil) .nil) (.node (o420_7 P) .nil .nil)) (.node (Xl P) (.node (o356_5 P) (.node (o612_9 P) .nil .nil) .nil) (.node (o484_7 P) .nil .nil)))) (.node (Wc P) (.node (W2 P) (.node (Kn P) (.node (Oy P) (.node (o532_8 P) .nil .nil) .nil) (.node (o404_6 P) .nil .nil)) (.node (G9 P) (.node (o340_5 P) (.node (o596_8 P) .nil .nil) .nil) (.node (o468_7 P) .nil .nil))) (.node (Gi P) (.node (Vg P) (.node (Ml P) (.node (o564_8 P) .nil .nil) .nil) (.node (o436_7 P) .nil .nil)) (.node (Xz P) (.node (o372_6 P) (.node (o628_9 P) .nil .nil) .nil) (.node (o500_7 P) .nil .nil))))) (.node (Us P) (.node (U6 P) (.node (Ww P) (.node (Kh P) (.node (Os P) (.node (o524_7 P) .nil .nil) .nil) (.node (o396_6 P) .nil .nil)) (.node (Vz P) (.node (M2 P) (.node (o588_8 P) .nil .nil) .nil) (.node (o460_7 P) .nil .nil))) (.node (Zu P) (.node (Gy P) (.node (Mf P) (.node (o556_8 P) .nil .nil) .nil) (.node (o428_7 P) .nil .nil)) (.node (H9 P) (.node (o364_5 P) (.node (o620_9 P) .nil .nil) .nil) (.node (o492_7 P) .nil .nil)))) (.node (Hi P) (.node (Hr P) (.node (Kw P) (.node (O4 P) (.node (o540_8 P) .nil .nil) .nil) (.node (o412_6 P) .nil .nil)) (.node (Xf P) (.node (o348_5 P) (.node (o604_8 P) .nil .nil) .nil) (.node (o476_7 P) .nil .nil))) (.node (Z5 P) (.node (G0 P) (.node (Mr P) (.node (o572_8 P) .nil .nil) .nil) (.node (o444_7 P) .nil .nil)) (.node (Oe P) (.node (o380_6 P) (.node (o636_9 P) .nil .nil) .nil) (.node (o508_7 P) .nil .nil))))))) (.node (boot_o_6 P) (.node (boot_o_10 P) (.node (Uk P) (.node (Uy P) (.node (Wp P) (.node (Gm P) (.node (Oi P) (.node (o514_7 P) .nil .nil) .nil) (.node (o386_6 P) (.node (o642_9 P) .nil .nil) .nil)) (.node (Vr P) (.node (Mv P) (.node (o578_8 P) .nil .nil) .nil) (.node (o450_7 P) .nil .nil))) (.node (Gc P) (.node (Gv P) (.node (O8 P) (.node (o546_8 P) .nil .nil) .nil) (.node (o418_7 P) .nil .nil)) (.node (Xj P) (.node (o354_5 P) (.node (o610_9 P) .nil .nil) .nil) (.node (o482_7 P) .nil .nil)))) (.node (Hf P) (.node (W0 P) (.node (Kl P) (.node (o274_5 P) (.node (o530_8 P) .nil .nil) .nil) (.node (o402_6 P) .nil .nil)) (.node (H1 P) (.node (o338_5 P) (.node (o594_8 P) .nil .nil) .nil) (.node (o466_7 P) .nil .nil))) (.node (Zy P) (.node (Ve P) (.node (Mk P) (.node (o562_8 P) .nil .nil) .nil) (.node (o434_7 P) .nil .nil)) (.node (Xx P) (.node (o370_6 P) (.node (o626_9 P) .nil .nil) .nil) (.node (o498_7 P) .nil .nil))))) (.node (Hb P) (.node (U4 P) (.node (Hm P) (.node (Kf P) (.node (Oq P) (.node (o522_7 P) .nil .nil) .nil) (.node (o394_6 P) (.node (o650_9 P) .nil .nil) .nil)) (.node (Vx P) (.node (M1 P) (.node (o586_8 P) .nil .nil) .nil) (.node (o458_7 P) .nil .nil))) (.node (Zs P) (.node (K7 P) (.node (Me P) (.node (o554_8 P) .nil .nil) .nil) (.node (o426_7 P) .nil .nil)) (.node (Xq P) (.node (o362_5 P) (.node (o618_9 P) .nil .nil) .nil) (.node (o490_7 P) .nil .nil)))) (.node (Wi P) (.node (W6 P) (.node (Ku P) (.node (O2 P) (.node (o538_8 P) .nil .nil) .nil) (.node (o410_6 P) .nil .nil)) (.node (Xd P) (.node (o346_5 P) (.node (o602_8 P) .nil .nil) .nil) (.node (o474_7 P) .nil .nil))) (.node (Z4 P) (.node (Vl P) (.node (o314_5 P) (.node (o570_8 P) .nil .nil) .nil) (.node (o442_7 P) .nil .nil)) (.node (Oc P) (.node (o378_6 P) (.node (o634_9 P) .nil .nil) .nil) (.node (o506_7 P) .nil .nil)))))) (.node (Zh P) (.node (Un P) (.node (U1 P) (.node (Ws P) (.node (Gn P) (.node (Om P) (.node (o518_7 P) .nil .nil) .nil) (.node (o390_6 P) (.node (o646_9 P) .nil .nil) .nil)) (.node (G3 P) (.node (My P) (.node (o582_8 P) .nil .nil) .nil) (.node (o454_7 P) .nil .nil))) (.node (Za P) (.node (K4 P) (.node (Mb P) (.node (o550_8 P) .nil .nil) .nil) (.node (o422_7 P) .nil .nil)) (.node (Xm P) (.node (o358_5 P) (.node (o614_9 P) .nil .nil) .nil) (.node (o486_7 P) .nil .nil)))) (.node (Wf P) (.node (W3 P) (.node (Kq P) (.node (o278_5 P) (.node (o534_8 P) .nil .nil) .nil) (.node (o406_6 P) .nil .nil)) (.node (H2 P) (.node (o342_5 P) (.node (o598_8 P) .nil .nil) .nil) (.node (o470_7 P) .nil .nil))) (.node (Z1 P) (.node (Vi P) (.node (o310_5 P) (.node (o566_8 P) .nil .nil) .nil) (.node (o438_7 P) .nil .nil)) (.node (X1 P) (.node (o374_6 P) (.node (o630_9 P) .nil .nil) .nil) (.node (o502_7 P) .nil .nil))))) (.node (Uu P) (.node (He P) (.node (Hn P) (.node (Ki P) (.node (Ou P) (.node (o526_7 P) .nil .nil) .nil) (.node (o398_8 P) .nil .nil)) (.node (G4 P) (.node (M4 P) (.node (o590_8 P) .nil .nil) .nil) (.node (o462_7 P) .nil .nil))) (.node (Zv P) (.node (Va P) (.node (o302_5 P) (.node (o558_8 P) .nil .nil) .nil) (.node (o430_7 P) .nil .nil)) (.node (Xu P) (.node (o366_5 P) (.node (o622_9 P) .nil .nil) .nil) (.node (o494_7 P) .nil .nil)))) (.node (Wm P) (.node (W9 P) (.node (Gu P) (.node (O5 P) (.node (o542_8 P) .nil .nil) .nil) (.node (o414_6 P) .nil .nil)) (.node (H5 P) (.node (o350_5 P) (.node (o606_9 P) .nil .nil) .nil) (.node (o478_7 P) .nil .nil))) (.node (Z7 P) (.node (Vo P) (.node (Ms P) (.node (o574_8 P) .nil .nil) .nil) (.node (o446_7 P) .nil .nil)) (.node (Of P) (.node (o382_6 P) (.node (o638_9 P) .nil .nil) .nil) (.node (o510_7 P) .nil .nil)))))))))
noncomputable def lf8 : Life := (Life.mk [] [] [] 0 [] [] Bool.false #[] [] 0 Bool.false Bool.false Bool.false 0 [2000,10,10] Bool.false 0 Bool.true [] [] 0 Bool.false)
noncomputable def dr8 : Drawn := (Drawn.mk 0 0 0 0)
noncomputable def st8 (w : World) (os : OsState) : SharedT := ⟨tr8 w.params,652,lf8,#[],dr8,1049,os⟩
noncomputable def gr8 : List Stmt := ((behindTheImports pg).drop 21).take 8
theorem seg8 : ∀ (w : World) (os : OsState),segRunT treeTable pg w 11 annE 1 229 (st7 w os) (piecesOf gr8 ev cE ⟨395,0,398,26⟩ [topFrame qE]) = some (.next,st8 w os,cE,⟨497,0,503,15⟩) := by intro w os; kernel_rfl

noncomputable def hpZ (P : Params) : Heap := ⟨Array.mk [boot_o_0 P,boot_o_1 P,o2_6 P,o3_9 P,boot_o_4 P,boot_o_5 P,boot_o_6 P,boot_o_7 P,boot_o_8 P,boot_o_9 P,boot_o_10 P,Zf P,o12_9 P,Zg P,Zh P,Ui P,X9 P,Uj P,Uk P,Ha P,Ul P,Um P,Un P,Uo P,Up P,Uq P,Hb P,Ur P,Us P,Ut P,Uu P,Uv P,Uw P,Ux P,Uy P,Uz P,Hc P,U0 P,U1 P,Hd P,U2 P,U3 P,U4 P,U5 P,U6 P,U7 P,He P,U8 P,U9 P,Wa P,Hf P,Wb P,Wc P,Hg P,Wf P,Wg P,Wh P,Hh P,Wi P,Wj P,Hi P,Wl P,Wm P,Wn P,Hj P,Wo P,Wp P,Hk P,Wq P,Wr P,Ws P,Hl P,Wt P,Wu P,Hm P,Wv P,Ww P,Wx P,Hn P,Wy P,Wz P,Ho P,W0 P,W1 P,W2 P,Hp P,W3 P,W4 P,Hq P,W5 P,W6 P,W7 P,Hr P,W8 P,W9 P,Hs P,Ga P,Gb P,Gc P,Gd P,Y8 P,Y9 P,Za P,Zb P,Zc P,Zr P,Zs P,Zt P,Zu P,Gg P,Zv P,Zw P,Zx P,Gh P,Zy P,Zz P,Gi P,Z0 P,Z1 P,Z2 P,Gj P,Z3 P,Z4 P,Gk P,Z5 P,Z6 P,Z7 P,Gl P,Z8 P,Z9 P,Gm P,Ka P,Kb P,Kc P,Gn P,Kd P,Ke P,Go P,Kf P,Kg P,Kh P,Gq P,Ki P,Kj P,Gr P,Kk P,Kl P,Km P,Kn P,Ko P,Kq P,Kr P,Ks P,Kt P,Ku P,Kv P,Kw P,Kx P,Gu P,Ky P,Kz P,K1 P,Gv P,K2 P,K3 P,Gw P,K4 P,K5 P,K6 P,Gx P,K7 P,K8 P,Gy P,K9 P,Va P,Vb P,Vc P,Vd P,Ve P,Vf P,Vg P,Vh P,Vi P,Vj P,Gz P,Vk P,Vl P,Vm P,G0 P,Vn P,Vo P,G1 P,Vp P,Vq P,Vr P,G2 P,Vs P,Vt P,G3 P,Vu P,Vv P,Vw P,Vx P,Vy P,Vz P,V0 P,G4 P,G5 P,G6 P,G7 P,H1 P,G8 P,G9 P,Xa P,H2 P,Xb P,Xc P,H3 P,Xd P,Xe P,Xf P,Xg P,H5 P,Xh P,Xi P,H6 P,Xj P,Xk P,Xl P,H7 P,Xm P,Xo P,H8 P,Xp P,Xq P,Xr P,H9 P,Xs P,Xu P,Oa P,Xv P,Xw P,Xx P,Xy P,Xz P,X0 P,X1 P,X2 P,X3 P,Ob P,Oc P,Od P,Oe P,o253_5 P,Of P,Og P,Oh P,o257_5 P,Oi P,Oj P,o260_5 P,Ol P,Om P,On P,o264_5 P,Oo P,Oq P,o267_5 P,Os P,Ot P,Ou P,o271_5 P,Ov P,Ow P,o274_5 P,Ox P,Oy P,Oz P,o278_5 P,O0 P,O1 P,o281_5 P,O2 P,O3 P,O4 P,o285_5 P,O5 P,O6 P,o288_5 P,O7 P,O8 P,O9 P,o292_5 P,Ma P,Mb P,o295_5 P,Mc P,Md P,Me P,o299_5 P,Mf P,Mg P,o302_5 P,Mh P,Mi P,Mj P,Mk P,o307_5 P,Ml P,Mm P,o310_5 P,Mn P,Mo P,Mp P,o314_5 P,Mq P,Mr P,o317_5 P,Ms P,Mt P,Mu P,o321_5 P,Mv P,Mw P,o324_5 P,Mx P,My P,Mz P,o328_5 P,M0 P,M1 P,o331_5 P,M2 P,M3 P,M4 P,o335_5 P,M5 P,M6 P,o338_5 P,M7 P,o340_5 P,o341_5 P,o342_5 P,o343_5 P,o344_5 P,o345_5 P,o346_5 P,o347_5 P,o348_5 P,o349_5 P,o350_5 P,o351_5 P,o352_5 P,o353_5 P,o354_5 P,o355_5 P,o356_5 P,o357_5 P,o358_5 P,o359_5 P,o360_5 P,o361_5 P,o362_5 P,o363_5 P,o364_5 P,o365_5 P,o366_5 P,o367_5 P,o368_6 P,o369_6 P,o370_6 P,o371_6 P,o372_6 P,o373_6 P,o374_6 P,o375_6 P,o376_6 P,o377_6 P,o378_6 P,o379_6 P,o380_6 P,o381_6 P,o382_6 P,o383_6 P,o384_6 P,o385_6 P,o386_6 P,o387_6 P,o388_6 P,o389_6 P,o390_6 P,o391_6 P,o392_6 P,o393_6 P,o394_6 P,o395_6 P,o396_6 P,o397_6 P,o398_8 P,o399_6 P,o400_6 P,o401_6 P,o402_6 P,o403_6 P,o404_6 P,o405_6 P,o406_6 P,o407_6 P,o408_6 P,o409_6 P,o410_6 P,o411_6 P,o412_6 P,o413_6 P,o414_6 P,o415_6 P,o416_7 P,o417_7 P,o418_7 P,o419_7 P,o420_7 P,o421_7 P,o422_7 P,o423_7 P,o424_7 P,o425_7 P,o426_7 P,o427_7 P,o428_7 P,o429_7 P,o430_7 P,o431_7 P,o432_7 P,o433_7 P,o434_7 P,o435_7 P,o436_7 P,o437_7 P,o438_7 P,o439_7 P,o440_7 P,o441_7 P,o442_7 P,o443_7 P,o444_7 P,o445_7 P,o446_7 P,o447_7 P,o448_7 P,o449_7 P,o450_7 P,o451_7 P,o452_7 P,o453_7 P,o454_7 P,o455_7 P,o456_7 P,o457_7 P,o458_7 P,o459_7 P,o460_7 P,o461_7 P,o462_7 P,o463_7 P,o464_7 P,o465_7 P,o466_7 P,o467_7 P,o468_7 P,o469_7 P,o470_7 P,o471_7 P,o472_7 P,o473_7 P,o474_7 P,o475_7 P,o476_7 P,o477_7 P,o478_7 P,o479_7 P,o480_7 P,o481_7 P,o482_7 P,o483_7 P,o484_7 P,o485_7 P,o486_7 P,o487_7 P,o488_7 P,o489_7 P,o490_7 P,o491_7 P,o492_7 P,o493_7 P,o494_7 P,o495_7 P,o496_7 P,o497_7 P,o498_7 P,o499_7 P,o500_7 P,o501_7 P,o502_7 P,o503_7 P,o504_7 P,o505_7 P,o506_7 P,o507_7 P,o508_7 P,o509_7 P,o510_7 P,o511_7 P,o512_7 P,o513_7 P,o514_7 P,o515_7 P,o516_7 P,o517_7 P,o518_7 P,o519_7 P,o520_7 P,o521_7 P,o522_7 P,o523_7 P,o524_7 P,o525_7 P,o526_7 P,o527_8 P,o528_8 P,o529_8 P,o530_8 P,o531_8 P,o532_8 P,o533_8 P,o534_8 P,o535_8 P,o536_8 P,o537_8 P,o538_8 P,o539_8 P,o540_8 P,o541_8 P,o542_8 P,o543_8 P,o544_8 P,o545_8 P,o546_8 P,o547_8 P,o548_8 P,o549_8 P,o550_8 P,o551_8 P,o552_8 P,o553_8 P,o554_8 P,o555_8 P,o556_8 P,o557_8 P,o558_8 P,o559_8 P,o560_8 P,o561_8 P,o562_8 P,o563_8 P,o564_8 P,o565_8 P,o566_8 P,o567_8 P,o568_8 P,o569_8 P,o570_8 P,o571_8 P,o572_8 P,o573_8 P,o574_8 P,o575_8 P,o576_8 P,o577_8 P,o578_8 P,o579_8 P,o580_8 P,o581_8 P,o582_8 P,o583_8 P,o584_8 P,o585_8 P,o586_8 P,o587_8 P,o588_8 P,o589_8 P,o590_8 P,o591_8 P,o592_8 P,o593_8 P,o594_8 P,o595_8 P,o596_8 P,o597_8 P,o598_8 P,o599_8 P,o600_8 P,o601_8 P,o602_8 P,o603_8 P,o604_8 P,o605_8 P,o606_9 P,o607_9 P,o608_9 P,o609_9 P,o610_9 P,o611_9 P,o612_9 P,o613_9 P,o614_9 P,o615_9 P,o616_9 P,o617_9 P,o618_9 P,o619_9 P,o620_9 P,o621_9 P,o622_9 P,o623_9 P,o624_9 P,o625_9 P,o626_9 P,o627_9 P,o628_9 P,o629_9 P,o630_9 P,o631_9 P,o632_9 P,o633_9 P,o634_9 P,o635_9 P,o636_9 P,o637_9 P,o638_9 P,o639_9 P,o640_9 P,o641_9 P,o642_9 P,o643_9 P,o644_9 P,o645_9 P,o646_9 P,o647_9 P,o648_9 P,o649_9 P,o650_9 P,o651_9 P],lf8⟩
noncomputable def stZ (w : World) (os : OsState) : Shared := ⟨hpZ w.params,#[],(Drawn.mk 0 0 0 0),1049,os⟩
theorem fin_go : ∀ (w : World) (os : OsState),topRun treeTable pg w 11 annE 2 (st8 w os).abs ⟨doneF .next,cE,⟨497,0,503,15⟩,[topFrame qE]⟩ = some (stZ w os) := by intro w os; kernel_rfl
noncomputable def KZ (P : Params) : Frag := [(0,boot_o_0 P),(1,boot_o_1 P),(2,o2_6 P),(3,o3_9 P),(4,boot_o_4 P),(5,boot_o_5 P),(6,boot_o_6 P),(7,boot_o_7 P),(9,boot_o_9 P),(10,boot_o_10 P),(11,Zf P),(13,Zg P),(14,Zh P),(15,Ui P),(17,Uj P),(18,Uk P),(20,Ul P),(21,Um P),(22,Un P),(23,Uo P),(24,Up P),(25,Uq P),(27,Ur P),(28,Us P),(29,Ut P),(30,Uu P),(31,Uv P),(32,Uw P),(33,Ux P),(34,Uy P),(35,Uz P),(37,U0 P),(38,U1 P),(40,U2 P),(41,U3 P),(42,U4 P),(43,U5 P),(44,U6 P),(45,U7 P),(47,U8 P),(48,U9 P),(49,Wa P),(51,Wb P),(52,Wc P),(54,Wf P),(55,Wg P),(56,Wh P),(58,Wi P),(59,Wj P),(61,Wl P),(62,Wm P),(63,Wn P),(65,Wo P),(66,Wp P),(68,Wq P),(69,Wr P),(70,Ws P),(72,Wt P),(73,Wu P),(75,Wv P),(76,Ww P),(77,Wx P),(79,Wy P),(80,Wz P),(82,W0 P),(83,W1 P),(84,W2 P),(86,W3 P),(87,W4 P),(89,W5 P),(90,W6 P),(91,W7 P),(93,W8 P),(94,W9 P),(96,Ga P),(97,Gb P),(98,Gc P),(99,Gd P),(100,Y8 P),(101,Y9 P),(102,Za P),(103,Zb P),(104,Zc P),(105,Zr P),(106,Zs P),(107,Zt P),(108,Zu P),(110,Zv P),(111,Zw P),(112,Zx P),(114,Zy P),(115,Zz P),(117,Z0 P),(118,Z1 P),(119,Z2 P),(121,Z3 P),(122,Z4 P),(124,Z5 P),(125,Z6 P),(126,Z7 P),(128,Z8 P),(129,Z9 P),(131,Ka P),(132,Kb P),(133,Kc P),(135,Kd P),(136,Ke P),(138,Kf P),(139,Kg P),(140,Kh P),(142,Ki P),(143,Kj P),(145,Kk P),(146,Kl P),(147,Km P),(148,Kn P),(149,Ko P),(150,Kq P),(151,Kr P),(152,Ks P),(153,Kt P),(154,Ku P),(155,Kv P),(156,Kw P),(157,Kx P),(159,Ky P),(160,Kz P),(161,K1 P),(163,K2 P),(164,K3 P),(166,K4 P),(167,K5 P),(168,K6 P),(170,K7 P),(171,K8 P),(173,K9 P),(174,Va P),(175,Vb P),(176,Vc P),(177,Vd P),(178,Ve P),(179,Vf P),(180,Vg P),(181,Vh P),(182,Vi P),(183,Vj P),(185,Vk P),(186,Vl P),(187,Vm P),(189,Vn P),(190,Vo P),(192,Vp P),(193,Vq P),(194,Vr P),(196,Vs P),(197,Vt P),(199,Vu P),(200,Vv P),(201,Vw P),(202,Vx P),(203,Vy P),(204,Vz P),(205,V0 P),(206,G4 P),(207,G5 P),(208,G6 P),(209,G7 P),(211,G8 P),(212,G9 P),(213,Xa P),(215,Xb P),(216,Xc P),(218,Xd P),(219,Xe P),(220,Xf P),(221,Xg P),(223,Xh P),(224,Xi P),(226,Xj P),(227,Xk P),(228,Xl P),(230,Xm P),(231,Xo P),(233,Xp P),(234,Xq P),(235,Xr P),(237,Xs P),(238,Xu P),(240,Xv P),(241,Xw P),(242,Xx P),(243,Xy P),(244,Xz P),(245,X0 P),(246,X1 P),(247,X2 P),(248,X3 P),(249,Ob P),(250,Oc P),(251,Od P),(252,Oe P),(254,Of P),(255,Og P),(256,Oh P),(258,Oi P),(259,Oj P),(261,Ol P),(262,Om P),(263,On P),(265,Oo P),(266,Oq P),(268,Os P),(269,Ot P),(270,Ou P),(272,Ov P),(273,Ow P),(275,Ox P),(276,Oy P),(277,Oz P),(279,O0 P),(280,O1 P),(282,O2 P),(283,O3 P),(284,O4 P),(286,O5 P),(287,O6 P),(289,O7 P),(290,O8 P),(291,O9 P),(293,Ma P),(294,Mb P),(296,Mc P),(297,Md P),(298,Me P),(300,Mf P),(301,Mg P),(303,Mh P),(304,Mi P),(305,Mj P),(306,Mk P),(308,Ml P),(309,Mm P),(311,Mn P),(312,Mo P),(313,Mp P),(315,Mq P),(316,Mr P),(318,Ms P),(319,Mt P),(320,Mu P),(322,Mv P),(323,Mw P),(325,Mx P),(326,My P),(327,Mz P),(329,M0 P),(330,M1 P),(332,M2 P),(333,M3 P),(334,M4 P),(336,M5 P),(337,M6 P),(339,M7 P),(340,o340_5 P),(341,o341_5 P),(343,o343_5 P),(344,o344_5 P),(346,o346_5 P),(347,o347_5 P),(348,o348_5 P),(350,o350_5 P),(351,o351_5 P),(353,o353_5 P),(354,o354_5 P),(355,o355_5 P),(356,o356_5 P),(359,o359_5 P),(360,o360_5 P),(361,o361_5 P),(362,o362_5 P),(363,o363_5 P),(364,o364_5 P),(365,o365_5 P),(366,o366_5 P),(367,o367_5 P),(368,o368_6 P),(369,o369_6 P),(370,o370_6 P),(371,o371_6 P),(373,o373_6 P),(374,o374_6 P),(375,o375_6 P),(377,o377_6 P),(378,o378_6 P),(380,o380_6 P),(381,o381_6 P),(382,o382_6 P),(384,o384_6 P),(385,o385_6 P),(387,o387_6 P),(388,o388_6 P),(389,o389_6 P),(391,o391_6 P),(392,o392_6 P),(394,o394_6 P),(395,o395_6 P),(396,o396_6 P),(397,o397_6 P),(398,o398_8 P),(399,o399_6 P),(400,o400_6 P),(401,o401_6 P),(402,o402_6 P),(403,o403_6 P),(404,o404_6 P),(405,o405_6 P),(406,o406_6 P),(408,o408_6 P),(409,o409_6 P),(410,o410_6 P),(411,o411_6 P),(412,o412_6 P),(413,o413_6 P),(414,o414_6 P),(415,o415_6 P),(416,o416_7 P),(417,o417_7 P),(418,o418_7 P),(419,o419_7 P),(421,o421_7 P),(422,o422_7 P),(423,o423_7 P),(424,o424_7 P),(425,o425_7 P),(426,o426_7 P),(427,o427_7 P),(428,o428_7 P),(429,o429_7 P),(430,o430_7 P),(432,o432_7 P),(433,o433_7 P),(435,o435_7 P),(436,o436_7 P),(437,o437_7 P),(439,o439_7 P),(440,o440_7 P),(442,o442_7 P),(443,o443_7 P),(444,o444_7 P),(446,o446_7 P),(447,o447_7 P),(449,o449_7 P),(450,o450_7 P),(451,o451_7 P),(453,o453_7 P),(454,o454_7 P),(456,o456_7 P),(457,o457_7 P),(458,o458_7 P),(460,o460_7 P),(461,o461_7 P),(463,o463_7 P),(464,o464_7 P),(465,o465_7 P),(467,o467_7 P),(468,o468_7 P),(470,o470_7 P),(471,o471_7 P),(472,o472_7 P),(474,o474_7 P),(475,o475_7 P),(477,o477_7 P),(478,o478_7 P),(479,o479_7 P),(481,o481_7 P),(482,o482_7 P),(484,o484_7 P),(485,o485_7 P),(486,o486_7 P),(488,o488_7 P),(489,o489_7 P),(491,o491_7 P),(492,o492_7 P),(493,o493_7 P),(494,o494_7 P),(496,o496_7 P),(497,o497_7 P),(499,o499_7 P),(500,o500_7 P),(501,o501_7 P),(504,o504_7 P),(505,o505_7 P),(506,o506_7 P),(508,o508_7 P),(509,o509_7 P),(511,o511_7 P),(512,o512_7 P),(513,o513_7 P),(515,o515_7 P),(516,o516_7 P),(518,o518_7 P),(519,o519_7 P),(520,o520_7 P),(521,o521_7 P),(522,o522_7 P),(523,o523_7 P),(524,o524_7 P),(525,o525_7 P),(526,o526_7 P),(527,o527_8 P),(528,o528_8 P),(529,o529_8 P),(530,o530_8 P),(532,o532_8 P),(533,o533_8 P),(534,o534_8 P),(535,o535_8 P),(537,o537_8 P),(538,o538_8 P),(540,o540_8 P),(541,o541_8 P),(542,o542_8 P),(544,o544_8 P),(545,o545_8 P),(547,o547_8 P),(548,o548_8 P),(549,o549_8 P),(551,o551_8 P),(552,o552_8 P),(554,o554_8 P),(555,o555_8 P),(556,o556_8 P),(558,o558_8 P),(559,o559_8 P),(561,o561_8 P),(562,o562_8 P),(563,o563_8 P),(565,o565_8 P),(566,o566_8 P),(568,o568_8 P),(569,o569_8 P),(570,o570_8 P),(572,o572_8 P),(573,o573_8 P),(575,o575_8 P),(576,o576_8 P),(577,o577_8 P),(578,o578_8 P),(579,o579_8 P),(580,o580_8 P),(581,o581_8 P),(582,o582_8 P),(583,o583_8 P),(584,o584_8 P),(585,o585_8 P),(586,o586_8 P),(587,o587_8 P),(588,o588_8 P),(589,o589_8 P),(590,o590_8 P),(591,o591_8 P),(592,o592_8 P),(594,o594_8 P),(595,o595_8 P),(597,o597_8 P),(598,o598_8 P),(599,o599_8 P),(601,o601_8 P),(602,o602_8 P),(604,o604_8 P),(605,o605_8 P),(606,o606_9 P),(609,o609_9 P),(610,o610_9 P),(611,o611_9 P),(613,o613_9 P),(614,o614_9 P),(616,o616_9 P),(617,o617_9 P),(618,o618_9 P),(621,o621_9 P),(622,o622_9 P),(623,o623_9 P),(625,o625_9 P),(626,o626_9 P),(628,o628_9 P),(629,o629_9 P),(630,o630_9 P),(633,o633_9 P),(634,o634_9 P),(635,o635_9 P),(638,o638_9 P),(639,o639_9 P),(640,o640_9 P),(643,o643_9 P),(644,o644_9 P),(645,o645_9 P),(647,o647_9 P),(648,o648_9 P),(650,o650_9 P),(651,o651_9 P)]
noncomputable def asZ : List Addr := [0,1,2,3,4,5,6,7,9,10,11,13,14,15,17,18,20,21,22,23,24,25,27,28,29,30,31,32,33,34,35,37,38,40,41,42,43,44,45,47,48,49,51,52,54,55,56,58,59,61,62,63,65,66,68,69,70,72,73,75,76,77,79,80,82,83,84,86,87,89,90,91,93,94,96,97,98,99,100,101,102,103,104,105,106,107,108,110,111,112,114,115,117,118,119,121,122,124,125,126,128,129,131,132,133,135,136,138,139,140,142,143,145,146,147,148,149,150,151,152,153,154,155,156,157,159,160,161,163,164,166,167,168,170,171,173,174,175,176,177,178,179,180,181,182,183,185,186,187,189,190,192,193,194,196,197,199,200,201,202,203,204,205,206,207,208,209,211,212,213,215,216,218,219,220,221,223,224,226,227,228,230,231,233,234,235,237,238,240,241,242,243,244,245,246,247,248,249,250,251,252,254,255,256,258,259,261,262,263,265,266,268,269,270,272,273,275,276,277,279,280,282,283,284,286,287,289,290,291,293,294,296,297,298,300,301,303,304,305,306,308,309,311,312,313,315,316,318,319,320,322,323,325,326,327,329,330,332,333,334,336,337,339,340,341,343,344,346,347,348,350,351,353,354,355,356,359,360,361,362,363,364,365,366,367,368,369,370,371,373,374,375,377,378,380,381,382,384,385,387,388,389,391,392,394,395,396,397,398,399,400,401,402,403,404,405,406,408,409,410,411,412,413,414,415,416,417,418,419,421,422,423,424,425,426,427,428,429,430,432,433,435,436,437,439,440,442,443,444,446,447,449,450,451,453,454,456,457,458,460,461,463,464,465,467,468,470,471,472,474,475,477,478,479,481,482,484,485,486,488,489,491,492,493,494,496,497,499,500,501,504,505,506,508,509,511,512,513,515,516,518,519,520,521,522,523,524,525,526,527,528,529,530,532,533,534,535,537,538,540,541,542,544,545,547,548,549,551,552,554,555,556,558,559,561,562,563,565,566,568,569,570,572,573,575,576,577,578,579,580,581,582,583,584,585,586,587,588,589,590,591,592,594,595,597,598,599,601,602,604,605,606,609,610,611,613,614,616,617,618,621,622,623,625,626,628,629,630,633,634,635,638,639,640,643,644,645,647,648,650,651]
theorem asZ_eq : ∀ P,asZ = (KZ P).map (·.1) := by intro P; kernel_rfl

end
end Mine

open PySem PySem.W PyProof.Rows
set_option Elab.async false
set_option maxRecDepth 1000000
set_option maxHeartbeats 0
set_option autoImplicit false
namespace Mine
def vw : Program := { PySem.Challenge.pw_az0001_01 with main := { PySem.Challenge.pw_az0001_01.main with body := (PySem.Challenge.pw_az0001_01.main.body.zipIdx.filter fun x => !([1,11,13,16].contains x.2)).map (·.1) } }
def lo : List Str := ["FileChangedChecker","MD5Checker","TimestampChecker","Task","result_dep","_law_files","_law_uptodate"]
abbrev rr := PySem.Challenge.rw_az0001_01.row.toRowW
noncomputable def Xt01 : Shared → Bool := fun s => xlAt vw [] s && recOk (RowW.records rr) s
noncomputable def HK : Hook := kHook KZ asZ asZ_eq
theorem size01 : ∀ w : World,((boot_heap w.params).isNs mainGlobals && (Array.mk [] : Array GenState).size == 0,(boot_heap w.params).objs.size,(boot_heap w.params).nsMap mainGlobals "__annotations__") = (true,11,annE) := by intro w; kernel_rfl
theorem body01 : behindTheImports pg = gr1 ++ (gr2 ++ (gr3 ++ (gr4 ++ (gr5 ++ (gr6 ++ (gr7 ++ (gr8 ++ []))))))) := by kernel_rfl
theorem run01 (w : World) (os : OsState) : topRun treeTable pg w 11 annE (12 + (1 + (679 + (948 + (326 + (678 + (503 + (652 + (531 + (229 + 2)))))))))) ⟨boot_heap w.params,Array.mk [],boot_drawn,boot_toks,os⟩ (topStub pg) = some (stZ w os) := by
  refine go_top (pre_go w os) (piece_block (block_go w os) ?_)
  rw [body01]
  exact piece_app (segRun_of (seg1 w os)) (piece_app (segRun_of (seg2 w os)) (piece_app (segRun_of (seg3 w os)) (piece_app (segRun_of (seg4 w os)) (piece_app (segRun_of (seg5 w os)) (piece_app (segRun_of (seg6 w os)) (piece_app (segRun_of (seg7 w os)) (piece_app (segRun_of (seg8 w os)) (piece_nil (fin_go w os)))))))))
theorem looks01 : ∀ w : World,(fun os => ((staticsOk (importedModules pg.main.body) (boot_heap w.params) (hpZ w.params) && namesBound pg (hpZ w.params) && gensDone (stZ w os) && laidKept (boot_heap w.params) (hpZ w.params)),
        openSeen vw lo (importedModules pg.main.body) Xt01 true (stZ w os),HK.obs (stZ w os))) = fun _ => (true,openGood vw lo,HK.val w) := by intro w; kernel_rfl
theorem left01 : LeftO rr.prog vw lo Xt01 HK.obs HK.val 10890 :=
  LeftO.of_pieces (H₀ := boot_heap) (H₁ := hpZ) (gs₀ := Array.mk []) (gs₁ := #[]) (d₀ := boot_drawn) (k₀ := boot_toks) (m₀ := 11) (ann := annE) (boot_open rfl rfl fun s => rfl) size01 run01 (by decide) looks01
theorem said01 : PySem.Challenge.rw_az0001_01.wellSaid = true := by kernel_rfl
theorem head01 (hw : rr.promised) (hc : ∀ d kwd,defOf vw "law" = some (d,kwd) → WalkO vw lo (XL vw []) HK.says rr d kwd fun f vs => PySem.call f vs) : PySem.Challenge.rw_az0001_01.Holds := by
  refine holds_law said01 fun said => ?_
  refine holds_open (q := vw) (loose := lo) (Xt := Xt01) (XP := XL vw []) (Yf := HK.obs) (Ya := HK.val) (YP := HK.says) (N := 10890) left01 (Hook.of HK) (Hook.keeps HK) (fun s e => xl_of s (Bool.and_eq_true_iff.mp e).1) XL.keeps (by rfl) (by rfl) (by rfl) (fun s e => recFacts_of (Bool.and_eq_true_iff.mp e).2) (by rfl) said (by decide +kernel) ⟨rfl,rfl,rfl,rfl,rfl,by decide +kernel⟩ hw (hc _ _ (by rfl))
end Mine

open PySem PySem.W PySem.Calls PyProof.Rows
set_option Elab.async false
set_option maxRecDepth 1000000
set_option maxHeartbeats 0
set_option autoImplicit false
namespace Mine
noncomputable abbrev cx (w : World) (mg mb : Str → Option Value) (h₀ : Heap) (stk : List Env) : Cx := ⟨pg,w,KZ w.params,mg,mb,h₀,stk⟩
noncomputable abbrev cMissingFile : Addr := 31
noncomputable abbrev aJsonDB___init__ : Addr := 55
theorem isD_JsonDB___init__ (P : Params) : IsDef (KZ P) 55 (Str.ofString "__init__") (Str.ofString "JsonDB.__init__") (fa [4,0]) (subB (fS [4,0])) (fs [4,0]) Value.none Value.none Value.none (Value.str (Str.ofString "doit.dependency") 194) (Value.ref 54) Value.none (Value.type "function") Option.none Option.none #[] := ⟨by kernel_rfl,by kernel_rfl,by kernel_rfl,by kernel_rfl,by kernel_rfl,by decide +kernel⟩
noncomputable abbrev aJsonDB_set : Addr := 69
theorem isD_JsonDB_set (P : Params) : IsDef (KZ P) 69 (Str.ofString "set") (Str.ofString "JsonDB.set") (fa [4,2]) (subB (fS [4,2])) (fs [4,2]) Value.none Value.none Value.none (Value.str (Str.ofString "doit.dependency") 194) (Value.ref 68) Value.none (Value.type "function") Option.none Option.none #[] := ⟨by kernel_rfl,by kernel_rfl,by kernel_rfl,by kernel_rfl,by kernel_rfl,by decide +kernel⟩
noncomputable abbrev aJsonDB_get : Addr := 76
theorem isD_JsonDB_get (P : Params) : IsDef (KZ P) 76 (Str.ofString "get") (Str.ofString "JsonDB.get") (fa [4,3]) (subB (fS [4,3])) (fs [4,3]) Value.none Value.none Value.none (Value.str (Str.ofString "doit.dependency") 194) (Value.ref 75) Value.none (Value.type "function") Option.none Option.none #[] := ⟨by kernel_rfl,by kernel_rfl,by kernel_rfl,by kernel_rfl,by kernel_rfl,by decide +kernel⟩
noncomputable abbrev aJsonDB_remove : Addr := 90
theorem isD_JsonDB_remove (P : Params) : IsDef (KZ P) 90 (Str.ofString "remove") (Str.ofString "JsonDB.remove") (fa [4,5]) (subB (fS [4,5])) (fs [4,5]) Value.none Value.none Value.none (Value.str (Str.ofString "doit.dependency") 194) (Value.ref 89) Value.none (Value.type "function") Option.none Option.none #[] := ⟨by kernel_rfl,by kernel_rfl,by kernel_rfl,by kernel_rfl,by kernel_rfl,by decide +kernel⟩
noncomputable abbrev cJsonDB : Addr := 100
noncomputable abbrev Yb : Addr := 118
theorem Zm (P : Params) : IsDef (KZ P) 118 (Str.ofString "__init__") (Str.ofString "FileChangedChecker.__init__") (fa [5,1]) (subB (fS [5,1])) (fs [5,1]) Value.none Value.none Value.none (Value.str (Str.ofString "doit.dependency") 194) (Value.ref 117) Value.none (Value.type "function") Option.none Option.none #[] := ⟨by kernel_rfl,by kernel_rfl,by kernel_rfl,by kernel_rfl,by kernel_rfl,by decide +kernel⟩
noncomputable abbrev Yl : Addr := 125
theorem V6 (P : Params) : IsDef (KZ P) 125 (Str.ofString "exists") (Str.ofString "FileChangedChecker.exists") (fa [5,2]) (subB (fS [5,2])) (fs [5,2]) Value.none Value.none Value.none (Value.str (Str.ofString "doit.dependency") 194) (Value.ref 124) Value.none (Value.type "function") Option.none Option.none #[] := ⟨by kernel_rfl,by kernel_rfl,by kernel_rfl,by kernel_rfl,by kernel_rfl,by decide +kernel⟩
noncomputable abbrev Jv : Addr := 132
theorem Yh (P : Params) : IsDef (KZ P) 132 (Str.ofString "info") (Str.ofString "FileChangedChecker.info") (fa [5,3]) (subB (fS [5,3])) (fs [5,3]) Value.none Value.none Value.none (Value.str (Str.ofString "doit.dependency") 194) (Value.ref 131) Value.none (Value.type "function") Option.none Option.none #[] := ⟨by kernel_rfl,by kernel_rfl,by kernel_rfl,by kernel_rfl,by kernel_rfl,by decide +kernel⟩
noncomputable abbrev Ym : Addr := 167
theorem V7 (P : Params) : IsDef (KZ P) 167 (Str.ofString "check_modified") (Str.ofString "MD5Checker.check_modified") (fa [6,1]) (subB (fS [6,1])) (fs [6,1]) Value.none Value.none Value.none (Value.str (Str.ofString "doit.dependency") 194) (Value.ref 166) Value.none (Value.type "function") Option.none Option.none #[] := ⟨by kernel_rfl,by kernel_rfl,by kernel_rfl,by kernel_rfl,by kernel_rfl,by decide +kernel⟩
noncomputable abbrev Yc : Addr := 174
theorem isD_MD5Checker_get_state (P : Params) : IsDef (KZ P) 174 (Str.ofString "get_state") (Str.ofString "MD5Checker.get_state") (fa [6,2]) (subB (fS [6,2])) (fs [6,2]) Value.none Value.none Value.none (Value.str (Str.ofString "doit.dependency") 194) (Value.ref 173) Value.none (Value.type "function") Option.none Option.none #[] := ⟨by kernel_rfl,by kernel_rfl,by kernel_rfl,by kernel_rfl,by kernel_rfl,by decide +kernel⟩
noncomputable abbrev cMD5Checker : Addr := 177
noncomputable abbrev Qz : Addr := 193
theorem Y1 (P : Params) : IsDef (KZ P) 193 (Str.ofString "check_modified") (Str.ofString "TimestampChecker.check_modified") (fa [7,1]) (subB (fS [7,1])) (fs [7,1]) Value.none Value.none Value.none (Value.str (Str.ofString "doit.dependency") 194) (Value.ref 192) Value.none (Value.type "function") Option.none Option.none #[] := ⟨by kernel_rfl,by kernel_rfl,by kernel_rfl,by kernel_rfl,by kernel_rfl,by decide +kernel⟩
noncomputable abbrev Yi : Addr := 200
theorem V1 (P : Params) : IsDef (KZ P) 200 (Str.ofString "get_state") (Str.ofString "TimestampChecker.get_state") (fa [7,2]) (subB (fS [7,2])) (fs [7,2]) Value.none Value.none Value.none (Value.str (Str.ofString "doit.dependency") 194) (Value.ref 199) Value.none (Value.type "function") Option.none Option.none #[] := ⟨by kernel_rfl,by kernel_rfl,by kernel_rfl,by kernel_rfl,by kernel_rfl,by decide +kernel⟩
noncomputable abbrev cTimestampChecker : Addr := 203
noncomputable abbrev Yn : Addr := 219
theorem V8 (P : Params) : IsDef (KZ P) 219 (Str.ofString "__init__") (Str.ofString "DependencyStatus.__init__") (fa [8,0]) (subB (fS [8,0])) (fs [8,0]) Value.none Value.none Value.none (Value.str (Str.ofString "doit.dependency") 194) (Value.ref 218) Value.none (Value.type "function") Option.none Option.none #[] := ⟨by kernel_rfl,by kernel_rfl,by kernel_rfl,by kernel_rfl,by kernel_rfl,by decide +kernel⟩
noncomputable abbrev Jr : Addr := 227
theorem Zn (P : Params) : IsDef (KZ P) 227 (Str.ofString "add_reason") (Str.ofString "DependencyStatus.add_reason") (fa [8,1]) (subB (fS [8,1])) (fs [8,1]) (Value.ref 220) Value.none Value.none (Value.str (Str.ofString "doit.dependency") 194) (Value.ref 226) Value.none (Value.type "function") Option.none Option.none #[] := ⟨by kernel_rfl,by kernel_rfl,by kernel_rfl,by kernel_rfl,by kernel_rfl,by decide +kernel⟩
noncomputable abbrev J2 : Addr := 234
theorem Zo (P : Params) : IsDef (KZ P) 234 (Str.ofString "set_reason") (Str.ofString "DependencyStatus.set_reason") (fa [8,2]) (subB (fS [8,2])) (fs [8,2]) Value.none Value.none Value.none (Value.str (Str.ofString "doit.dependency") 194) (Value.ref 233) Value.none (Value.type "function") Option.none Option.none #[] := ⟨by kernel_rfl,by kernel_rfl,by kernel_rfl,by kernel_rfl,by kernel_rfl,by decide +kernel⟩
noncomputable abbrev Qi : Addr := 241
theorem Yq (P : Params) : IsDef (KZ P) 241 (Str.ofString "get_error_message") (Str.ofString "DependencyStatus.get_error_message") (fa [8,3]) (subB (fS [8,3])) (fs [8,3]) Value.none Value.none Value.none (Value.str (Str.ofString "doit.dependency") 194) (Value.ref 240) Value.none (Value.type "function") Option.none Option.none #[] := ⟨by kernel_rfl,by kernel_rfl,by kernel_rfl,by kernel_rfl,by kernel_rfl,by decide +kernel⟩
noncomputable abbrev cDependencyStatus : Addr := 244
noncomputable abbrev V2 : Addr := 262
theorem isD_Dependency___init__ (P : Params) : IsDef (KZ P) 262 (Str.ofString "__init__") (Str.ofString "Dependency.__init__") (fa [9,0]) (subB (fS [9,0])) (fs [9,0]) Value.none Value.none Value.none (Value.str (Str.ofString "doit.dependency") 194) (Value.ref 261) Value.none (Value.type "function") Option.none Option.none #[] := ⟨by kernel_rfl,by kernel_rfl,by kernel_rfl,by kernel_rfl,by kernel_rfl,by decide +kernel⟩
noncomputable abbrev Q1 : Addr := 269
theorem isD_Dependency__set (P : Params) : IsDef (KZ P) 269 (Str.ofString "_set") (Str.ofString "Dependency._set") (fa [9,1]) (subB (fS [9,1])) (fs [9,1]) Value.none Value.none Value.none (Value.str (Str.ofString "doit.dependency") 194) (Value.ref 268) Value.none (Value.type "function") Option.none Option.none #[] := ⟨by kernel_rfl,by kernel_rfl,by kernel_rfl,by kernel_rfl,by kernel_rfl,by decide +kernel⟩
noncomputable abbrev Q2 : Addr := 276
theorem isD_Dependency__get (P : Params) : IsDef (KZ P) 276 (Str.ofString "_get") (Str.ofString "Dependency._get") (fa [9,2]) (subB (fS [9,2])) (fs [9,2]) Value.none Value.none Value.none (Value.str (Str.ofString "doit.dependency") 194) (Value.ref 275) Value.none (Value.type "function") Option.none Option.none #[] := ⟨by kernel_rfl,by kernel_rfl,by kernel_rfl,by kernel_rfl,by kernel_rfl,by decide +kernel⟩
noncomputable abbrev X4 : Addr := 283
theorem isD_Dependency_remove (P : Params) : IsDef (KZ P) 283 (Str.ofString "remove") (Str.ofString "Dependency.remove") (fa [9,3]) (subB (fS [9,3])) (fs [9,3]) Value.none Value.none Value.none (Value.str (Str.ofString "doit.dependency") 194) (Value.ref 282) Value.none (Value.type "function") Option.none Option.none #[] := ⟨by kernel_rfl,by kernel_rfl,by kernel_rfl,by kernel_rfl,by kernel_rfl,by decide +kernel⟩
noncomputable abbrev Yv : Addr := 312
theorem X5 (P : Params) : IsDef (KZ P) 312 (Str.ofString "save_success") (Str.ofString "Dependency.save_success") (fa [9,7]) (subB (fS [9,7])) (fs [9,7]) (Value.ref 305) Value.none Value.none (Value.str (Str.ofString "doit.dependency") 194) (Value.ref 311) Value.none (Value.type "function") Option.none Option.none #[] := ⟨by kernel_rfl,by kernel_rfl,by kernel_rfl,by kernel_rfl,by kernel_rfl,by decide +kernel⟩
noncomputable abbrev Qq : Addr := 360
theorem Ht (P : Params) : IsDef (KZ P) 360 (Str.ofString "get_status") (Str.ofString "Dependency.get_status") (fa [9,14]) (subB (fS [9,14])) (fs [9,14]) (Value.ref 355) Value.none Value.none (Value.str (Str.ofString "doit.dependency") 194) (Value.ref 359) Value.none (Value.type "function") Option.none Option.none #[] := ⟨by kernel_rfl,by kernel_rfl,by kernel_rfl,by kernel_rfl,by kernel_rfl,by decide +kernel⟩
noncomputable abbrev cDependency : Addr := 363
noncomputable abbrev cUptodateCalculator : Addr := 398
noncomputable abbrev aTask___init__ : Addr := 436
theorem isD_Task___init__ (P : Params) : IsDef (KZ P) 436 (Str.ofString "__init__") (Str.ofString "Task.__init__") (fa [14,0]) (subB (fS [14,0])) (fs [14,0]) (Value.ref 429) Value.none Value.none (Value.str (Str.ofString "doit.task") 723) (Value.ref 435) Value.none (Value.type "function") Option.none Option.none #[] := ⟨by kernel_rfl,by kernel_rfl,by kernel_rfl,by kernel_rfl,by kernel_rfl,by decide +kernel⟩
noncomputable abbrev aTask__init_deps : Addr := 443
theorem isD_Task__init_deps (P : Params) : IsDef (KZ P) 443 (Str.ofString "_init_deps") (Str.ofString "Task._init_deps") (fa [14,1]) (subB (fS [14,1])) (fs [14,1]) Value.none Value.none Value.none (Value.str (Str.ofString "doit.task") 723) (Value.ref 442) Value.none (Value.type "function") Option.none Option.none #[] := ⟨by kernel_rfl,by kernel_rfl,by kernel_rfl,by kernel_rfl,by kernel_rfl,by decide +kernel⟩
noncomputable abbrev V9 : Addr := 450
theorem isD_Task__init_targets (P : Params) : IsDef (KZ P) 450 (Str.ofString "_init_targets") (Str.ofString "Task._init_targets") (fa [14,2]) (subB (fS [14,2])) (fs [14,2]) Value.none Value.none Value.none (Value.str (Str.ofString "doit.task") 723) (Value.ref 449) Value.none (Value.type "function") Option.none Option.none #[] := ⟨by kernel_rfl,by kernel_rfl,by kernel_rfl,by kernel_rfl,by kernel_rfl,by decide +kernel⟩
noncomputable abbrev V3 : Addr := 457
theorem isD_Task__init_uptodate (P : Params) : IsDef (KZ P) 457 (Str.ofString "_init_uptodate") (Str.ofString "Task._init_uptodate") (fa [14,3]) (subB (fS [14,3])) (fs [14,3]) Value.none Value.none Value.none (Value.str (Str.ofString "doit.task") 723) (Value.ref 456) Value.none (Value.type "function") Option.none Option.none #[] := ⟨by kernel_rfl,by kernel_rfl,by kernel_rfl,by kernel_rfl,by kernel_rfl,by decide +kernel⟩
noncomputable abbrev Zd : Addr := 464
theorem Hu (P : Params) : IsDef (KZ P) 464 (Str.ofString "_expand_file_dep") (Str.ofString "Task._expand_file_dep") (fa [14,4]) (subB (fS [14,4])) (fs [14,4]) Value.none Value.none Value.none (Value.str (Str.ofString "doit.task") 723) (Value.ref 463) Value.none (Value.type "function") Option.none Option.none #[] := ⟨by kernel_rfl,by kernel_rfl,by kernel_rfl,by kernel_rfl,by kernel_rfl,by decide +kernel⟩
noncomputable abbrev cTask : Addr := 522
noncomputable abbrev cresult_dep : Addr := 579
noncomputable abbrev a_law_world : Addr := 598
theorem isD__law_world (P : Params) : IsDef (KZ P) 598 (Str.ofString "_law_world") (Str.ofString "_law_world") (fa [19]) (subB (fS [19])) (fs [19]) Value.none Value.none Value.none (Value.str (Str.ofString "law_az0001_01") 958) (Value.ref 597) Value.none (Value.type "function") Option.none Option.none #[] := ⟨by kernel_rfl,by kernel_rfl,by kernel_rfl,by kernel_rfl,by kernel_rfl,by decide +kernel⟩
noncomputable abbrev Ud : Addr := 605
theorem isD__law_modified (P : Params) : IsDef (KZ P) 605 (Str.ofString "_law_modified") (Str.ofString "_law_modified") (fa [20]) (subB (fS [20])) (fs [20]) Value.none Value.none Value.none (Value.str (Str.ofString "law_az0001_01") 958) (Value.ref 604) Value.none (Value.type "function") Option.none Option.none #[] := ⟨by kernel_rfl,by kernel_rfl,by kernel_rfl,by kernel_rfl,by kernel_rfl,by decide +kernel⟩
noncomputable abbrev Q4 : Addr := 610
theorem isD__law_reasons (P : Params) : IsDef (KZ P) 610 (Str.ofString "_law_reasons") (Str.ofString "_law_reasons") (fa [21]) (subB (fS [21])) (fs [21]) Value.none Value.none Value.none (Value.str (Str.ofString "law_az0001_01") 958) (Value.ref 609) Value.none (Value.type "function") Option.none Option.none #[] := ⟨by kernel_rfl,by kernel_rfl,by kernel_rfl,by kernel_rfl,by kernel_rfl,by decide +kernel⟩
noncomputable abbrev a_law_log : Addr := 617
theorem isD__law_log (P : Params) : IsDef (KZ P) 617 (Str.ofString "_law_log") (Str.ofString "_law_log") (fa [22]) (subB (fS [22])) (fs [22]) Value.none Value.none Value.none (Value.str (Str.ofString "law_az0001_01") 958) (Value.ref 616) Value.none (Value.type "function") Option.none Option.none #[] := ⟨by kernel_rfl,by kernel_rfl,by kernel_rfl,by kernel_rfl,by kernel_rfl,by decide +kernel⟩
noncomputable abbrev a_law_first : Addr := 622
theorem isD__law_first (P : Params) : IsDef (KZ P) 622 (Str.ofString "_law_first") (Str.ofString "_law_first") (fa [23]) (subB (fS [23])) (fs [23]) Value.none Value.none Value.none (Value.str (Str.ofString "law_az0001_01") 958) (Value.ref 621) Value.none (Value.type "function") Option.none Option.none #[] := ⟨by kernel_rfl,by kernel_rfl,by kernel_rfl,by kernel_rfl,by kernel_rfl,by decide +kernel⟩
noncomputable abbrev Ge : Addr := 629
theorem isD__law_saved (P : Params) : IsDef (KZ P) 629 (Str.ofString "_law_saved") (Str.ofString "_law_saved") (fa [24]) (subB (fS [24])) (fs [24]) Value.none Value.none Value.none (Value.str (Str.ofString "law_az0001_01") 958) (Value.ref 628) Value.none (Value.type "function") Option.none Option.none #[] := ⟨by kernel_rfl,by kernel_rfl,by kernel_rfl,by kernel_rfl,by kernel_rfl,by decide +kernel⟩
noncomputable abbrev Y2 : Addr := 634
theorem isD__law_with_log (P : Params) : IsDef (KZ P) 634 (Str.ofString "_law_with_log") (Str.ofString "_law_with_log") (fa [25]) (subB (fS [25])) (fs [25]) Value.none Value.none Value.none (Value.str (Str.ofString "law_az0001_01") 958) (Value.ref 633) Value.none (Value.type "function") Option.none Option.none #[] := ⟨by kernel_rfl,by kernel_rfl,by kernel_rfl,by kernel_rfl,by kernel_rfl,by decide +kernel⟩
noncomputable abbrev Y7 : Addr := 639
theorem isD__law_without_log (P : Params) : IsDef (KZ P) 639 (Str.ofString "_law_without_log") (Str.ofString "_law_without_log") (fa [26]) (subB (fS [26])) (fs [26]) Value.none Value.none Value.none (Value.str (Str.ofString "law_az0001_01") 958) (Value.ref 638) Value.none (Value.type "function") Option.none Option.none #[] := ⟨by kernel_rfl,by kernel_rfl,by kernel_rfl,by kernel_rfl,by kernel_rfl,by decide +kernel⟩
noncomputable abbrev Gf : Addr := 644
theorem isD__law_round (P : Params) : IsDef (KZ P) 644 (Str.ofString "_law_round") (Str.ofString "_law_round") (fa [27]) (subB (fS [27])) (fs [27]) Value.none Value.none Value.none (Value.str (Str.ofString "law_az0001_01") 958) (Value.ref 643) Value.none (Value.type "function") Option.none Option.none #[] := ⟨by kernel_rfl,by kernel_rfl,by kernel_rfl,by kernel_rfl,by kernel_rfl,by decide +kernel⟩
noncomputable abbrev alaw : Addr := 651
theorem isD_law (P : Params) : IsDef (KZ P) 651 (Str.ofString "law") (Str.ofString "law") (fa [28]) (subB (fS [28])) (fs [28]) Value.none Value.none Value.none (Value.str (Str.ofString "law_az0001_01") 958) (Value.ref 650) Value.none (Value.type "function") Option.none Option.none #[] := ⟨by kernel_rfl,by kernel_rfl,by kernel_rfl,by kernel_rfl,by kernel_rfl,by decide +kernel⟩

end Mine

open PySem PySem.W PySem.Calls PyProof.Rows
set_option Elab.async false
set_option maxRecDepth 100000
set_option maxHeartbeats 2000000
set_option autoImplicit false
namespace Mine
@[elab_as_elim] theorem VRs.uncons {h : Heap} {v : AV} {vs : List AV} {xs : List Value} {P : List Value → Prop} (va : VRs h (v :: vs) xs) (k : ∀ x ys,VR h v x → VRs h vs ys → P (x :: ys)) : P xs := by
  cases va with
  | cons a b => exact k _ _ a b
@[elab_as_elim] theorem VRs.unnil {h : Heap} {xs : List Value} {P : List Value → Prop} (va : VRs h [] xs) (k : P []) : P xs := by
  cases va; exact k
@[elab_as_elim] theorem KRs.unnil {h : Heap} {xs : List (Str × Value)} {P : List (Str × Value) → Prop} (va : KRs h [] xs) (k : P []) : P xs := by
  cases va; exact k
@[elab_as_elim] theorem KRs.uncons {h : Heap} {n : Str} {v : AV} {vs : List (Str × AV)} {xs : List (Str × Value)} {P : List (Str × Value) → Prop} (va : KRs h ((n,v) :: vs) xs) (k : ∀ x ys,VR h v x → KRs h vs ys → P ((n,x) :: ys)) : P xs := by
  cases va with
  | cons a b => exact k _ _ a b
section
variable {c : Cx} {fd : FuncData} {n1 n2 n3 n4 n5 n6 : Str} {v1 v2 v3 v4 v5 v6 : AV}
theorem bin1 (H : ∀ s x1,BindsTo s fd ⟨[x1],[]⟩ [(n1,x1)]) : Binds c fd [v1] [] [(n1,v1)] := fun s xs ks _ _ va vk => by
  refine KRs.unnil vk ?_; refine VRs.uncons va fun _ _ a1 va => ?_; refine VRs.unnil va ?_
  exact ⟨_,H s _,.cons a1 .nil⟩
theorem bin2 (H : ∀ s x1 x2,BindsTo s fd ⟨[x1,x2],[]⟩ [(n1,x1),(n2,x2)]) : Binds c fd [v1,v2] [] [(n1,v1),(n2,v2)] := fun s xs ks _ _ va vk => by
  refine KRs.unnil vk ?_; refine VRs.uncons va fun _ _ a1 va => ?_; refine VRs.uncons va fun _ _ a2 va => ?_; refine VRs.unnil va ?_
  exact ⟨_,H s _ _,.cons a1 (.cons a2 .nil)⟩
theorem bin3 (H : ∀ s x1 x2 x3,BindsTo s fd ⟨[x1,x2,x3],[]⟩ [(n1,x1),(n2,x2),(n3,x3)]) : Binds c fd [v1,v2,v3] [] [(n1,v1),(n2,v2),(n3,v3)] := fun s xs ks _ _ va vk => by
  refine KRs.unnil vk ?_; refine VRs.uncons va fun _ _ a1 va => ?_; refine VRs.uncons va fun _ _ a2 va => ?_; refine VRs.uncons va fun _ _ a3 va => ?_; refine VRs.unnil va ?_
  exact ⟨_,H s _ _ _,.cons a1 (.cons a2 (.cons a3 .nil))⟩
theorem bin4 (H : ∀ s x1 x2 x3 x4,BindsTo s fd ⟨[x1,x2,x3,x4],[]⟩ [(n1,x1),(n2,x2),(n3,x3),(n4,x4)]) : Binds c fd [v1,v2,v3,v4] [] [(n1,v1),(n2,v2),(n3,v3),(n4,v4)] := fun s xs ks _ _ va vk => by
  refine KRs.unnil vk ?_; refine VRs.uncons va fun _ _ a1 va => ?_; refine VRs.uncons va fun _ _ a2 va => ?_; refine VRs.uncons va fun _ _ a3 va => ?_; refine VRs.uncons va fun _ _ a4 va => ?_; refine VRs.unnil va ?_
  exact ⟨_,H s _ _ _ _,.cons a1 (.cons a2 (.cons a3 (.cons a4 .nil)))⟩
theorem bin6 (H : ∀ s x1 x2 x3 x4 x5 x6,BindsTo s fd ⟨[x1,x2,x3,x4,x5,x6],[]⟩ [(n1,x1),(n2,x2),(n3,x3),(n4,x4),(n5,x5),(n6,x6)]) : Binds c fd [v1,v2,v3,v4,v5,v6] [] [(n1,v1),(n2,v2),(n3,v3),(n4,v4),(n5,v5),(n6,v6)] := fun s xs ks _ _ va vk => by
  refine KRs.unnil vk ?_; refine VRs.uncons va fun _ _ a1 va => ?_; refine VRs.uncons va fun _ _ a2 va => ?_; refine VRs.uncons va fun _ _ a3 va => ?_; refine VRs.uncons va fun _ _ a4 va => ?_; refine VRs.uncons va fun _ _ a5 va => ?_; refine VRs.uncons va fun _ _ a6 va => ?_; refine VRs.unnil va ?_
  exact ⟨_,H s _ _ _ _ _ _,.cons a1 (.cons a2 (.cons a3 (.cons a4 (.cons a5 (.cons a6 .nil)))))⟩
end
set_option hygiene false
local macro_rules | `(tactic| walk_at "l") => `(tactic| first | rfl | assumption)
local macro_rules | `(tactic| walk_at "ne") => `(tactic| first | assumption | (refine Ne.symm ?_; assumption))
local macro_rules | `(tactic| walk_at "st") => `(tactic| first | assumption | exact Store.set_same _ _ _ | (refine Store.set_old ?_ ?_; walk_at "st"; assumption) | (refine (Store.set_ne ?_).trans ?_; walk_at "ne"; walk_at "st"))
noncomputable def okAt (K : Frag) (C : Addr) (n : Str) : Bool := plainGet K C n && hasDictIn K C && (match findIn K (.ref C) n with | some none => true | _ => false)
noncomputable def okMeth (K : Frag) (C : Addr) (n : Str) (fm : Addr) : Bool := plainGet K C n && (match findIn K (.ref C) n with | some (some (.ref a)) => Nat.beq a fm | _ => false) && isFn K (.ref fm) && keepIn K (.ref fm)
noncomputable def okSet (K : Frag) (C : Addr) (n : Str) : Bool := (match findIn K (.ref C) "__setattr__" with | some (some (.builtin b)) => b == "object.__setattr__" | _ => false) && plainOver K C && (match takerIn K C n with | some none => true | _ => false) && hasDictIn K C
section
variable {c : Cx} {f : Fn} {ℓ : Locs} {σ : Store}
theorem Jn {x C dx : Addr} {es : Es} {name : Str} {v : AV} {Φ : AV → Store → Prop} (hx : σ x = some (.inst C dx)) (hd : σ dx = some (.dict es)) (hv : es.get name = some v)
    (k : okAt c.K C name = true) (hi : handedA v = true) (q : Φ v σ) : Op c f ℓ σ [.ref x] (ap1 fun o => getAttr o name true) Φ := by
  unfold okAt at k
  simp only [Bool.and_eq_true] at k
  obtain ⟨⟨k1,k2⟩,k3⟩ := k
  split at k3
  · rename_i e
    exact op_attr hx hd hv k1 k2 e (by rfl) hi q
  · cases k3
theorem Js {x C dx fm : Addr} {es : Es} {name : Str} {P : Value → Prop} (hx : σ x = some (.inst C dx)) (hd : σ dx = some (.dict es)) (hv : es.get name = none)
    (k : okMeth c.K C name fm = true) (q : P (.ref fm)) : ∃ g,MethOf c σ (.ref x) name g ∧ CalleeOk c g ∧ P g := by
  unfold okMeth at k
  simp only [Bool.and_eq_true] at k
  obtain ⟨⟨⟨k1,k2⟩,k3⟩,k4⟩ := k
  split at k2
  · rename_i a e
    cases Nat.eq_of_beq_eq_true k2
    exact ⟨_,meth_inst hx hd hv k1 e k3,.inl k4,q⟩
  · cases k2
theorem Yw {x C dx : Addr} {es : Es} {name : Str} {v : AV} {Φ : Store → Prop} (hx : σ x = some (.inst C dx)) (hd : σ dx = some (.dict es))
    (k : okSet c.K C name = true) (hz : es.length ≤ 1000)
    (q : Φ (σ.set dx (.dict (es.put name v)))) : OpU c f ℓ σ [.ref x,v] (ap2 fun o v => setAttr o name v) Φ := by
  unfold okSet at k
  simp only [Bool.and_eq_true] at k
  obtain ⟨⟨⟨k1,k2⟩,k3⟩,k4⟩ := k
  split at k1
  · rename_i b e
    split at k3
    · rename_i e'
      simp only [beq_iff_eq] at k1
      subst k1
      exact opu_setattr hx hd e k2 e' k4 hz q
    · cases k3
  · cases k1
end

/-- a db of dicts: what each task's dict holds; the addresses it owns -/
noncomputable abbrev Db := Str → Option Es
noncomputable def Db.put (D : Db) (t k : Str) (v : AV) : Db := fun t' => if t' = t then some (((D t).getD []).put k v) else D t'
noncomputable def Db.get (D : Db) (t k : Str) : Option AV := (D t).bind fun d => d.get k
structure DbAt (σ : Store) (a : Addr) (D : Db) (N : Nat) (F : Addr → Prop) : Prop where
  own : F a
  at_ : ∃ es : Es,σ a = some (.dict es) ∧ es.length ≤ N ∧ (∀ t,D t = none → es.get t = none) ∧
    (∀ t d,D t = some d → ∃ i,es.get t = some (.ref i) ∧ F i ∧ i ≠ a ∧ σ i = some (.dict d) ∧ d.length ≤ N) ∧ (∀ t t' i,es.get t = some (.ref i) → es.get t' = some (.ref i) → t = t')
noncomputable def Grow (σ : Store) (F F' : Addr → Prop) : Prop := (∀ b,F b → F' b) ∧ ∀ b,F' b → F b ∨ σ b = none
noncomputable def Keep (F : Addr → Prop) (σ σ' : Store) : Prop := ∀ b,σ b ≠ none → ¬ F b → σ' b = σ b
theorem Keep.get {F : Addr → Prop} {σ σ' : Store} (k : Keep F σ σ') {b : Addr} {o : AO} (h : σ b = some o) (n : ¬ F b) : σ' b = some o := (k b (by rw [h]; simp) n).trans h
theorem Grow.not {F F' : Addr → Prop} {σ : Store} (g : Grow σ F F') {b : Addr} {o : AO} (h : σ b = some o) (n : ¬ F b) : ¬ F' b := fun x => by
  rcases g.2 b x with y | y
  · exact n y
  · rw [h] at y; cases y
theorem Keep.trans {F F' : Addr → Prop} {σ σ' σ'' : Store} (x : Keep F σ σ') (g : Grow σ F F') (y : Keep F' σ' σ'') : Keep F σ σ'' := fun b e n => by
  cases q : σ b with
  | none => exact absurd q e
  | some o =>
    have e' := x.get q n
    exact (y.get e' (g.not q n)).trans rfl
theorem Grow.refl {F : Addr → Prop} {σ : Store} : Grow σ F F := ⟨fun _ x => x,fun _ x => .inl x⟩
theorem Keep.refl {F : Addr → Prop} {σ : Store} : Keep F σ σ := fun _ _ _ => rfl
theorem Keep.up {F F' : Addr → Prop} {σ σ' : Store} (x : Keep F σ σ') (h : ∀ b,F b → F' b) : Keep F' σ σ' := fun b e n => x b e fun y => n (h b y)
theorem Grow.trans {F F' F'' : Addr → Prop} {σ σ' : Store} (x : Grow σ F F') (y : Grow σ' F' F'') (s : ∀ b,σ b ≠ none → σ' b ≠ none) : Grow σ F F'' :=
  ⟨fun b q => y.1 b (x.1 b q),fun b q => by
    rcases y.2 b q with z | z
    · exact x.2 b z
    · exact .inr (Classical.byContradiction fun e => s b e z)⟩
theorem Es.put_len (es : Es) (k : Str) (v : AV) : (es.put k v).length ≤ es.length + 1 := by
  unfold Es.put
  split <;> simp
theorem Es.put_new {es : Es} {k : Str} {v : AV} (h : es.get k = none) : es.put k v = es ++ [(k,v)] := by
  have e : es.has k = false := by rw [Es.has_get,h]; rfl
  unfold Es.put
  rw [e]; rfl
section
variable {w : World} {mg mb : Str → Option Value} {h₀ : Heap} {stk : List Env} {σ : Store} {d : Nat} {hf : Bool}

theorem JsonDB_init {x dx : Addr} {es : Es} {v : AV} {Φ : AV → Store → Prop} (hx : σ x = some (.inst cJsonDB dx)) (hd : σ dx = some (.dict es)) (hz : es.length ≤ 1000) (φ : Φ .none (σ.set dx (.dict (es.put "_db" v)))) :
    Ca (cx w mg mb h₀ stk) (d + 1) hf σ (.val (.ref aJsonDB___init__)) [.ref x,v] [] Φ := by
  refine J3 (isD_JsonDB___init__ w.params) (ab := [("self",.ref x),("db",v)]) (bin2 fun _ _ _ => BindsTo.of_eq rfl) (by kernel_rfl) fun stk' => ?_
  refine Jb (Jd (Ja (by rfl) (by rfl) (Jw (Ja (by rfl) (by rfl) (Yw hx hd (by kernel_rfl) hz ?_)))))
  exact Jc φ
theorem JsonDB_get {x dx a : Addr} {es : Es} {D : Db} {N : Nat} {F : Addr → Prop} {t k : Str} {Φ : AV → Store → Prop} (hx : σ x = some (.inst cJsonDB dx)) (hd : σ dx = some (.dict es)) (he : es.get "_db" = some (.ref a))
    (hD : DbAt σ a D N F) (φ : Φ ((D.get t k).getD .none) σ) : Ca (cx w mg mb h₀ stk) (d + 1) hf σ (.val (.ref aJsonDB_get)) [.ref x,.str t,.str k] [] Φ := by
  obtain ⟨fa,des,hda,hlen,hnone,hsome,hinj⟩ := hD
  refine J3 (isD_JsonDB_get w.params) (ab := [("self",.ref x),("task_id",.str t),("dependency",.str k)]) (bin3 fun _ _ _ _ => BindsTo.of_eq rfl) (by kernel_rfl) fun stk' => ?_
  refine Jb (Jj (Jf (Ja (by rfl) (by rfl) (Jh (Ja (by rfl) (by rfl) (Jn hx hd he (by kernel_rfl) (by rfl) (op_in hda ⟨_,rfl,?_⟩)))))))
  cases hDt : D t with
  | none =>
    have h0 : des.has t = false := by rw [Es.has_get,hnone t hDt]; rfl
    rw [h0]
    refine Jc (Jc ?_)
    have : D.get t k = none := by unfold Db.get; rw [hDt]; rfl
    rw [this] at φ
    exact φ
  | some dd =>
    obtain ⟨i,hi,fi,nia,hσi,hl⟩ := hsome t dd hDt
    have h0 : des.has t = true := by rw [Es.has_get,hi]; rfl
    rw [h0]
    have e : D.get t k = dd.get k := by unfold Db.get; rw [hDt]; rfl
    rw [e] at φ
    exact Jb (Jm (Jk (Jp (Jh (Ja (by rfl) (by rfl) (Jn hx hd he (by kernel_rfl) (by rfl) (Ja (by rfl) (by rfl) (Qa (fun _ _ => rfl) hda hi ⟨_,meth_dict hσi PySem.F.slot_dict_get PySem.F.type_dict_get,cok,Ja (by rfl) (by rfl) (Jz (cw_get hσi φ))⟩))))))))
end

section
variable {w : World} {mg mb : Str → Option Value} {h₀ : Heap} {stk : List Env} {σ : Store} {d : Nat} {hf : Bool}
theorem DbAt.put_old {a : Addr} {D : Db} {N : Nat} {F : Addr → Prop} {t k : Str} {v : AV} {dd : Es} {es : Es} {i : Addr} (fa : F a) (hda : σ a = some (.dict es)) (hlen : es.length ≤ N) (hnone : ∀ t,D t = none → es.get t = none)
    (hsome : ∀ t d,D t = some d → ∃ i,es.get t = some (.ref i) ∧ F i ∧ i ≠ a ∧ σ i = some (.dict d) ∧ d.length ≤ N) (hinj : ∀ t t' i,es.get t = some (.ref i) → es.get t' = some (.ref i) → t = t')
    (hDt : D t = some dd) (hi : es.get t = some (.ref i)) (fi : F i) (nia : i ≠ a) (hl : dd.length ≤ N) : DbAt (σ.set i (.dict (dd.put k v))) a (D.put t k v) (N + 1) F := by
  refine ⟨fa,es,?_,by omega,fun t' h => ?_,fun t' d' h => ?_,hinj⟩
  · rw [Store.set_ne nia.symm]; exact hda
  · unfold Db.put at h
    split at h
    · cases h
    · exact hnone t' h
  · unfold Db.put at h
    split at h
    · rename_i e
      subst e
      rw [hDt] at h
      cases h
      exact ⟨i,hi,fi,nia,Store.set_same ..,Nat.le_trans (Es.put_len ..) (by simp; omega)⟩
    · rename_i ne
      obtain ⟨j,hj,fj,nj,sj,lj⟩ := hsome t' d' h
      refine ⟨j,hj,fj,nj,?_,by omega⟩
      rw [Store.set_ne]
      · exact sj
      · rintro rfl
        exact ne (hinj _ _ _ hj hi)

theorem JsonDB_set {x dx a : Addr} {es : Es} {D : Db} {N : Nat} {F : Addr → Prop} {t k : Str} {v : AV} {Φ : AV → Store → Prop} (hx : σ x = some (.inst cJsonDB dx)) (hd : σ dx = some (.dict es)) (he : es.get "_db" = some (.ref a))
    (hD : DbAt σ a D N F) (nx : ¬ F x) (ndx : ¬ F dx) (hN : N ≤ 900) (φ : ∀ σ' F',DbAt σ' a (D.put t k v) (N + 1) F' → Grow σ F F' → Keep F σ σ' → (∀ b,σ b ≠ none → σ' b ≠ none) → Φ .none σ') : Ca (cx w mg mb h₀ stk) (d + 1) hf σ (.val (.ref aJsonDB_set)) [.ref x,.str t,.str k,v] [] Φ := by
  obtain ⟨fa,des,hda,hlen,hnone,hsome,hinj⟩ := hD
  refine J3 (isD_JsonDB_set w.params) (ab := [("self",.ref x),("task_id",.str t),("dependency",.str k),("value",v)]) (bin4 fun _ _ _ _ _ => BindsTo.of_eq rfl) (by kernel_rfl) fun stk' => ?_
  refine Jb (Jj (Jf (Ja (by rfl) (by rfl) (Jh (Ja (by rfl) (by rfl) (Jn hx hd he (by kernel_rfl) (by rfl) (Q7 hda ⟨_,rfl,?_⟩)))))))
  cases hDt : D t with
  | none =>
    have g0 := hnone t hDt
    have h0 : des.has t = false := by rw [Es.has_get,g0]; rfl
    rw [h0]
    refine Jb (Jd (Qn fun i hi => Qt (Jh (Ja (by rfl) (by rfl) (Jn (Store.set_old hx hi) (Store.set_old hd hi) he (by kernel_rfl) (by rfl) (Ja (by rfl) (by rfl) (J5 (Store.set_old hda hi) (by omega) ?_)))))))
    refine Jc ?_
    have nia : i ≠ a := by rintro rfl; rw [hda] at hi; cases hi
    have nix : i ≠ x := by rintro rfl; rw [hx] at hi; cases hi
    have nidx : i ≠ dx := by rintro rfl; rw [hd] at hi; cases hi
    have nax : a ≠ x := by rintro rfl; exact nx fa
    have nadx : a ≠ dx := by rintro rfl; exact ndx fa
    have hx' : ((σ.set i (.dict [])).set a (.dict (des.put t (.ref i)))) x = some (.inst cJsonDB dx) := by rw [Store.set_ne nax.symm,Store.set_ne nix.symm]; exact hx
    have hd' : ((σ.set i (.dict [])).set a (.dict (des.put t (.ref i)))) dx = some (.dict es) := by rw [Store.set_ne nadx.symm,Store.set_ne nidx.symm]; exact hd
    have ha' : ((σ.set i (.dict [])).set a (.dict (des.put t (.ref i)))) a = some (.dict (des.put t (.ref i))) := Store.set_same ..
    have hi' : ((σ.set i (.dict [])).set a (.dict (des.put t (.ref i)))) i = some (.dict []) := by rw [Store.set_ne nia]; exact Store.set_same ..
    have hg : (des.put t (.ref i)).get t = some (.ref i) := Es.get_put_same ..
    refine Jb (Jd (Ja (by rfl) (by rfl) (Qt (Jp (Jh (Ja (by rfl) (by rfl) (Jn hx' hd' he (by kernel_rfl) (by rfl) (Ja (by rfl) (by rfl) (Qa (fun _ _ => rfl) ha' hg (Ja (by rfl) (by rfl) (J5 hi' (by simp) ?_)))))))))))
    refine Jc ?_
    have sub : ∀ b,σ b ≠ none → (((σ.set i (.dict [])).set a (.dict (des.put t (.ref i)))).set i (.dict (Es.put [] k v))) b ≠ none := fun b hb => Store.set_some (Store.set_some (Store.set_some hb))
    refine φ _ (fun b => F b ∨ b = i) ⟨.inl fa,des.put t (.ref i),?_,Nat.le_trans (Es.put_len ..) (by omega),fun t' h => ?_,fun t' d' h => ?_,fun t₁ t₂ j h₁ h₂ => ?_⟩ ⟨fun b x => .inl x,fun b x => (show F b ∨ b = i from x).imp id fun (e : b = i) => by rw [e]; exact hi⟩ (fun b hb nb => ?_) sub
    · rw [Store.set_ne nia.symm]; exact ha'
    · unfold Db.put at h
      split at h
      · cases h
      · rename_i ne
        rw [Es.get_put_ne _ _ ne]; exact hnone t' h
    · unfold Db.put at h
      split at h
      · rename_i e
        subst e
        rw [hDt] at h
        cases h
        refine ⟨i,hg,.inr rfl,nia,Store.set_same ..,Nat.le_trans (Es.put_len ..) (by simp)⟩
      · rename_i ne
        obtain ⟨j,hj,fj,nj,sj,lj⟩ := hsome t' d' h
        have nji : j ≠ i := by rintro rfl; rw [hi] at sj; cases sj
        refine ⟨j,by rw [Es.get_put_ne _ _ ne]; exact hj,.inl fj,nj,?_,by omega⟩
        rw [Store.set_ne nji,Store.set_ne nj,Store.set_ne nji]; exact sj
    · have no : ∀ t',t' ≠ t → des.get t' = some (.ref i) → False := fun t' _ h => by
        cases hq : D t' with
        | none => rw [hnone t' hq] at h; cases h
        | some d' =>
          obtain ⟨j,hj,_,_,sj,_⟩ := hsome t' d' hq
          rw [hj] at h; cases h
          rw [hi] at sj; cases sj
      rw [Es.get_put] at h₁ h₂
      split at h₁ <;> split at h₂
      · rename_i e e'; rw [e,e']
      · rename_i e e'; cases h₁; exact (no _ e' h₂).elim
      · rename_i e e'; cases h₂; exact (no _ e h₁).elim
      · exact hinj _ _ _ h₁ h₂
    · have n1 : b ≠ i := by rintro rfl; exact hb hi
      have n2 : b ≠ a := by rintro rfl; exact nb fa
      rw [Store.set_ne n1,Store.set_ne n2,Store.set_ne n1]
  | some dd =>
    obtain ⟨i,hi,fi,nia,hσi,hl⟩ := hsome t dd hDt
    have h0 : des.has t = true := by rw [Es.has_get,hi]; rfl
    rw [h0]
    refine Jc ?_
    refine Jb (Jd (Ja (by rfl) (by rfl) (Qt (Jp (Jh (Ja (by rfl) (by rfl) (Jn hx hd he (by kernel_rfl) (by rfl) (Ja (by rfl) (by rfl) (Qa (fun _ _ => rfl) hda hi (Ja (by rfl) (by rfl) (J5 hσi (by omega) ?_)))))))))))
    refine Jc (φ _ F (DbAt.put_old fa hda hlen hnone hsome hinj hDt hi fi nia hl) .refl (fun b _ nb => Store.set_ne (by rintro rfl; exact nb fi)) fun b hb => Store.set_some hb)

/-- a Dependency: its backend,its checker -/
structure DepAt (σ : Store) (x : Addr) (es : Es) (dx y dy a ch : Addr) : Prop where
  x : σ x = some (.inst cDependency dx)
  dx : σ dx = some (.dict es)
  back : es.get "backend" = some (.ref y)
  chk : es.get "checker" = some (.ref ch)
  set : es.get "_set" = none
  get : es.get "_get" = none
  y : σ y = some (.inst cJsonDB dy)
  dy : σ dy = some (.dict [("_db",.ref a)])
theorem DepAt.keep {σ' : Store} {x dx y dy a ch : Addr} {es : Es} {F : Addr → Prop} (D : DepAt σ x es dx y dy a ch) (k : Keep F σ σ') (n : ¬ F x ∧ ¬ F dx ∧ ¬ F y ∧ ¬ F dy) : DepAt σ' x es dx y dy a ch :=
  ⟨k.get D.x n.1,k.get D.dx n.2.1,D.back,D.chk,D.set,D.get,k.get D.y n.2.2.1,k.get D.dy n.2.2.2⟩
theorem Y3 {x dx y dy a ch : Addr} {es : Es} {D : Db} {N : Nat} {F : Addr → Prop} {t k : Str} {v : AV} {Φ : AV → Store → Prop} (hx : DepAt σ x es dx y dy a ch)
    (hD : DbAt σ a D N F) (nx : ¬ F x ∧ ¬ F dx ∧ ¬ F y ∧ ¬ F dy) (hN : N ≤ 900) (φ : ∀ σ' F',DbAt σ' a (D.put t k v) (N + 1) F' → Grow σ F F' → Keep F σ σ' → (∀ b,σ b ≠ none → σ' b ≠ none) → Φ .none σ') :
    Ca (cx w mg mb h₀ stk) (d + 2) hf σ (.val (.ref Q1)) [.ref x,.str t,.str k,v] [] Φ := by
  refine J3 (isD_Dependency__set w.params) (ab := [("self",.ref x),("task_id",.str t),("dependency",.str k),("value",v)]) (bin4 fun _ _ _ _ _ => BindsTo.of_eq rfl) (by kernel_rfl) fun stk' => ?_
  refine Jb (J0 (Jk (Jh (Ja (by rfl) (by rfl) (Jn hx.x hx.dx hx.back (by kernel_rfl) (by rfl) (Js (fm := aJsonDB_set) hx.y hx.dy (by rfl) (by kernel_rfl) ?_))))))
  refine Ja (by rfl) (by rfl) (Ja (by rfl) (by rfl) (Ja (by rfl) (by rfl) (Ca.cw (JsonDB_set hx.y hx.dy (by rfl) hD nx.2.2.1 nx.2.2.2 hN fun σ' F' q g kp s => ?_))))
  exact Jc (φ σ' F' q g kp s)
theorem Y4 {x dx y dy a ch : Addr} {es : Es} {D : Db} {N : Nat} {F : Addr → Prop} {t k : Str} {Φ : AV → Store → Prop} (hx : DepAt σ x es dx y dy a ch)
    (hD : DbAt σ a D N F) (φ : Φ ((D.get t k).getD .none) σ) :
    Ca (cx w mg mb h₀ stk) (d + 2) hf σ (.val (.ref Q2)) [.ref x,.str t,.str k] [] Φ := by
  refine J3 (isD_Dependency__get w.params) (ab := [("self",.ref x),("task_id",.str t),("dependency",.str k)]) (bin3 fun _ _ _ _ => BindsTo.of_eq rfl) (by kernel_rfl) fun stk' => ?_
  refine Jb (Jm (Jk (Jh (Ja (by rfl) (by rfl) (Jn hx.x hx.dx hx.back (by kernel_rfl) (by rfl) (Js (fm := aJsonDB_get) hx.y hx.dy (by rfl) (by kernel_rfl) ?_))))))
  exact Ja (by rfl) (by rfl) (Ja (by rfl) (by rfl) (Ca.cw (JsonDB_get hx.y hx.dy (by rfl) hD φ)))
theorem Dependency_init {x dx y ch : Addr} {Φ : AV → Store → Prop} (hx : σ x = some (.inst cDependency dx)) (hd : σ dx = some (.dict [])) (ne : x ≠ dx)
    (φ : Φ .none (σ.set dx (.dict [("_closed",.bool false),("checker",.ref ch),("backend",.ref y)]))) :
    Ca (cx w mg mb h₀ stk) (d + 1) hf σ (.val (.ref V2)) [.ref x,.ref y,.ref ch] [] Φ := by
  refine J3 (isD_Dependency___init__ w.params) (ab := [("self",.ref x),("backend",.ref y),("checker",.ref ch)]) (bin3 fun _ _ _ _ => BindsTo.of_eq rfl) (by kernel_rfl) fun stk' => ?_
  refine Jb (Jd (Qw (Jw (Ja (by rfl) (by rfl) (Yw hx hd (by kernel_rfl) (by simp) ?_)))))
  refine Jb (Jd (Ja (by rfl) (by rfl) (Jw (Ja (by rfl) (by rfl) (Yw ((Store.set_ne ne).trans hx) (Store.set_same ..) (by kernel_rfl) (Nat.le_of_ble_eq_true rfl) ?_)))))
  refine Jb (Jd (Ja (by rfl) (by rfl) (Jw (Ja (by rfl) (by rfl) (Yw ((Store.set_ne ne).trans ((Store.set_ne ne).trans hx)) (Store.set_same ..) (by kernel_rfl) (Nat.le_of_ble_eq_true rfl) ?_)))))
  refine Jc ?_
  have e : ∀ (o₁ o₂ o₃ : AO),((σ.set dx o₁).set dx o₂).set dx o₃ = σ.set dx o₃ := fun _ _ _ => by
    funext b; unfold Store.set; split <;> rfl
  rw [e]
  exact φ
end

section
variable {w : World} {mg mb : Str → Option Value} {h₀ : Heap} {stk : List Env} {σ : Store} {d : Nat} {hf : Bool}
/-- what the world holds of a path -/
structure We where
  ts : Int
  sz : Int
  tx : Str
noncomputable def We.av (e : We) : AV := .tup [.int e.ts,.int e.sz,.str e.tx]
noncomputable def isChk (C : Addr) : Prop := C = cMD5Checker ∨ C = cTimestampChecker
structure ChkAt (σ : Store) (x C dx aw : Addr) (wes : Es) : Prop where
  x : σ x = some (.inst C dx)
  dx : σ dx = some (.dict [("files",.ref aw)])
  aw : σ aw = some (.dict wes)
theorem Checker_init {x dx aw C : Addr} {Φ : AV → Store → Prop} (hC : isChk C) (hx : σ x = some (.inst C dx)) (hd : σ dx = some (.dict []))
    (φ : Φ .none (σ.set dx (.dict [("files",.ref aw)]))) :
    Ca (cx w mg mb h₀ stk) (d + 1) hf σ (.val (.ref Yb)) [.ref x,.ref aw] [] Φ := by
  refine J3 (Zm w.params) (ab := [("self",.ref x),("files",.ref aw)]) (bin2 fun _ _ _ => BindsTo.of_eq rfl) (by kernel_rfl) fun stk' => ?_
  refine Jb (Jd (Ja (by rfl) (by rfl) (Jw (Ja (by rfl) (by rfl) (Yw hx hd (by rcases hC with rfl | rfl <;> kernel_rfl) (by simp) ?_)))))
  exact Jc φ
theorem Checker_exists {x C dx aw : Addr} {wes : Es} {p : Str} {Φ : AV → Store → Prop} (hC : isChk C) (hx : ChkAt σ x C dx aw wes) (φ : Φ (.bool (wes.has p)) σ) :
    Ca (cx w mg mb h₀ stk) (d + 1) hf σ (.val (.ref Yl)) [.ref x,.str p] [] Φ := by
  refine J3 (V6 w.params) (ab := [("self",.ref x),("file_path",.str p)]) (bin2 fun _ _ _ => BindsTo.of_eq rfl) (by kernel_rfl) fun stk' => ?_
  exact Jb (Jm (Yr (Ja (by rfl) (by rfl) (Jh (Ja (by rfl) (by rfl) (Jn hx.x hx.dx (by rfl) (by rcases hC with rfl | rfl <;> kernel_rfl) (by rfl) (op_in hx.aw φ)))))))
theorem V4 {x C dx aw : Addr} {wes : Es} {p : Str} {e : We} {Φ : AV → Store → Prop} (hC : isChk C) (hx : ChkAt σ x C dx aw wes) (hp : wes.get p = some e.av) (φ : Φ e.av σ) :
    Ca (cx w mg mb h₀ stk) (d + 1) hf σ (.val (.ref Jv)) [.ref x,.str p] [] Φ := by
  refine J3 (Yh w.params) (ab := [("self",.ref x),("file_path",.str p)]) (bin2 fun _ _ _ => BindsTo.of_eq rfl) (by kernel_rfl) fun stk' => ?_
  refine Jb (Jj (Jf (Ja (by rfl) (by rfl) (Jh (Ja (by rfl) (by rfl) (Jn hx.x hx.dx (by rfl) (by rcases hC with rfl | rfl <;> kernel_rfl) (by rfl) (Q7 hx.aw ⟨_,rfl,?_⟩)))))))
  have h : wes.has p = true := by rw [Es.has_get,hp]; rfl
  rw [h]
  refine Jc ?_
  exact Jb (Jm (Jp (Jh (Ja (by rfl) (by rfl) (Jn hx.x hx.dx (by rfl) (by rcases hC with rfl | rfl <;> kernel_rfl) (by rfl) (Ja (by rfl) (by rfl) (Qa (fun _ _ => rfl) hx.aw hp φ)))))))
theorem excMF : ExcC (cx w mg mb h₀ stk) "MissingFile" cMissingFile := ⟨by kernel_rfl,by kernel_rfl⟩
theorem Checker_info_miss {x C dx aw : Addr} {wes : Es} {p : Str} (hC : isChk C) (hx : ChkAt σ x C dx aw wes) (hp : wes.get p = none) :
    CaR (cx w mg mb h₀ stk) (d + 1) true σ (.val (.ref Jv)) [.ref x,.str p] cMissingFile := by
  refine car_def (Yh w.params) (ab := [("self",.ref x),("file_path",.str p)]) (bin2 fun _ _ _ => BindsTo.of_eq rfl) (by kernel_rfl) rfl fun stk' => ?_
  have h : wes.has p = false := by rw [Es.has_get,hp]; rfl
  refine trm_if (Jf (Ja (by rfl) (by rfl) (Jh (Ja (by rfl) (by rfl) (Jn hx.x hx.dx (by rfl) (by rcases hC with rfl | rfl <;> kernel_rfl) (by rfl) (Q7 hx.aw ⟨_,rfl,?_,rfl⟩)))))) ?_
  · rw [h]; rfl
  · exact trm_raise excMF (by rfl) (by rfl) (Ja (by rfl) (by rfl) rfl)

theorem TS_modified {x : Addr} {p : Str} {e : We} {ts : Int} {Φ : AV → Store → Prop} (φ : Φ (.bool (e.ts != ts)) σ) :
    Ca (cx w mg mb h₀ stk) (d + 1) hf σ (.val (.ref Qz)) [.ref x,.str p,e.av,.int ts] [] Φ := by
  refine J3 (Y1 w.params) (ab := [("self",.ref x),("file_path",.str p),("file_stat",e.av),("state",.int ts)]) (bin4 fun _ _ _ _ _ => BindsTo.of_eq rfl) (by kernel_rfl) fun stk' => ?_
  exact Jb (Jm (Yr (Jp (Ja (by rfl) (by rfl) (Ji (Jo (v := .int e.ts) (fun _ _ => rfl) (by decide) (by decide) (by rfl) (Ja (by rfl) (by rfl) (Yd φ))))))))
theorem MD5_modified {x C dx aw : Addr} {wes : Es} {p : Str} {e s : We} {Φ : AV → Store → Prop} (hx : ChkAt σ x cMD5Checker dx aw wes) (hp : wes.get p = some e.av) (φ : Φ (.bool (if e.ts = s.ts then false else if e.sz = s.sz then s.tx != e.tx else true)) σ) :
    Ca (cx w mg mb h₀ stk) (d + 2) true σ (.val (.ref Ym)) [.ref x,.str p,e.av,s.av] [] Φ := by
  refine J3 (V7 w.params) (ab := [("self",.ref x),("file_path",.str p),("file_stat",e.av),("state",s.av)]) (bin4 fun _ _ _ _ _ => BindsTo.of_eq rfl) (by kernel_rfl) fun stk' => ?_
  refine Jb (Jd (Ja (by rfl) (by rfl) (Qk rfl (vs := [.int s.ts,.int s.sz,.str s.tx]) (by rfl) (Je (by rfl) (Je (by rfl) (Je (by rfl) ?_))))))
  refine Jb (Jj (Jf (Jp (Ja (by rfl) (by rfl) (Ji (Jo (v := .int e.ts) (fun _ _ => rfl) (by decide) (by decide) (by rfl) (Ja (by rfl) (by rfl) (Yt ⟨_,rfl,?_⟩))))))))
  by_cases h : e.ts = s.ts
  · rw [show (e.ts == s.ts) = true by simp [h]]
    rw [if_pos h] at φ
    exact Jb (Jm (Qw φ))
  · rw [show (e.ts == s.ts) = false by simp [h]]
    rw [if_neg h] at φ
    refine Jc ?_
    refine Jb (Jj (Jf (Jp (Ja (by rfl) (by rfl) (Ji (Jo (v := .int e.sz) (fun _ _ => rfl) (by decide) (by decide) (by rfl) (Ja (by rfl) (by rfl) (Yd ⟨_,rfl,?_⟩))))))))
    by_cases h' : e.sz = s.sz
    · rw [show (e.sz != s.sz) = false by simp [h']]
      rw [if_pos h'] at φ
      refine Jc ?_
      refine Jb (Jm (Yr (Ja (by rfl) (by rfl) (Jp (Jk (Ja (by rfl) (by rfl) (Js (fm := Jv) hx.x hx.dx (by rfl) (by kernel_rfl) ?_)))))))
      exact Ja (by rfl) (by rfl) (Ca.cw (V4 (.inl rfl) hx hp (Ji (Jo (v := .str e.tx) (fun _ _ => rfl) (by decide) (by decide) (by rfl) (Ye φ)))))
    · rw [show (e.sz != s.sz) = true by simp [h']]
      rw [if_neg h'] at φ
      exact Jb (Jm (Qw φ))
theorem TS_state {x dx aw : Addr} {wes : Es} {p : Str} {e : We} {v : AV} {Φ : AV → Store → Prop} (hx : ChkAt σ x cTimestampChecker dx aw wes) (hp : wes.get p = some e.av) (φ : Φ (.int e.ts) σ) :
    Ca (cx w mg mb h₀ stk) (d + 2) hf σ (.val (.ref Yi)) [.ref x,.str p,v] [] Φ := by
  refine J3 (V1 w.params) (ab := [("self",.ref x),("dep",.str p),("current_state",v)]) (bin3 fun _ _ _ _ => BindsTo.of_eq rfl) (by kernel_rfl) fun stk' => ?_
  refine Jb (Jm (Jp (Jk (Ja (by rfl) (by rfl) (Js (fm := Jv) hx.x hx.dx (by rfl) (by kernel_rfl) ?_)))))
  exact Ja (by rfl) (by rfl) (Ca.cw (V4 (.inr rfl) hx hp (Ji (Jo (v := .int e.ts) (fun _ _ => rfl) (by decide) (by decide) (by rfl) φ))))
noncomputable def tl : List Stmt → List Stmt | _ :: r => r | [] => []
noncomputable def stAV : Option We → AV
  | none => .none
  | some s => s.av
theorem MD5_state {x dx aw : Addr} {wes : Es} {p : Str} {e : We} {s : Option We} {Φ : AV → Store → Prop} (hx : ChkAt σ x cMD5Checker dx aw wes) (hp : wes.get p = some e.av) (φ : Φ (if s.map We.ts = some e.ts then .none else e.av) σ) :
    Ca (cx w mg mb h₀ stk) (d + 2) hf σ (.val (.ref Yc)) [.ref x,.str p,stAV s] [] Φ := by
  have info : ∀ {stk' : List Env} {d : Nat} {hf : Bool} {Ψ : AV → Store → Prop},Ψ e.av σ → Ca (cx w mg mb h₀ stk') (d + 1) hf σ (.val (.ref Jv)) [.ref x,.str p] [] Ψ := fun q => V4 (.inl rfl) hx hp q
  refine J3 (isD_MD5Checker_get_state w.params) (ab := [("self",.ref x),("dep",.str p),("current_state",stAV s)]) (bin3 fun _ _ _ _ => BindsTo.of_eq rfl) (by kernel_rfl) fun stk' => ?_
  refine Jb (Jd (Jp (Jk (Ja (by rfl) (by rfl) (Js (fm := Jv) hx.x hx.dx (by rfl) (by kernel_rfl) ?_)))))
  refine Ja (by rfl) (by rfl) (Ca.cw (info (Ji (Jo (v := .int e.ts) (fun _ _ => rfl) (by decide) (by decide) (by rfl) (Je (by rfl) ?_)))))
  have fin : ∀ {ℓ : Locs},ℓ "self" = some (.ref x) → ℓ "dep" = some (.str p) → ℓ "timestamp" = some (.int e.ts) → Φ e.av σ → Ss ((cx w mg mb h₀ stk).on stk') ⟨"MD5Checker.get_state" ++ ".<locals>.",fs [6,2],some Yc,.ref 173,d + 1,hf⟩ ℓ σ (tl (tl (subB (fS [6,2])))) (fun r _ σ' => Φ (retv r) σ') := by
    intro ℓ l1 l2 l3 φ
    refine Jb (Jd (Jp (Jk (Ja (by rfl) l1 (Js (fm := Jv) hx.x hx.dx (by rfl) (by kernel_rfl) ?_)))))
    refine Ja (by rfl) l2 (Ca.cw (info (Ji (Jo (v := .int e.sz) (fun _ _ => rfl) (by decide) (by decide) (by rfl) (Je (by rfl) ?_)))))
    refine Jb (Jd (Jp (Jk (Ja (by rfl) l1 (Js (fm := Jv) hx.x hx.dx (by rfl) (by kernel_rfl) ?_)))))
    refine Ja (by rfl) l2 (Ca.cw (info (Ji (Jo (v := .str e.tx) (fun _ _ => rfl) (by decide) (by decide) (by rfl) (Je (by rfl) ?_)))))
    exact Jb (Jm (Jq (Ja (by rfl) l3 (Ja (by rfl) (by rfl) (Ja (by rfl) (by rfl) ⟨by simp,φ⟩)))))
  cases s with
  | none =>
    refine Jb (Jj (Qy ?_))
    refine Jy (Ja (by rfl) (by rfl) (Ub ?_))
    exact Jc (fin (by rfl) (by rfl) (by rfl) φ)
  | some s =>
    refine Jb (Jj (Qy ?_))
    refine Jy (Ja (by rfl) (by rfl) (tr_tup (vs := [.int s.ts,.int s.sz,.str s.tx]) (by simp) ?_))
    refine Jf (Jp (Ja (by rfl) (by rfl) (Ji (Jo (v := .int s.ts) (fun _ _ => rfl) (by decide) (by decide) (by rfl) (Ja (by rfl) (by rfl) (Yt ⟨_,rfl,?_⟩))))))
    by_cases h : s.ts = e.ts
    · rw [show (s.ts == e.ts) = true by simp [h]]
      rw [if_pos (by simp [h])] at φ
      exact Jb (st_return_none φ)
    · rw [show (s.ts == e.ts) = false by simp [h]]
      rw [if_neg (by simpa using h)] at φ
      exact Jc (fin (by rfl) (by rfl) (by rfl) φ)
end

theorem J9 {σ : Store} {a b : Addr} {o : AO} (h : σ a = some o) (n : σ b = none) : b ≠ a := by rintro rfl; rw [h] at n; cases n
structure Ext (F : Addr → Prop) (σ σ' : Store) : Prop where
  keep : Keep F σ σ'
  live : ∀ b,σ b ≠ none → σ' b ≠ none
section
variable {F F' : Addr → Prop} {σ σ' σ'' : Store} {a b : Addr} {o : AO}
theorem Ext.refl : Ext F σ σ := ⟨.refl,fun _ h => h⟩
theorem Ext.back (e : Ext F σ σ') (h : σ' a = none) : σ a = none := Classical.byContradiction fun n => e.live a n h
theorem Ext.own (e : Ext F σ σ') (h : F a) : Ext F σ (σ'.set a o) := ⟨fun b hb nb => by
    have : b ≠ a := by rintro rfl; exact nb h
    rw [Store.set_ne this]; exact e.keep b hb nb,fun b hb => Store.set_some (e.live b hb)⟩
theorem Ext.new (e : Ext F σ σ') (h : σ a = none) : Ext F σ (σ'.set a o) := ⟨fun b hb nb => by
    have : b ≠ a := by rintro rfl; exact hb h
    rw [Store.set_ne this]; exact e.keep b hb nb,fun b hb => Store.set_some (e.live b hb)⟩
theorem Ext.alloc (e : Ext F σ σ') (h : σ' a = none) : Ext F σ (σ'.set a o) := e.new (e.back h)
theorem Ext.get (e : Ext F σ σ') (h : σ b = some o) (n : ¬ F b) : σ' b = some o := e.keep.get h n
theorem Ext.trans (x : Ext F σ σ') (y : Ext F' σ' σ'') (h : ∀ b,F' b → F b ∨ σ b = none) : Ext F σ σ'' := by
  refine ⟨fun b hb nb => ?_,fun b hb => y.live b (x.live b hb)⟩
  cases q : σ b with
  | none => exact absurd q hb
  | some o =>
    refine y.get (x.get q nb) fun f => ?_
    rcases h b f with k | k
    · exact nb k
    · rw [q] at k; cases k
theorem Ext.weaken {G : Addr → Prop} (E : Ext F σ σ') (h : ∀ b,F b → G b ∨ σ b = none) : Ext G σ σ' := ⟨fun b hb ng => E.keep b hb fun f => by
    rcases h b f with k | k
    · exact ng k
    · exact hb k,E.live⟩
end
section
variable {c : Cx} {f : Fn} {ℓ : Locs} {σ : Store}
theorem J7 {x C dx : Addr} {es : Es} {name : Str} {v : AV} {Φ : Store → Prop} (hx : σ x = some (.inst C dx)) (hd : σ dx = some (.dict es))
    (k : okSet c.K C name = true) (hz : es.length ≤ 1000) (ne : x ≠ dx)
    (q : ∀ σ',σ' x = some (.inst C dx) → σ' dx = some (.dict (es.put name v)) → Ext (· = dx) σ σ' → Φ σ') : OpU c f ℓ σ [.ref x,v] (ap2 fun o v => setAttr o name v) Φ :=
  Yw hx hd k hz (q _ ((Store.set_ne ne).trans hx) (Store.set_same _ _ _) (Ext.refl.own rfl))
end
section
variable {w : World} {mg mb : Str → Option Value} {h₀ : Heap} {stk : List Env} {σ : Store} {d : Nat} {hf : Bool}
noncomputable def dsEs (b : Bool) (st : Str) (rs : Addr) (er : AV) : Es := [("get_log",.bool b),("status",.str st),("reasons",.ref rs),("error_reason",er)]
theorem Status_init {b : Bool} {x dx : Addr} {Φ : AV → Store → Prop} (hx : σ x = some (.inst cDependencyStatus dx)) (hd : σ dx = some (.dict [])) (ne : x ≠ dx)
    (φ : ∀ rs σ',σ' x = some (.inst cDependencyStatus dx) → σ' dx = some (.dict (dsEs b "up-to-date" rs .none)) → σ' rs = some (.dict []) → σ rs = none → Ext (· = dx) σ σ' → Φ .none σ') :
    Ca (cx w mg mb h₀ stk) (d + 1) hf σ (.val (.ref Yn)) [.ref x,.bool b] [] Φ := by
  refine J3 (V8 w.params) (ab := [("self",.ref x),("get_log",.bool b)]) (bin2 fun _ _ _ => BindsTo.of_eq rfl) (by kernel_rfl) fun stk' => ?_
  refine Jb (Jd (Ja (by rfl) (by rfl) (Jw (Ja (by rfl) (by rfl) (J7 hx hd (by kernel_rfl) (by simp) ne fun σ₁ hx₁ hd₁ E₁ => ?_)))))
  refine Jb (Jd (Jg (Jw (Ja (by rfl) (by rfl) (J7 hx₁ hd₁ (by kernel_rfl) (Nat.le_of_ble_eq_true rfl) ne fun σ₂ hx₂ hd₂ E₂ => ?_)))))
  refine Jb (Jd (Qn fun rs hrs => Jw (Ja (by rfl) (by rfl) (J7 (Store.set_old hx₂ hrs) (Store.set_old hd₂ hrs) (by kernel_rfl) (Nat.le_of_ble_eq_true rfl) ne fun σ₃ hx₃ hd₃ E₃ => ?_))))
  have nr : rs ≠ dx := J9 hd₂ hrs
  have h₃ := E₃.get (Store.set_same _ _ _) nr
  refine Jb (Jd (Jz (Jw (Ja (by rfl) (by rfl) (J7 hx₃ hd₃ (by kernel_rfl) (Nat.le_of_ble_eq_true rfl) ne fun σ₄ hx₄ hd₄ E₄ => ?_)))))
  have E := E₁.trans E₂ fun _ h => .inl h
  refine Jc (φ rs _ hx₄ hd₄ (E₄.get h₃ nr) (E.back hrs) (((E.alloc hrs).trans E₃ fun _ h => .inl h).trans E₄ fun _ h => .inl h))
theorem add_enter {b : Bool} {x dx rs : Addr} {st s' r : Str} {er v : AV} {as : List AV} {Φ : AV → Store → Prop} (hx : σ x = some (.inst cDependencyStatus dx)) (hd : σ dx = some (.dict (dsEs b st rs er))) (ne : x ≠ dx)
    (has : (as = [.ref x,.str r,v] ∧ s' = "run") ∨ as = [.ref x,.str r,v,.str s'])
    (φ : ∀ stk' (ℓ : Locs) σ₁,ℓ "self" = some (.ref x) → ℓ "reason" = some (.str r) → ℓ "arg" = some v → σ₁ x = some (.inst cDependencyStatus dx) → σ₁ dx = some (.dict (dsEs b s' rs er)) → Ext (· = dx) σ σ₁ →
      Ss (cx w mg mb h₀ stk') ⟨Str.ofString "DependencyStatus.add_reason" ++ ".<locals>.",fs [8,1],some Jr,.ref 226,d,hf⟩ ℓ σ₁ (tl (subB (fS [8,1]))) (fun r _ σ' => Φ (retv r) σ')) :
    Ca (cx w mg mb h₀ stk) (d + 1) hf σ (.val (.ref Jr)) as [] Φ := by
  refine J3 (Zn w.params) (ab := [("self",.ref x),("reason",.str r),("arg",v),("status",.str s')]) ?_ (by kernel_rfl) fun stk' => ?_
  · intro s xs ks ok kb va vk
    have X := Frag.In.keeps ok.X kb
    refine KRs.unnil vk ?_
    rcases has with ⟨rfl,rfl⟩ | rfl
    · refine VRs.uncons va fun _ _ a1 va => ?_; refine VRs.uncons va fun _ _ a2 va => ?_; refine VRs.uncons va fun _ _ a3 va => ?_; refine VRs.unnil va ?_
      exact ⟨_,kp_binds X (fun S => by kernel_rfl),.cons a1 (.cons a2 (.cons a3 (.cons (.str _ 467) .nil)))⟩
    · refine VRs.uncons va fun _ _ a1 va => ?_; refine VRs.uncons va fun _ _ a2 va => ?_; refine VRs.uncons va fun _ _ a3 va => ?_; refine VRs.uncons va fun _ _ a4 va => ?_; refine VRs.unnil va ?_
      exact ⟨_,kp_binds X (fun S => by rfl),.cons a1 (.cons a2 (.cons a3 (.cons a4 .nil)))⟩
  refine Jb (Jd (Ja (by rfl) (by rfl) (Jw (Ja (by rfl) (by rfl) (J7 hx hd (by kernel_rfl) (Nat.le_of_ble_eq_true rfl) ne fun σ₁ hx₁ hd₁ E₁ => ?_)))))
  exact φ stk' _ σ₁ (by rfl) (by rfl) (by rfl) hx₁ hd₁ E₁
theorem Status_add0 {x dx rs : Addr} {st s' r : Str} {er v : AV} {as : List AV} {Φ : AV → Store → Prop} (hx : σ x = some (.inst cDependencyStatus dx)) (hd : σ dx = some (.dict (dsEs false st rs er))) (ne : x ≠ dx)
    (has : (as = [.ref x,.str r,v] ∧ s' = "run") ∨ as = [.ref x,.str r,v,.str s'])
    (φ : ∀ σ',σ' x = some (.inst cDependencyStatus dx) → σ' dx = some (.dict (dsEs false s' rs er)) → Ext (· = dx) σ σ' → Φ (.bool true) σ') :
    Ca (cx w mg mb h₀ stk) (d + 1) hf σ (.val (.ref Jr)) as [] Φ := by
  refine add_enter hx hd ne has fun stk' ℓ σ₁ l1 l2 l3 hx₁ hd₁ E => ?_
  refine Jb (Jj (Jy (Jh (Ja (by rfl) l1 (Jn (v := .bool false) hx₁ hd₁ (by rfl) (by kernel_rfl) (by rfl) (J4 ?_))))))
  refine Jc ?_
  exact Jb (Jm (ev_not (Jh (Ja (by rfl) l1 (Jn (v := .bool false) hx₁ hd₁ (by rfl) (by kernel_rfl) (by rfl) (J4 (φ _ hx₁ hd₁ E)))))))
theorem Status_addN {x dx rs : Addr} {st s' r : Str} {er v : AV} {as : List AV} {es : Es} {Φ : AV → Store → Prop} (hx : σ x = some (.inst cDependencyStatus dx)) (hd : σ dx = some (.dict (dsEs true st rs er))) (ne : x ≠ dx)
    (hrs : σ rs = some (.dict es)) (nr : rs ≠ dx) (hz : es.length ≤ 900) (hes : es.get r = none) (has : (as = [.ref x,.str r,v] ∧ s' = "run") ∨ as = [.ref x,.str r,v,.str s'])
    (φ : ∀ σ' l,σ l = none → σ' x = some (.inst cDependencyStatus dx) → σ' dx = some (.dict (dsEs true s' rs er)) → σ' rs = some (.dict (es ++ [(r,.ref l)])) → σ' l = some (.list [v]) → Ext (fun y => y = dx ∨ y = rs) σ σ' → Φ (.bool false) σ') :
    Ca (cx w mg mb h₀ stk) (d + 1) hf σ (.val (.ref Jr)) as [] Φ := by
  refine add_enter hx hd ne has fun stk' ℓ σ₁ l1 l2 l3 hx₁ hd₁ E => ?_
  have hrs₁ := E.get hrs nr
  have nx : x ≠ rs := by rintro rfl; rw [hrs₁] at hx₁; cases hx₁
  refine Jb (Jj (Jy (Jh (Ja (by rfl) l1 (Jn (v := .bool true) hx₁ hd₁ (by rfl) (by kernel_rfl) (by rfl) (J4 ?_))))))
  refine Jb (Jj (Jf (Ja (by rfl) l2 (Jh (Ja (by rfl) l1 (Jn hx₁ hd₁ (by rfl) (by kernel_rfl) (by rfl) (Q7 hrs₁ ⟨_,rfl,?_⟩)))))))
  rw [show es.has r = false by rw [Es.has_get,hes]; rfl]
  refine Jb (Jd (J6 ⟨by simp,fun l hl => Qt (Jh (Ja (by rfl) l1 (Jn (Store.set_old hx₁ hl) (Store.set_old hd₁ hl) (by rfl) (by kernel_rfl) (by rfl) (Ja (by rfl) l2 (J5 (Store.set_old hrs₁ hl) (by omega) ?_)))))⟩))
  refine Jc ?_
  have nlr : l ≠ rs := J9 hrs₁ hl
  have nld : l ≠ dx := J9 hd₁ hl
  have nlx : l ≠ x := J9 hx₁ hl
  have zl := E.back hl
  have E₂ := (((E.weaken (G := fun y => y = dx ∨ y = rs) fun _ h => .inl (.inl h)).alloc hl (o := .list [])).own (a := rs) (o := .dict (es.put r (.ref l))) (.inr rfl)).new (a := l) (o := .list ([] ++ [v])) zl
  have hx₂ : ((σ₁.set l (.list [])).set rs (.dict (es.put r (.ref l)))) x = some (.inst cDependencyStatus dx) := (Store.set_ne nx).trans ((Store.set_ne nlx.symm).trans hx₁)
  have hd₂ : ((σ₁.set l (.list [])).set rs (.dict (es.put r (.ref l)))) dx = some (.dict (dsEs true s' rs er)) := (Store.set_ne nr.symm).trans ((Store.set_ne nld.symm).trans hd₁)
  have hl₂ : ((σ₁.set l (.list [])).set rs (.dict (es.put r (.ref l)))) l = some (.list []) := (Store.set_ne nlr).trans (Store.set_same _ _ _)
  have hr₂ : ((σ₁.set l (.list [])).set rs (.dict (es.put r (.ref l)))) rs = some (.dict (es.put r (.ref l))) := Store.set_same _ _ _
  refine Jb (J0 (Jk (Jp (Jh (Ja (by rfl) l1 (Jn hx₂ hd₂ (by rfl) (by kernel_rfl) (by rfl) (Ja (by rfl) l2 (Qa (fun _ _ => rfl) hr₂ (Es.get_put_same ..) ⟨_,Qd (.inl hl₂) PySem.F.slot_list_append PySem.F.type_list_append,cok,Ja (by rfl) l3 (Qe hl₂ (by simp) ?_)⟩))))))))
  refine Jc ?_
  have hx₃ := (Store.set_ne (o := .list ([] ++ [v])) nlx.symm).trans hx₂
  have hd₃ := (Store.set_ne (o := .list ([] ++ [v])) nld.symm).trans hd₂
  refine Jb (Jm (ev_not (Jh (Ja (by rfl) l1 (Jn (v := .bool true) hx₃ hd₃ (by rfl) (by kernel_rfl) (by rfl) (J4 ?_))))))
  refine φ _ l zl hx₃ hd₃ ?_ (Store.set_same _ _ _) E₂
  rw [Store.set_ne nlr.symm,hr₂,Es.put_new hes]
theorem Status_addO {x dx rs l : Addr} {st s' r : Str} {er v : AV} {as vs : List AV} {es : Es} {Φ : AV → Store → Prop} (hx : σ x = some (.inst cDependencyStatus dx)) (hd : σ dx = some (.dict (dsEs true st rs er))) (ne : x ≠ dx)
    (hrs : σ rs = some (.dict es)) (nr : rs ≠ dx) (hes : es.get r = some (.ref l)) (hl : σ l = some (.list vs)) (hz : vs.length ≤ 900) (has : (as = [.ref x,.str r,v] ∧ s' = "run") ∨ as = [.ref x,.str r,v,.str s'])
    (φ : ∀ σ',σ' x = some (.inst cDependencyStatus dx) → σ' dx = some (.dict (dsEs true s' rs er)) → σ' rs = some (.dict es) → σ' l = some (.list (vs ++ [v])) → Ext (fun y => y = dx ∨ y = l) σ σ' → Φ (.bool false) σ') :
    Ca (cx w mg mb h₀ stk) (d + 1) hf σ (.val (.ref Jr)) as [] Φ := by
  refine add_enter hx hd ne has fun stk' ℓ σ₁ l1 l2 l3 hx₁ hd₁ E => ?_
  have hrs₁ := E.get hrs nr
  have nld : l ≠ dx := by rintro rfl; rw [hd] at hl; cases hl
  have nlr : l ≠ rs := by rintro rfl; rw [hrs] at hl; cases hl
  have nlx : l ≠ x := by rintro rfl; rw [hx] at hl; cases hl
  have hl₁ := E.get hl nld
  refine Jb (Jj (Jy (Jh (Ja (by rfl) l1 (Jn (v := .bool true) hx₁ hd₁ (by rfl) (by kernel_rfl) (by rfl) (J4 ?_))))))
  refine Jb (Jj (Jf (Ja (by rfl) l2 (Jh (Ja (by rfl) l1 (Jn hx₁ hd₁ (by rfl) (by kernel_rfl) (by rfl) (Q7 hrs₁ ⟨_,rfl,?_⟩)))))))
  rw [show es.has r = true by rw [Es.has_get,hes]; rfl]
  refine Jc ?_
  refine Jb (J0 (Jk (Jp (Jh (Ja (by rfl) l1 (Jn hx₁ hd₁ (by rfl) (by kernel_rfl) (by rfl) (Ja (by rfl) l2 (Qa (fun _ _ => rfl) hrs₁ hes ⟨_,Qd (.inl hl₁) PySem.F.slot_list_append PySem.F.type_list_append,cok,Ja (by rfl) l3 (Qe hl₁ (by omega) ?_)⟩))))))))
  refine Jc ?_
  have hx₃ := (Store.set_ne (o := .list (vs ++ [v])) nlx.symm).trans hx₁
  have hd₃ := (Store.set_ne (o := .list (vs ++ [v])) nld.symm).trans hd₁
  refine Jb (Jm (ev_not (Jh (Ja (by rfl) l1 (Jn (v := .bool true) hx₃ hd₃ (by rfl) (by kernel_rfl) (by rfl) (J4 ?_))))))
  exact φ _ hx₃ hd₃ ((Store.set_ne nlr.symm).trans hrs₁) (Store.set_same _ _ _) ((E.weaken (G := fun y => y = dx ∨ y = l) fun _ h => .inl (.inl h)).own (.inr rfl))
theorem Status_set {b : Bool} {x dx rs : Addr} {st r : Str} {er v : AV} {es : Es} {Φ : AV → Store → Prop} (hx : σ x = some (.inst cDependencyStatus dx)) (hd : σ dx = some (.dict (dsEs b st rs er))) (ne : x ≠ dx)
    (hrs : σ rs = some (.dict es)) (nr : rs ≠ dx) (hz : es.length ≤ 900) (hes : es.get r = none)
    (φ : ∀ σ',σ' x = some (.inst cDependencyStatus dx) → σ' dx = some (.dict (dsEs b "run" rs er)) → σ' rs = some (.dict (if b = true then es ++ [(r,v)] else es)) → Ext (fun y => y = dx ∨ y = rs) σ σ' → Φ (.bool (!b)) σ') :
    Ca (cx w mg mb h₀ stk) (d + 1) hf σ (.val (.ref J2)) [.ref x,.str r,v] [] Φ := by
  refine J3 (Zo w.params) (ab := [("self",.ref x),("reason",.str r),("arg",v)]) (bin3 fun _ _ _ _ => BindsTo.of_eq rfl) (by kernel_rfl) fun stk' => ?_
  refine Jb (Jd (Jg (Jw (Ja (by rfl) (by rfl) (J7 hx hd (by kernel_rfl) (Nat.le_of_ble_eq_true rfl) ne fun σ₁ hx₁ hd₁ E => ?_)))))
  have hrs₁ := E.get hrs nr
  have nx : x ≠ rs := by rintro rfl; rw [hrs₁] at hx₁; cases hx₁
  refine Jb (Jj (Jy (Jh (Ja (by rfl) (by rfl) (Jn (v := .bool b) hx₁ hd₁ (by rfl) (by kernel_rfl) (by rfl) (J4 ?_))))))
  have E' := E.weaken (G := fun y => y = dx ∨ y = rs) fun _ h => .inl (.inl h)
  cases b with
  | false =>
    refine Jc ?_
    exact Jb (Jm (ev_not (Jh (Ja (by rfl) (by rfl) (Jn (v := .bool false) hx₁ hd₁ (by rfl) (by kernel_rfl) (by rfl) (J4 (φ _ hx₁ hd₁ hrs₁ E')))))))
  | true =>
    refine Jb (Jd (Ja (by rfl) (by rfl) (Qt (Jh (Ja (by rfl) (by rfl) (Jn hx₁ hd₁ (by rfl) (by kernel_rfl) (by rfl) (Ja (by rfl) (by rfl) (J5 hrs₁ (by omega) ?_))))))))
    refine Jc ?_
    have hx₂ := (Store.set_ne (o := .dict (es.put r v)) nx).trans hx₁
    have hd₂ := (Store.set_ne (o := .dict (es.put r v)) nr.symm).trans hd₁
    refine Jb (Jm (ev_not (Jh (Ja (by rfl) (by rfl) (Jn (v := .bool true) hx₂ hd₂ (by rfl) (by kernel_rfl) (by rfl) (J4 (φ _ hx₂ hd₂ ?_ (E'.own (.inr rfl)))))))))
    rw [Store.set_same,Es.put_new hes]; rfl
theorem Status_msg {b : Bool} {x dx rs : Addr} {st : Str} {er : AV} {Φ : AV → Store → Prop} (hx : σ x = some (.inst cDependencyStatus dx)) (hd : σ dx = some (.dict (dsEs b st rs er))) (he : handedA er = true) (φ : Φ er σ) :
    Ca (cx w mg mb h₀ stk) (d + 1) hf σ (.val (.ref Qi)) [.ref x] [] Φ := by
  refine J3 (Yq w.params) (ab := [("self",.ref x)]) (bin1 fun _ _ => BindsTo.of_eq rfl) (by kernel_rfl) fun stk' => ?_
  exact Jb (Jm (Jh (Ja (by rfl) (by rfl) (Jn hx hd (by rfl) (by kernel_rfl) he φ))))
theorem JsonDB_remove {x dx a : Addr} {es : Es} {D : Db} {N : Nat} {F : Addr → Prop} {t : Str} {Φ : AV → Store → Prop} (hx : σ x = some (.inst cJsonDB dx)) (hd : σ dx = some (.dict es)) (he : es.get "_db" = some (.ref a))
    (hD : DbAt σ a D N F) (hN : N ≤ 900) (φ : ∀ σ',DbAt σ' a (fun q => if q = t then none else D q) N F → Ext (· = a) σ σ' → Φ .none σ') :
    Ca (cx w mg mb h₀ stk) (d + 1) hf σ (.val (.ref aJsonDB_remove)) [.ref x,.str t] [] Φ := by
  have hD' := hD
  obtain ⟨fa,des,hda,hlen,hnone,hsome,hinj⟩ := hD
  refine J3 (isD_JsonDB_remove w.params) (ab := [("self",.ref x),("task_id",.str t)]) (bin2 fun _ _ _ => BindsTo.of_eq rfl) (by kernel_rfl) fun stk' => ?_
  refine Jb (Jj (Jf (Ja (by rfl) (by rfl) (Jh (Ja (by rfl) (by rfl) (Jn hx hd he (by kernel_rfl) (by rfl) (op_in hda ⟨_,rfl,?_⟩)))))))
  cases hDt : D t with
  | none =>
    rw [show des.has t = false by rw [Es.has_get,hnone t hDt]; rfl]
    refine Jc (Jc (φ σ ?_ .refl))
    rw [show (fun q => if q = t then none else D q) = D by
      funext q; split
      · rename_i h; rw [h,hDt]
      · rfl]
    exact hD'
  | some dd =>
    obtain ⟨i,hi,fi,nia,hσi,hl⟩ := hsome t dd hDt
    rw [show des.has t = true by rw [Es.has_get,hi]; rfl]
    refine Jb (st_del_sub (Jh (Ja (by rfl) (by rfl) (Jn hx hd he (by kernel_rfl) (by rfl) (Ja (by rfl) (by rfl) (opu_del_dict hda (by omega) (by rw [hi]; rfl) ?_))))))
    refine Jc (Jc (φ _ ⟨fa,des.del t,Store.set_same _ _ _,Nat.le_trans (List.length_filter_le _ _) hlen,fun q hq => ?_,fun q d' hq => ?_,fun q q' j h1 h2 => ?_⟩ (Ext.refl.own rfl)))
    · rw [Es.get_del]
      by_cases e : q = t
      · rw [if_pos e]
      · rw [if_neg e]; exact hnone q (by simpa [e] using hq)
    · by_cases e : q = t
      · rw [if_pos e] at hq; cases hq
      · rw [if_neg e] at hq
        obtain ⟨j,h1,h2,h3,h4,h5⟩ := hsome q d' hq
        exact ⟨j,by rw [Es.get_del,if_neg e]; exact h1,h2,h3,(Store.set_ne h3).trans h4,h5⟩
    · rw [Es.get_del] at h1 h2
      split at h1
      · cases h1
      · split at h2
        · cases h2
        · exact hinj _ _ _ h1 h2
theorem Dependency_remove {x dx y dy a ch : Addr} {es : Es} {D : Db} {N : Nat} {F : Addr → Prop} {t : Str} {Φ : AV → Store → Prop} (hx : DepAt σ x es dx y dy a ch)
    (hD : DbAt σ a D N F) (hN : N ≤ 900) (φ : ∀ σ',DbAt σ' a (fun q => if q = t then none else D q) N F → Ext (· = a) σ σ' → Φ .none σ') :
    Ca (cx w mg mb h₀ stk) (d + 2) hf σ (.val (.ref X4)) [.ref x,.str t] [] Φ := by
  refine J3 (isD_Dependency_remove w.params) (ab := [("self",.ref x),("task_id",.str t)]) (bin2 fun _ _ _ => BindsTo.of_eq rfl) (by kernel_rfl) fun stk' => ?_
  refine Jb (J0 (Jk (Jh (Ja (by rfl) (by rfl) (Jn hx.x hx.dx hx.back (by kernel_rfl) (by rfl) (Js (fm := aJsonDB_remove) hx.y hx.dy (by rfl) (by kernel_rfl) ?_))))))
  exact Ja (by rfl) (by rfl) (Ca.cw (JsonDB_remove hx.y hx.dy (by rfl) hD hN fun σ' h E => Jc (φ σ' h E)))
end

theorem V5 {x : Str} : ∀ {l : List Str} {i : Nat},l.Nodup → l[i]? = some x → x ∉ l.take i
  | [],_,_,e => by simp at e
  | y :: r,0,_,_ => by simp
  | y :: r,i + 1,h,e => by
    rw [List.nodup_cons] at h
    simp only [List.getElem?_cons_succ] at e
    rw [List.take_succ_cons,List.mem_cons]
    rintro (rfl | m)
    · exact h.1 (List.mem_of_getElem? e)
    · exact V5 h.2 e m
theorem any_false {x : Str} {l : List Str} (h : x ∉ l) : l.any (· == x) = false := by
  rw [List.any_eq_false]
  rintro y hy e
  rw [beq_iff_eq] at e
  exact h (e ▸ hy)
theorem Yo {ss : List Str} {i : Nat} {v : AV} (e : (strsA ss)[i]? = some v) : ∃ s,v = .str s ∧ ss[i]? = some s := by
  rw [List.getElem?_map] at e
  cases h : ss[i]? with
  | none => rw [h] at e; cases e
  | some s => rw [h] at e; cases e; exact ⟨s,rfl,rfl⟩
theorem strs_take {ss : List Str} {i : Nat} {s : Str} (e : ss[i]? = some s) : strsA (ss.take i) ++ [.str s] = strsA (ss.take (i + 1)) := by
  simp only [strsA,List.take_add_one,e,List.map_append]; rfl
theorem Store.set_set {σ : Store} {a : Addr} {o o' : AO} : (σ.set a o).set a o' = σ.set a o' := by
  funext b; unfold Store.set; split <;> rfl
theorem Store.set_self {σ : Store} {a : Addr} {o : AO} (h : σ a = some o) : σ.set a o = σ := by
  funext b; unfold Store.set; split
  · rename_i e; rw [e,h]
  · rfl
/-- a list of the heap that stood before -/
noncomputable def BaseL (h₀ : Heap) (l : Addr) (vs : List AV) : Prop := ∃ xs n,h₀.get? l = some (listObj xs n) ∧ ∀ h,(∀ b o,h₀.get? b = some o → h.get? b = some o) → VRs h vs xs.toList
section
variable {w : World} {mg mb : Str → Option Value} {h₀ : Heap} {stk : List Env} {σ : Store} {d : Nat} {hf : Bool}
theorem BaseL.is {l : Addr} {vs : List AV} (b : BaseL h₀ l vs) : ListIs (cx w mg mb h₀ stk) σ l vs := .inr b
theorem glob_bool_type : bootBuiltins "bool" = some (.type "bool") := by decide +kernel
theorem Yp : bootBuiltins "sorted" = some (.builtin "sorted") := by decide +kernel
theorem glob_str_type : bootBuiltins "str" = some (.type "str") := by decide +kernel
theorem Q6 : bootBuiltins "isinstance" = some (.builtin "isinstance") := by decide +kernel
theorem Zj : bootBuiltins "list" = some (.type "list") := by decide +kernel
theorem glob_tuple : bootBuiltins "tuple" = some (.type "tuple") := by decide +kernel
theorem glob_set : bootBuiltins "set" = some (.type "set") := by decide +kernel
theorem glob_dict : bootBuiltins "dict" = some (.type "dict") := by decide +kernel
theorem glob_len : bootBuiltins "len" = some (.builtin "len") := by decide +kernel
theorem Task_expand {x dx fl l : Addr} {es : Es} {deps : List Str} {Φ : AV → Store → Prop} (hx : σ x = some (.inst cTask dx)) (hd : σ dx = some (.dict es)) (hfl : es.get "file_dep" = some (.ref fl)) (hl : σ l = some (.list (strsA deps))) (nl : l ≠ fl) (hσ : σ fl = some (.list []))
    (nd : deps.Nodup) (hz : deps.length ≤ 900) (φ : Φ .none (σ.set fl (.list (strsA deps)))) :
    Ca (cx w mg mb h₀ stk) (d + 1) true σ (.val (.ref Zd)) [.ref x,.ref l] [] Φ := by
  have nx : x ≠ fl := by rintro rfl; rw [hx] at hσ; cases hσ
  have ndx : dx ≠ fl := by rintro rfl; rw [hd] at hσ; cases hσ
  have hl' : ∀ o,(σ.set fl o) l = some (.list (strsA deps)) := fun o => (Store.set_ne nl).trans hl
  refine J3 (Hu w.params) (ab := [("self",.ref x),("file_dep",.ref l)]) (bin2 fun _ _ _ => BindsTo.of_eq rfl) (by kernel_rfl) fun stk' => ?_
  refine Jb (Qu rfl (J1 (Ja (by rfl) (by rfl) ⟨l,_,rfl,.inl hl,Jx _ _ _,
    fun i ℓ σ' => ℓ "self" = some (.ref x) ∧ σ' = σ.set fl (.list (strsA (deps.take i))),⟨by rfl,by rw [List.take_zero]; exact (Store.set_self hσ).symm⟩,fun _ _ _ h => by rw [h.2]; exact .inl (hl' _),?_,?_⟩)))
  · rintro i v ℓ _ hv ⟨l1,rfl⟩
    obtain ⟨s,rfl,hs⟩ := Yo hv
    refine Je (by rfl) ?_
    have hx' : (σ.set fl (.list (strsA (deps.take i)))) x = some (.inst cTask dx) := (Store.set_ne nx).trans hx
    have hd' : (σ.set fl (.list (strsA (deps.take i)))) dx = some (.dict es) := (Store.set_ne ndx).trans hd
    have hl' : (σ.set fl (.list (strsA (deps.take i)))) fl = some (.list (strsA (deps.take i))) := Store.set_same ..
    refine Jb (Jj (Jy (Ju (Jt (by rfl) (by kernel_rfl) Q6 ⟨_,rfl,cok,Ja (by rfl) (by rfl) (Jt (by rfl) (by kernel_rfl) glob_str_type (cw_isi_str (J4 ?_)))⟩))))
    refine Jb (Jj (Jf (Ja (by rfl) (by rfl) (Jh (Ja (by rfl) l1 (Jn hx' hd' hfl (by kernel_rfl) (by rfl) (Qj (.inl hl') ⟨_,rfl,?_⟩)))))))
    rw [any_false (V5 nd hs)]
    refine Jb (J0 (Jk (Jh (Ja (by rfl) l1 (Jn hx' hd' hfl (by kernel_rfl) (by rfl) ⟨_,Qd (.inl hl') PySem.F.slot_list_append PySem.F.type_list_append,cok,Ja (by rfl) (by rfl) (Qe hl' (by simp; omega) ?_)⟩)))))
    refine Jc (Jc (Jc ⟨l1,?_⟩))
    rw [Store.set_set,strs_take hs]
  · rintro ℓ _ ⟨-,rfl⟩
    refine Jc ?_
    rw [show (strsA deps).length = deps.length by simp,List.take_length]
    exact φ
theorem Task_targets {x l : Addr} {ts : List Str} {Φ : AV → Store → Prop} (hl : σ l = some (.list (strsA ts))) (hz : ts.length ≤ 900) (φ : ∀ a,σ a = none → Φ (.ref a) (σ.set a (.list (strsA ts)))) :
    Ca (cx w mg mb h₀ stk) (d + 1) true σ (.val (.ref V9)) [.ref x,.ref l] [] Φ := by
  refine J3 (isD_Task__init_targets w.params) (ab := [("self",.ref x),("items",.ref l)]) (bin2 fun _ _ _ => BindsTo.of_eq rfl) (by kernel_rfl) fun stk' => ?_
  refine Jb (Jd (J6 ⟨by simp,fun a ha => Je (by rfl) ?_⟩))
  have hl' : ∀ o,(σ.set a o) l = some (.list (strsA ts)) := fun o => Store.set_old hl ha
  refine Jb (Qu rfl (J1 (Ja (by rfl) (by rfl) ⟨l,_,rfl,.inl (hl' _),Jx _ _ _,
    fun i ℓ σ' => ℓ "targets" = some (.ref a) ∧ σ' = σ.set a (.list (strsA (ts.take i))),⟨by rfl,by rw [List.take_zero]; rfl⟩,fun _ _ _ h => by rw [h.2]; exact .inl (hl' _),?_,?_⟩)))
  · rintro i v ℓ _ hv ⟨l1,rfl⟩
    obtain ⟨s,rfl,hs⟩ := Yo hv
    refine Je (by rfl) ?_
    have hl' : (σ.set a (.list (strsA (ts.take i)))) a = some (.list (strsA (ts.take i))) := Store.set_same ..
    refine Jb (Jj (Jy (Ju (Jt (by rfl) (by kernel_rfl) Q6 ⟨_,rfl,cok,Ja (by rfl) (by rfl) (Jt (by rfl) (by kernel_rfl) glob_str_type (cw_isi_str (J4 ?_)))⟩))))
    refine Jb (J0 (Jk (Ja (by rfl) l1 ⟨_,Qd (.inl hl') PySem.F.slot_list_append PySem.F.type_list_append,cok,Ja (by rfl) (by rfl) (Qe hl' (by simp; omega) ?_)⟩)))
    refine Jc (Jc ⟨l1,?_⟩)
    rw [Store.set_set,strs_take hs]
  · rintro ℓ _ ⟨l1,rfl⟩
    refine Jb (Jm (Ja (by rfl) l1 ?_))
    rw [show (strsA ts).length = ts.length by simp,List.take_length]
    exact φ a ha
/-- an uptodate value: none,or a bool -/
noncomputable def utV : Option Bool → AV
  | none => .none
  | some b => .bool b
noncomputable def utT (u : Option Bool) : AV := .tup [utV u,.none,.none]
noncomputable def utX : Option Bool → Value × Value
  | none => (.none,.type "NoneType")
  | some b => (.bool b,.type "bool")
theorem utV_plain (u : Option Bool) : plainV (utV u) = some ((utX u).1,(utX u).2) := by cases u <;> rfl
theorem map_at {α β : Type} {g : α → β} {l : List α} {i : Nat} {v : β} (e : (l.map g)[i]? = some v) : ∃ a,v = g a ∧ l[i]? = some a := by
  rw [List.getElem?_map] at e
  cases h : l[i]? with
  | none => rw [h] at e; cases e
  | some s => rw [h] at e; cases e; exact ⟨s,rfl,rfl⟩
theorem map_take {α β : Type} {g : α → β} {l : List α} {i : Nat} {a : α} (e : l[i]? = some a) : (l.take i).map g ++ [g a] = (l.take (i + 1)).map g := by
  simp only [List.take_add_one,e,List.map_append]; rfl
theorem Task_uptodate {x l : Addr} {us : List (Option Bool)} {Φ : AV → Store → Prop} (hl : σ l = some (.list (us.map utV))) (hz : us.length ≤ 900) (φ : ∀ a,σ a = none → Φ (.ref a) (σ.set a (.list (us.map utT)))) :
    Ca (cx w mg mb h₀ stk) (d + 1) true σ (.val (.ref V3)) [.ref x,.ref l] [] Φ := by
  refine J3 (isD_Task__init_uptodate w.params) (ab := [("self",.ref x),("items",.ref l)]) (bin2 fun _ _ _ => BindsTo.of_eq rfl) (by kernel_rfl) fun stk' => ?_
  refine Jb (Jd (J6 ⟨by simp,fun a ha => Je (by rfl) ?_⟩))
  have hl' : ∀ o,(σ.set a o) l = some (.list (us.map utV)) := fun o => Store.set_old hl ha
  refine Jb (Qu rfl (J1 (Ja (by rfl) (by rfl) ⟨l,_,rfl,.inl (hl' _),Jx _ _ _,
    fun i ℓ σ' => ℓ "uptodate" = some (.ref a) ∧ σ' = σ.set a (.list ((us.take i).map utT)),⟨by rfl,by rw [List.take_zero]; rfl⟩,fun _ _ _ h => by rw [h.2]; exact .inl (hl' _),?_,?_⟩)))
  · rintro i v ℓ _ hv ⟨l1,rfl⟩
    obtain ⟨u,rfl,hu⟩ := map_at hv
    refine Je (by rfl) ?_
    have hl' : (σ.set a (.list ((us.take i).map utT))) a = some (.list ((us.take i).map utT)) := Store.set_same ..
    refine Jb (Jj (Jy (Ju (Jt (by rfl) (by kernel_rfl) Q6 ⟨_,rfl,cok,Ja (by rfl) (by rfl) (Qf (v := .ref cresult_dep) (av := .val (.ref cresult_dep)) (by rfl) (by kernel_rfl) (fun _ _ => .val _) (cw_isi (utV_plain u) (r := false) (by cases u <;> kernel_rfl) (J4 ?_)))⟩))))
    refine Jc ?_
    refine Jb (Jj (Ug ?_))
    refine Jy (Ju (Jt (by rfl) (by kernel_rfl) Q6 ⟨_,rfl,cok,Ja (by rfl) (by rfl) (Jt (by rfl) (by kernel_rfl) glob_bool_type (cw_isi (utV_plain u) (r := u.isSome) (by cases u <;> kernel_rfl) (J4 ?_)))⟩))
    cases u with
    | none =>
      refine Jf (Ja (by rfl) (by rfl) (Jz (Qv ⟨_,rfl,?_⟩)))
      refine Jb (J0 (Jk (Ja (by rfl) l1 ⟨_,Qd (.inl hl') PySem.F.slot_list_append PySem.F.type_list_append,cok,Jq (Ja (by rfl) (by rfl) (Jz (Jz ⟨by simp,Qe hl' (by simp; omega) ?_⟩)))⟩)))
      refine Jc (Jc ⟨l1,?_⟩)
      rw [Store.set_set,← map_take hu]; rfl
    | some b =>
      refine Jb (J0 (Jk (Ja (by rfl) l1 ⟨_,Qd (.inl hl') PySem.F.slot_list_append PySem.F.type_list_append,cok,Jq (Ja (by rfl) (by rfl) (Jz (Jz ⟨by simp,Qe hl' (by simp; omega) ?_⟩)))⟩)))
      refine Jc (Jc ⟨l1,?_⟩)
      rw [Store.set_set,← map_take hu]; rfl
  · rintro ℓ _ ⟨l1,rfl⟩
    refine Jb (Jm (Ja (by rfl) l1 ?_))
    rw [show (us.map utV).length = us.length by simp,List.take_length]
    exact φ a ha
end

section
variable {w : World} {mg mb : Str → Option Value} {h₀ : Heap} {stk : List Env} {σ : Store} {d : Nat} {hf : Bool}
theorem Task_deps {x dx l : Addr} {nm : Str} {sl al : Addr} {deps : List Str} {Φ : AV → Store → Prop} (hx : σ x = some (.inst cTask dx)) (hd : σ dx = some (.dict [("name",.str nm),("options",.none),("setup_tasks",.ref sl),("actions",.ref al)])) (ne : x ≠ dx)
    (hl : σ l = some (.list (strsA deps))) (nd : deps.Nodup) (hz : deps.length ≤ 900)
    (φ : ∀ σ' fl tdl wl cl,σ' x = some (.inst cTask dx) → σ' dx = some (.dict [("name",.str nm),("options",.none),("setup_tasks",.ref sl),("actions",.ref al),("dep_changed",.none),("file_dep",.ref fl),("task_dep",.ref tdl),("wild_dep",.ref wl),("calc_dep",.ref cl)]) →
      σ' fl = some (.list (strsA deps)) → σ fl = none → Ext (· = dx) σ σ' → Φ .none σ') :
    Ca (cx w mg mb h₀ stk) (d + 2) true σ (.val (.ref aTask__init_deps)) [.ref x,.ref l,.tup [],.tup []] [] Φ := by
  refine J3 (isD_Task__init_deps w.params) (ab := [("self",.ref x),("file_dep",.ref l),("task_dep",.tup []),("calc_dep",.tup [])]) (bin4 fun _ _ _ _ _ => BindsTo.of_eq rfl) (by kernel_rfl) fun stk' => ?_
  have nld : l ≠ dx := by rintro rfl; rw [hd] at hl; cases hl
  refine Jb (Jd (Jz (Jw (Ja (by rfl) (by rfl) (Yw hx hd (by kernel_rfl) (Nat.le_of_ble_eq_true rfl) ?_)))))
  have E : Ext (· = dx) σ _ := (Ext.refl (σ := σ)).own (a := dx) (o := .dict [("name",.str nm),("options",.none),("setup_tasks",.ref sl),("actions",.ref al),("dep_changed",.none)]) rfl
  refine Jb (Jd (J6 ⟨by simp,fun fl hfl => Jw (Ja (by rfl) (by rfl) (Yw (by walk_at "st") (by walk_at "st") (by kernel_rfl) (Nat.le_of_ble_eq_true rfl) ?_))⟩))
  have nfl : fl ≠ dx := J9 (Store.set_same _ _ _) hfl
  have nfx : x ≠ fl := (J9 ((Store.set_ne ne).trans hx) hfl).symm
  have hfl0 := E.back hfl
  have nlf : l ≠ fl := by rintro rfl; rw [hl] at hfl0; cases hfl0
  have E := (E.alloc hfl (o := .list [])).own (a := dx) (o := .dict [("name",.str nm),("options",.none),("setup_tasks",.ref sl),("actions",.ref al),("dep_changed",.none),("file_dep",.ref fl)]) rfl
  refine Jb (J0 (Jk (Ja (by rfl) (by rfl) (Js (fm := Zd) (by walk_at "st") (Store.set_same _ _ _) (by rfl) (by kernel_rfl) ?_))))
  refine Ja (by rfl) (by rfl) (Ca.cw (Task_expand (fl := fl) (l := l) (by walk_at "st") (Store.set_same _ _ _) (by rfl) (by walk_at "st") nlf (by walk_at "st") nd hz ?_))
  have E := E.new (a := fl) (o := .list (strsA deps)) hfl0
  refine Jb (Jd (J6 ⟨by simp,fun tdl htd => Jw (Ja (by rfl) (by rfl) (Yw (by walk_at "st") (by walk_at "st") (by kernel_rfl) (Nat.le_of_ble_eq_true rfl) ?_))⟩))
  have ntd : tdl ≠ dx := J9 (o := .dict [("name",.str nm),("options",.none),("setup_tasks",.ref sl),("actions",.ref al),("dep_changed",.none),("file_dep",.ref fl)]) (by walk_at "st") htd
  have ntx : x ≠ tdl := (J9 (o := .inst cTask dx) (by walk_at "st") htd).symm
  have ntf : tdl ≠ fl := J9 (o := .list (strsA deps)) (by walk_at "st") htd
  have E := (E.alloc htd (o := .list [])).own (a := dx) (o := .dict [("name",.str nm),("options",.none),("setup_tasks",.ref sl),("actions",.ref al),("dep_changed",.none),("file_dep",.ref fl),("task_dep",.ref tdl)]) rfl
  refine Jb (Jd (J6 ⟨by simp,fun wl hwl => Jw (Ja (by rfl) (by rfl) (Yw (by walk_at "st") (by walk_at "st") (by kernel_rfl) (Nat.le_of_ble_eq_true rfl) ?_))⟩))
  have nwd : wl ≠ dx := J9 (o := .dict [("name",.str nm),("options",.none),("setup_tasks",.ref sl),("actions",.ref al),("dep_changed",.none),("file_dep",.ref fl),("task_dep",.ref tdl)]) (Store.set_same _ _ _) hwl
  have nwx : x ≠ wl := (J9 (o := .inst cTask dx) (by walk_at "st") hwl).symm
  have nwf : wl ≠ fl := J9 (o := .list (strsA deps)) (by walk_at "st") hwl
  have E := (E.alloc hwl (o := .list [])).own (a := dx) (o := .dict [("name",.str nm),("options",.none),("setup_tasks",.ref sl),("actions",.ref al),("dep_changed",.none),("file_dep",.ref fl),("task_dep",.ref tdl),("wild_dep",.ref wl)]) rfl
  refine Jb (Jj (Jy (Ja (by rfl) (by rfl) (tr_tup (by simp) ?_))))
  refine Jc ?_
  refine Jb (Jd (J6 ⟨by simp,fun cl hcl => Jw (Ja (by rfl) (by rfl) (Yw (by walk_at "st") (by walk_at "st") (by kernel_rfl) (Nat.le_of_ble_eq_true rfl) ?_))⟩))
  have ncd : cl ≠ dx := J9 (o := .dict [("name",.str nm),("options",.none),("setup_tasks",.ref sl),("actions",.ref al),("dep_changed",.none),("file_dep",.ref fl),("task_dep",.ref tdl),("wild_dep",.ref wl)]) (Store.set_same _ _ _) hcl
  have ncx : x ≠ cl := (J9 (o := .inst cTask dx) (by walk_at "st") hcl).symm
  have ncf : cl ≠ fl := J9 (o := .list (strsA deps)) (by walk_at "st") hcl
  have E := (E.alloc hcl (o := .list [])).own (a := dx) (o := .dict [("name",.str nm),("options",.none),("setup_tasks",.ref sl),("actions",.ref al),("dep_changed",.none),("file_dep",.ref fl),("task_dep",.ref tdl),("wild_dep",.ref wl),("calc_dep",.ref cl)]) rfl
  refine Jb (Jj (Jy (Ja (by rfl) (by rfl) (tr_tup (by simp) ?_))))
  exact Jc (Jc (φ _ fl tdl wl cl (by walk_at "st") (Store.set_same _ _ _) (by walk_at "st") hfl0 E))
end

section
variable {c : Cx} {f : Fn} {ℓ : Locs} {σ : Store}
theorem ev_keep_list {x : Str} {u : Addr} {vs : List AV} {p1 p2 p3 p4 : Pos} {Φ : AV → Store → Prop} (hk : f.kind x = some .local) (hx : ℓ x = some (.ref u)) (hu : σ u = some (.list vs)) (hz : vs.length ≤ 1000)
    (q : ∀ a σ',σ' a = some (.list vs) → Ext (fun _ => False) σ σ' → Φ (.ref a) σ') (hd : (x == ("__debug__" : Str)) = false := by decide) : Ev c f ℓ σ (.IfExp (.Name x p1) (.Name x p2) (.List [] p3) p4) Φ := by
  refine Qo (Jy (Ja hk hx (tr_list (.inl hu) hz ?_) hd))
  cases vs with
  | nil => exact J6 ⟨by simp,fun a ha => q a _ (Store.set_same _ _ _) (Ext.refl.alloc ha)⟩
  | cons v r => exact Ja hk hx (q u σ hu .refl) hd
end
noncomputable def tkEs (nm : Str) (op : AV) (sl al : Addr) (dc : AV) (fl tdl wl cl ga vs ul tl vd : Addr) (ex : Bool) : Es :=
  [("name",.str nm),("options",op),("setup_tasks",.ref sl),("actions",.ref al),("dep_changed",dc),("file_dep",.ref fl),("task_dep",.ref tdl),("wild_dep",.ref wl),("calc_dep",.ref cl),("getargs",.ref ga),("value_savers",.ref vs),("uptodate",.ref ul),("targets",.ref tl),("subtask_of",.none),("has_subtask",.bool false),("result",.none),("values",.ref vd),("executed",.bool ex)]
section
variable {w : World} {mg mb : Str → Option Value} {h₀ : Heap} {stk : List Env} {σ : Store} {d : Nat} {hf : Bool}
theorem Task_init {x dx a0 l t u : Addr} {nm : Str} {acts : List AV} {deps ts : List Str} {us : List (Option Bool)} {Φ : AV → Store → Prop} (hx : σ x = some (.inst cTask dx)) (hd : σ dx = some (.dict [])) (ne : x ≠ dx) (h_a0 : σ a0 = some (.list acts)) (hz0 : acts.length ≤ 900)
    (hn : (!(Builtin.Str.occurrences nm "=" 0 nm.length 1).isEmpty) = false) (h_l : σ l = some (.list (strsA deps))) (nd : deps.Nodup) (hz : deps.length ≤ 900) (h_t : σ t = some (.list (strsA ts))) (hzt : ts.length ≤ 900) (h_u : σ u = some (.list (us.map utV))) (hzu : us.length ≤ 900)
    (φ : ∀ σ' sl al fl tdl wl cl ga vs ul tl vd,σ' x = some (.inst cTask dx) → σ' dx = some (.dict (tkEs nm .none sl al .none fl tdl wl cl ga vs ul tl vd false)) →
      σ' al = some (.list acts) → σ' fl = some (.list (strsA deps)) → σ' ul = some (.list (us.map utT)) → σ' tl = some (.list (strsA ts)) → σ' vd = some (.dict []) → (σ al = none ∧ σ fl = none ∧ σ ul = none ∧ σ tl = none ∧ σ vd = none) → Ext (· = dx) σ σ' → Φ .none σ') :
    Ca (cx w mg mb h₀ stk) (d + 3) true σ (.val (.ref aTask___init__)) [.ref x,.str nm,.ref a0] [("file_dep",.ref l),("targets",.ref t),("uptodate",.ref u)] Φ := by
  have na0 : a0 ≠ dx := by rintro rfl; rw [hd] at h_a0; cases h_a0
  have nl : l ≠ dx := by rintro rfl; rw [hd] at h_l; cases h_l
  have nt : t ≠ dx := by rintro rfl; rw [hd] at h_t; cases h_t
  have nu : u ≠ dx := by rintro rfl; rw [hd] at h_u; cases h_u
  refine J3 (isD_Task___init__ w.params) (ab := [("self",.ref x),("name",.str nm),("actions",.ref a0),("file_dep",.ref l),("targets",.ref t),("task_dep",.tup []),("uptodate",.ref u),("calc_dep",.tup []),("setup",.tup []),("subtask_of",.none),("has_subtask",.bool false),("getargs",.none)]) ?_ (by kernel_rfl) fun stk' => ?_
  · intro s xs ks ok kb va vk
    have X := Frag.In.keeps ok.X kb
    refine VRs.uncons va fun _ _ a1 va => ?_; refine VRs.uncons va fun _ _ a2 va => ?_; refine VRs.uncons va fun _ _ a3 va => ?_; refine VRs.unnil va ?_
    refine KRs.uncons vk fun _ _ a4 vk => ?_; refine KRs.uncons vk fun _ _ a5 vk => ?_; refine KRs.uncons vk fun _ _ a6 vk => ?_; refine KRs.unnil vk ?_
    refine ⟨_,?_,.cons a1 (.cons a2 (.cons a3 (.cons a4 (.cons a5 (.cons (.tup (a := 425) (xs := #[]) (X _ _ (by kernel_rfl)) .nil) (.cons a6 (.cons (.tup (a := 427) (xs := #[]) (X _ _ (by kernel_rfl)) .nil) (.cons (.tup (a := 428) (xs := #[]) (X _ _ (by kernel_rfl)) .nil) (.cons .none (.cons (.bool false) (.cons .none .nil)))))))))))⟩
    exact kp_binds X fun S => by kernel_rfl
  have E : Ext (· = dx) σ σ := .refl
  refine Jb (Jd (ev_or2 (Ja (by rfl) (by rfl) (Ub (Qn fun ga hga => Je (by rfl) ?_)))))
  have nga : ga ≠ dx := J9 hd hga
  replace h_a0 := Store.set_old (o := .dict []) h_a0 hga
  replace h_l := Store.set_old (o := .dict []) h_l hga
  replace h_t := Store.set_old (o := .dict []) h_t hga
  replace h_u := Store.set_old (o := .dict []) h_u hga
  replace hx := Store.set_old (o := .dict []) hx hga
  replace hd := Store.set_old (o := .dict []) hd hga
  have h_ga : (σ.set ga (.dict [])) ga = _ := Store.set_same _ _ _
  replace E := E.alloc hga (o := .dict [])
  generalize σ.set ga (.dict []) = s0 at *
  refine Jb (Jj (Jf (Jg (Ja (by rfl) (by rfl) (op_in_str hn ⟨_,rfl,?_⟩)))))
  refine Jc ?_
  refine Jb (Jd (Ja (by rfl) (by rfl) (Jw (Ja (by rfl) (by rfl) (J7 hx hd (by kernel_rfl) (Nat.le_of_ble_eq_true rfl) ne fun s1 hx1 hd1 E1 => ?_)))))
  replace h_a0 := E1.get h_a0 na0
  replace h_l := E1.get h_l nl
  replace h_t := E1.get h_t nt
  replace h_u := E1.get h_u nu
  replace h_ga := E1.get h_ga nga
  replace E := E.trans E1 fun _ h => .inl h
  replace hx := hx1
  replace hd : s1 dx = some (.dict [("name",.str nm)]) := hd1
  clear hx1 hd1 E1
  refine Jb (Jd (Jz (Jw (Ja (by rfl) (by rfl) (J7 hx hd (by kernel_rfl) (Nat.le_of_ble_eq_true rfl) ne fun s2 hx1 hd1 E1 => ?_)))))
  replace h_a0 := E1.get h_a0 na0
  replace h_l := E1.get h_l nl
  replace h_t := E1.get h_t nt
  replace h_u := E1.get h_u nu
  replace h_ga := E1.get h_ga nga
  replace E := E.trans E1 fun _ h => .inl h
  replace hx := hx1
  replace hd : s2 dx = some (.dict [("name",.str nm),("options",.none)]) := hd1
  clear hx1 hd1 E1
  refine Jb (Jd (Ju (Jt (by rfl) (by kernel_rfl) Zj ⟨_,rfl,Q8,Ja (by rfl) (by rfl) (cw_list_tup (by simp) fun sl hsl => (Jw (Ja (by rfl) (by rfl) (J7 (Store.set_old hx hsl) (Store.set_old hd hsl) (by kernel_rfl) (Nat.le_of_ble_eq_true rfl) ne fun s3 hx1 hd1 E1 => ?_)))  )⟩)))
  have nsl : sl ≠ dx := J9 hd hsl
  have zsl : σ sl = none := E.back hsl
  replace h_a0 := E1.get (Store.set_old h_a0 hsl) na0
  replace h_l := E1.get (Store.set_old h_l hsl) nl
  replace h_t := E1.get (Store.set_old h_t hsl) nt
  replace h_u := E1.get (Store.set_old h_u hsl) nu
  replace h_ga := E1.get (Store.set_old h_ga hsl) nga
  have h_sl := E1.get (Store.set_same _ _ _) nsl
  replace E := (E.alloc hsl (o := .list [])).trans E1 fun _ h => .inl h
  replace hx := hx1
  replace hd : s3 dx = some (.dict [("name",.str nm),("options",.none),("setup_tasks",.ref sl)]) := hd1
  clear hx1 hd1 E1
  clear h_sl
  refine Jb (Jj (Jf (Ja (by rfl) (by rfl) (Jz (Qv ⟨_,rfl,?_⟩)))))
  refine Jb (Jd (Ju (Jt (by rfl) (by kernel_rfl) Zj ⟨_,rfl,Q8,ev_slice_list .none .none (Ja (by rfl) (by rfl) ⟨a0,_,rfl,.inl h_a0,by omega,fun t1 ht1 => ?_⟩)⟩)))
  have ep : pick acts none none = acts := by simp [pick]
  rw [ep]
  replace hx := Store.set_old (o := .list acts) hx ht1
  replace hd := Store.set_old (o := .list acts) hd ht1
  replace E := E.alloc ht1 (o := .list acts)
  have h_t1 : _ = some (AO.list acts) := Store.set_same s3 t1 (.list acts)
  replace h_a0 := Store.set_old (o := .list acts) h_a0 ht1
  replace h_l := Store.set_old (o := .list acts) h_l ht1
  replace h_t := Store.set_old (o := .list acts) h_t ht1
  replace h_u := Store.set_old (o := .list acts) h_u ht1
  replace h_ga := Store.set_old (o := .list acts) h_ga ht1
  generalize s3.set t1 (.list acts) = s3b at *
  refine cw_list (.inl h_t1) (by omega) fun al hal => Jw (Ja (by rfl) (by rfl) (J7 (Store.set_old hx hal) (Store.set_old hd hal) (by kernel_rfl) (Nat.le_of_ble_eq_true rfl) ne fun s4 hx1 hd1 E1 => ?_))
  have nal : al ≠ dx := J9 hd hal
  have zal : σ al = none := E.back hal
  replace h_a0 := E1.get (Store.set_old h_a0 hal) na0
  replace h_l := E1.get (Store.set_old h_l hal) nl
  replace h_t := E1.get (Store.set_old h_t hal) nt
  replace h_u := E1.get (Store.set_old h_u hal) nu
  replace h_ga := E1.get (Store.set_old h_ga hal) nga
  have h_al := E1.get (Store.set_same _ _ _) nal
  replace E := (E.alloc hal (o := .list acts)).trans E1 fun _ h => .inl h
  replace hx := hx1
  replace hd : s4 dx = some (.dict [("name",.str nm),("options",.none),("setup_tasks",.ref sl),("actions",.ref al)]) := hd1
  clear hx1 hd1 E1
  refine Jc ?_
  clear h_a0
  refine Jb (J0 (Jk (Ja (by rfl) (by rfl) (Js (fm := aTask__init_deps) hx hd (by rfl) (by kernel_rfl) (Ja (by rfl) (by rfl) (Ja (by rfl) (by rfl) (Ja (by rfl) (by rfl) (Ca.cw (Task_deps hx hd ne h_l nd hz fun s5 fl tdl wl cl hx1 hd1 h_fl hfl0 E1 => ?_)))))))))
  have nfl : fl ≠ dx := J9 hd hfl0
  have zfl : σ fl = none := E.back hfl0
  replace h_l := E1.get h_l nl
  replace h_t := E1.get h_t nt
  replace h_u := E1.get h_u nu
  replace h_ga := E1.get h_ga nga
  replace h_al := E1.get h_al nal
  replace E := E.trans E1 fun _ h => .inl h
  replace hx := hx1
  replace hd : s5 dx = some (.dict [("name",.str nm),("options",.none),("setup_tasks",.ref sl),("actions",.ref al),("dep_changed",.none),("file_dep",.ref fl),("task_dep",.ref tdl),("wild_dep",.ref wl),("calc_dep",.ref cl)]) := hd1
  clear hx1 hd1 E1
  refine Jb (Jd (ev_keep_list (by rfl) (by rfl) h_u (by simp; omega) fun u0 s5b h_u0 E1 => Je (by rfl) ?_))
  have nu0 : u0 ≠ dx := by rintro rfl; rw [E1.get hd id] at h_u0; cases h_u0
  replace hx := E1.get hx id
  replace hd := E1.get hd id
  replace E := E.trans E1 fun _ h => h.elim
  replace h_l := E1.get h_l id
  replace h_t := E1.get h_t id
  replace h_u := E1.get h_u id
  replace h_ga := E1.get h_ga id
  replace h_al := E1.get h_al id
  replace h_fl := E1.get h_fl id
  clear E1
  refine Jb (Jd (Ja (by rfl) (by rfl) (Jw (Ja (by rfl) (by rfl) (J7 hx hd (by kernel_rfl) (Nat.le_of_ble_eq_true rfl) ne fun s6 hx1 hd1 E1 => ?_)))))
  replace h_l := E1.get h_l nl
  replace h_t := E1.get h_t nt
  replace h_u := E1.get h_u nu
  replace h_ga := E1.get h_ga nga
  replace h_al := E1.get h_al nal
  replace h_fl := E1.get h_fl nfl
  replace h_u0 := E1.get h_u0 nu0
  replace E := E.trans E1 fun _ h => .inl h
  replace hx := hx1
  replace hd : s6 dx = some (.dict [("name",.str nm),("options",.none),("setup_tasks",.ref sl),("actions",.ref al),("dep_changed",.none),("file_dep",.ref fl),("task_dep",.ref tdl),("wild_dep",.ref wl),("calc_dep",.ref cl),("getargs",.ref ga)]) := hd1
  clear hx1 hd1 E1
  refine Jb (Jj (Jy (Jh (Ja (by rfl) (by rfl) (Jn hx hd (by rfl) (by kernel_rfl) (by rfl) (tr_dict h_ga (by simp) ?_))))))
  refine Jc ?_
  clear h_ga
  refine Jb (Jd (J6 ⟨by simp,fun vs hvs => (Jw (Ja (by rfl) (by rfl) (J7 (Store.set_old hx hvs) (Store.set_old hd hvs) (by kernel_rfl) (Nat.le_of_ble_eq_true rfl) ne fun s7 hx1 hd1 E1 => ?_)))⟩))
  have nvs : vs ≠ dx := J9 hd hvs
  have zvs : σ vs = none := E.back hvs
  replace h_l := E1.get (Store.set_old h_l hvs) nl
  replace h_t := E1.get (Store.set_old h_t hvs) nt
  replace h_u := E1.get (Store.set_old h_u hvs) nu
  replace h_al := E1.get (Store.set_old h_al hvs) nal
  replace h_fl := E1.get (Store.set_old h_fl hvs) nfl
  replace h_u0 := E1.get (Store.set_old h_u0 hvs) nu0
  have h_vs := E1.get (Store.set_same _ _ _) nvs
  replace E := (E.alloc hvs (o := .list [])).trans E1 fun _ h => .inl h
  replace hx := hx1
  replace hd : s7 dx = some (.dict [("name",.str nm),("options",.none),("setup_tasks",.ref sl),("actions",.ref al),("dep_changed",.none),("file_dep",.ref fl),("task_dep",.ref tdl),("wild_dep",.ref wl),("calc_dep",.ref cl),("getargs",.ref ga),("value_savers",.ref vs)]) := hd1
  clear hx1 hd1 E1
  clear h_vs
  refine Jb (Jd (Jk (Ja (by rfl) (by rfl) (Js (fm := V3) hx hd (by rfl) (by kernel_rfl) (Ja (by rfl) (by rfl) (Ca.cw (Task_uptodate h_u0 hzu fun ul hul => (Jw (Ja (by rfl) (by rfl) (J7 (Store.set_old hx hul) (Store.set_old hd hul) (by kernel_rfl) (Nat.le_of_ble_eq_true rfl) ne fun s8 hx1 hd1 E1 => ?_)))))))) ))
  have nul : ul ≠ dx := J9 hd hul
  have zul : σ ul = none := E.back hul
  replace h_l := E1.get (Store.set_old h_l hul) nl
  replace h_t := E1.get (Store.set_old h_t hul) nt
  replace h_u := E1.get (Store.set_old h_u hul) nu
  replace h_al := E1.get (Store.set_old h_al hul) nal
  replace h_fl := E1.get (Store.set_old h_fl hul) nfl
  replace h_u0 := E1.get (Store.set_old h_u0 hul) nu0
  have h_ul := E1.get (Store.set_same _ _ _) nul
  replace E := (E.alloc hul (o := .list (us.map utT))).trans E1 fun _ h => .inl h
  replace hx := hx1
  replace hd : s8 dx = some (.dict [("name",.str nm),("options",.none),("setup_tasks",.ref sl),("actions",.ref al),("dep_changed",.none),("file_dep",.ref fl),("task_dep",.ref tdl),("wild_dep",.ref wl),("calc_dep",.ref cl),("getargs",.ref ga),("value_savers",.ref vs),("uptodate",.ref ul)]) := hd1
  clear hx1 hd1 E1
  clear h_u0
  refine Jb (Jd (Jk (Ja (by rfl) (by rfl) (Js (fm := V9) hx hd (by rfl) (by kernel_rfl) (Ja (by rfl) (by rfl) (Ca.cw (Task_targets h_t hzt fun tl htl => (Jw (Ja (by rfl) (by rfl) (J7 (Store.set_old hx htl) (Store.set_old hd htl) (by kernel_rfl) (Nat.le_of_ble_eq_true rfl) ne fun s9 hx1 hd1 E1 => ?_)))))))) ))
  have ntl : tl ≠ dx := J9 hd htl
  have ztl : σ tl = none := E.back htl
  replace h_l := E1.get (Store.set_old h_l htl) nl
  replace h_t := E1.get (Store.set_old h_t htl) nt
  replace h_u := E1.get (Store.set_old h_u htl) nu
  replace h_al := E1.get (Store.set_old h_al htl) nal
  replace h_fl := E1.get (Store.set_old h_fl htl) nfl
  replace h_ul := E1.get (Store.set_old h_ul htl) nul
  have h_tl := E1.get (Store.set_same _ _ _) ntl
  replace E := (E.alloc htl (o := .list (strsA ts))).trans E1 fun _ h => .inl h
  replace hx := hx1
  replace hd : s9 dx = some (.dict [("name",.str nm),("options",.none),("setup_tasks",.ref sl),("actions",.ref al),("dep_changed",.none),("file_dep",.ref fl),("task_dep",.ref tdl),("wild_dep",.ref wl),("calc_dep",.ref cl),("getargs",.ref ga),("value_savers",.ref vs),("uptodate",.ref ul),("targets",.ref tl)]) := hd1
  clear hx1 hd1 E1
  refine Jb (Jd (Ja (by rfl) (by rfl) (Jw (Ja (by rfl) (by rfl) (J7 hx hd (by kernel_rfl) (Nat.le_of_ble_eq_true rfl) ne fun s10 hx1 hd1 E1 => ?_)))))
  replace h_l := E1.get h_l nl
  replace h_t := E1.get h_t nt
  replace h_u := E1.get h_u nu
  replace h_al := E1.get h_al nal
  replace h_fl := E1.get h_fl nfl
  replace h_ul := E1.get h_ul nul
  replace h_tl := E1.get h_tl ntl
  replace E := E.trans E1 fun _ h => .inl h
  replace hx := hx1
  replace hd : s10 dx = some (.dict [("name",.str nm),("options",.none),("setup_tasks",.ref sl),("actions",.ref al),("dep_changed",.none),("file_dep",.ref fl),("task_dep",.ref tdl),("wild_dep",.ref wl),("calc_dep",.ref cl),("getargs",.ref ga),("value_savers",.ref vs),("uptodate",.ref ul),("targets",.ref tl),("subtask_of",.none)]) := hd1
  clear hx1 hd1 E1
  refine Jb (Jd (Ja (by rfl) (by rfl) (Jw (Ja (by rfl) (by rfl) (J7 hx hd (by kernel_rfl) (Nat.le_of_ble_eq_true rfl) ne fun s11 hx1 hd1 E1 => ?_)))))
  replace h_l := E1.get h_l nl
  replace h_t := E1.get h_t nt
  replace h_u := E1.get h_u nu
  replace h_al := E1.get h_al nal
  replace h_fl := E1.get h_fl nfl
  replace h_ul := E1.get h_ul nul
  replace h_tl := E1.get h_tl ntl
  replace E := E.trans E1 fun _ h => .inl h
  replace hx := hx1
  replace hd : s11 dx = some (.dict [("name",.str nm),("options",.none),("setup_tasks",.ref sl),("actions",.ref al),("dep_changed",.none),("file_dep",.ref fl),("task_dep",.ref tdl),("wild_dep",.ref wl),("calc_dep",.ref cl),("getargs",.ref ga),("value_savers",.ref vs),("uptodate",.ref ul),("targets",.ref tl),("subtask_of",.none),("has_subtask",.bool false)]) := hd1
  clear hx1 hd1 E1
  refine Jb (Jd (Jz (Jw (Ja (by rfl) (by rfl) (J7 hx hd (by kernel_rfl) (Nat.le_of_ble_eq_true rfl) ne fun s12 hx1 hd1 E1 => ?_)))))
  replace h_l := E1.get h_l nl
  replace h_t := E1.get h_t nt
  replace h_u := E1.get h_u nu
  replace h_al := E1.get h_al nal
  replace h_fl := E1.get h_fl nfl
  replace h_ul := E1.get h_ul nul
  replace h_tl := E1.get h_tl ntl
  replace E := E.trans E1 fun _ h => .inl h
  replace hx := hx1
  replace hd : s12 dx = some (.dict [("name",.str nm),("options",.none),("setup_tasks",.ref sl),("actions",.ref al),("dep_changed",.none),("file_dep",.ref fl),("task_dep",.ref tdl),("wild_dep",.ref wl),("calc_dep",.ref cl),("getargs",.ref ga),("value_savers",.ref vs),("uptodate",.ref ul),("targets",.ref tl),("subtask_of",.none),("has_subtask",.bool false),("result",.none)]) := hd1
  clear hx1 hd1 E1
  refine Jb (Jd (Qn fun vd hvd => (Jw (Ja (by rfl) (by rfl) (J7 (Store.set_old hx hvd) (Store.set_old hd hvd) (by kernel_rfl) (Nat.le_of_ble_eq_true rfl) ne fun s13 hx1 hd1 E1 => ?_)))))
  have nvd : vd ≠ dx := J9 hd hvd
  have zvd : σ vd = none := E.back hvd
  replace h_l := E1.get (Store.set_old h_l hvd) nl
  replace h_t := E1.get (Store.set_old h_t hvd) nt
  replace h_u := E1.get (Store.set_old h_u hvd) nu
  replace h_al := E1.get (Store.set_old h_al hvd) nal
  replace h_fl := E1.get (Store.set_old h_fl hvd) nfl
  replace h_ul := E1.get (Store.set_old h_ul hvd) nul
  replace h_tl := E1.get (Store.set_old h_tl hvd) ntl
  have h_vd := E1.get (Store.set_same _ _ _) nvd
  replace E := (E.alloc hvd (o := .dict [])).trans E1 fun _ h => .inl h
  replace hx := hx1
  replace hd : s13 dx = some (.dict [("name",.str nm),("options",.none),("setup_tasks",.ref sl),("actions",.ref al),("dep_changed",.none),("file_dep",.ref fl),("task_dep",.ref tdl),("wild_dep",.ref wl),("calc_dep",.ref cl),("getargs",.ref ga),("value_savers",.ref vs),("uptodate",.ref ul),("targets",.ref tl),("subtask_of",.none),("has_subtask",.bool false),("result",.none),("values",.ref vd)]) := hd1
  clear hx1 hd1 E1
  refine Jb (Jd (Qw (Jw (Ja (by rfl) (by rfl) (J7 hx hd (by kernel_rfl) (Nat.le_of_ble_eq_true rfl) ne fun s14 hx1 hd1 E1 => ?_)))))
  replace h_l := E1.get h_l nl
  replace h_t := E1.get h_t nt
  replace h_u := E1.get h_u nu
  replace h_al := E1.get h_al nal
  replace h_fl := E1.get h_fl nfl
  replace h_ul := E1.get h_ul nul
  replace h_tl := E1.get h_tl ntl
  replace h_vd := E1.get h_vd nvd
  replace E := E.trans E1 fun _ h => .inl h
  replace hx := hx1
  replace hd : s14 dx = some (.dict [("name",.str nm),("options",.none),("setup_tasks",.ref sl),("actions",.ref al),("dep_changed",.none),("file_dep",.ref fl),("task_dep",.ref tdl),("wild_dep",.ref wl),("calc_dep",.ref cl),("getargs",.ref ga),("value_savers",.ref vs),("uptodate",.ref ul),("targets",.ref tl),("subtask_of",.none),("has_subtask",.bool false),("result",.none),("values",.ref vd),("executed",.bool false)]) := hd1
  clear hx1 hd1 E1
  exact Jc (φ s14 sl al fl tdl wl cl ga vs ul tl vd hx hd h_al h_fl h_ul h_tl h_vd ⟨zal,zfl,zul,ztl,zvd⟩ E)
end

structure Tk where
  nm : Str
  op : AV
  sl : Addr
  al : Addr
  dc : AV
  fl : Addr
  tdl : Addr
  wl : Addr
  cl : Addr
  ga : Addr
  vs : Addr
  ul : Addr
  tl : Addr
  vd : Addr
  ex : Bool
noncomputable def Tk.es (k : Tk) : Es := tkEs k.nm k.op k.sl k.al k.dc k.fl k.tdl k.wl k.cl k.ga k.vs k.ul k.tl k.vd k.ex
structure TaskAt (σ : Store) (x dx : Addr) (k : Tk) (deps ts : List Str) (us : List (Option Bool)) : Prop where
  hx : σ x = some (.inst cTask dx)
  hdx : σ dx = some (.dict k.es)
  hfl : σ k.fl = some (.list (strsA deps))
  hul : σ k.ul = some (.list (us.map utT))
  htl : σ k.tl = some (.list (strsA ts))
section
variable {σ : Store} {us : List (Option Bool)}
theorem TaskAt.nx {x dx : Addr} {k : Tk} {deps ts : List Str} (T : TaskAt σ x dx k deps ts us) : x ≠ dx := by
  rintro rfl; have := T.hx; rw [T.hdx] at this; cases this
theorem TaskAt.off {x dx b : Addr} {k : Tk} {deps ts : List Str} (T : TaskAt σ x dx k deps ts us) {o : AO} (h : σ b = some o) (n : o ≠ .dict k.es) : b ≠ dx := by
  rintro rfl; rw [T.hdx] at h; cases h; exact n rfl
/-- its own dict turns -/
theorem TaskAt.turn {σ' : Store} {x dx : Addr} {k k' : Tk} {deps ts : List Str} (T : TaskAt σ x dx k deps ts us) (E : Ext (· = dx) σ σ') (hd : σ' dx = some (.dict k'.es))
    (hk : k'.fl = k.fl ∧ k'.ul = k.ul ∧ k'.tl = k.tl) : TaskAt σ' x dx k' deps ts us := by
  obtain ⟨h2,h3,h4⟩ := hk
  refine ⟨E.get T.hx T.nx,hd,?_,?_,?_⟩
  · rw [h2]; exact E.get T.hfl (T.off T.hfl (by simp))
  · rw [h3]; exact E.get T.hul (T.off T.hul (by simp))
  · rw [h4]; exact E.get T.htl (T.off T.htl (by simp))
end

noncomputable def okCls (K : Frag) (C : Addr) (n s : Str) : Bool := plainGet K C n && hasDictIn K C && !copiedNames.contains n && (match findIn K (.ref C) n with | some (some (.str s' t)) => (s' == s) && (match specialIn K (.str s' t) "__get__" with | some none => true | _ => false) | _ => false)
section
variable {c : Cx} {f : Fn} {ℓ : Locs} {σ : Store}
theorem op_cls {x C dx : Addr} {es : Es} {name s : Str} {Φ : AV → Store → Prop} (hx : σ x = some (.inst C dx)) (hd : σ dx = some (.dict es)) (hv : es.get name = none)
    (k : okCls c.K C name s = true) (q : Φ (.str s) σ) : Op c f ℓ σ [.ref x] (ap1 fun o => getAttr o name true) Φ := by
  unfold okCls at k
  simp only [Bool.and_eq_true,Bool.not_eq_true'] at k
  obtain ⟨⟨⟨k1,k2⟩,k3⟩,k4⟩ := k
  split at k4
  · rename_i s' t e
    simp only [Bool.and_eq_true,beq_iff_eq] at k4
    obtain ⟨rfl,k5⟩ := k4
    split at k5
    · rename_i e'
      exact op_attr_cls hx hd hv k1 k2 e e' (by rfl) k3 (fun h => .str _ t) q
    · cases k5
  · cases k4
end
structure DS (F F' : Addr → Prop) (σ σ' : Store) : Prop where
  grow : Grow σ F F'
  keep : Keep F σ σ'
  live : ∀ b,σ b ≠ none → σ' b ≠ none
theorem DS.refl {F : Addr → Prop} {σ : Store} : DS F F σ σ := ⟨.refl,.refl,fun _ h => h⟩
theorem DS.trans {F F' F'' : Addr → Prop} {σ σ' σ'' : Store} (x : DS F F' σ σ') (y : DS F' F'' σ' σ'') : DS F F'' σ σ'' := ⟨x.grow.trans y.grow x.live,x.keep.trans x.grow y.keep,fun b h => y.live b (x.live b h)⟩
noncomputable def Out (F : Addr → Prop) (σ : Store) (bs : List Addr) : Prop := ∀ b ∈ bs,σ b ≠ none ∧ ¬ F b
theorem Out.step {F F' : Addr → Prop} {σ σ' : Store} {bs : List Addr} (o : Out F σ bs) (s : DS F F' σ σ') : Out F' σ' bs ∧ ∀ b ∈ bs,σ' b = σ b := by
  refine ⟨fun b hb => ⟨s.live b (o b hb).1,fun x => ?_⟩,fun b hb => s.keep b (o b hb).1 (o b hb).2⟩
  rcases s.grow.2 b x with y | y
  · exact (o b hb).2 y
  · exact (o b hb).1 y
theorem Db.get_put (D : Db) (t k t' k' : Str) (v : AV) : (D.put t k v).get t' k' = if t' = t ∧ k' = k then some v else D.get t' k' := by
  unfold Db.get Db.put
  by_cases h : t' = t
  · subst h
    simp only [if_true,true_and,Option.bind_some]
    rw [Es.get_put]
    split
    · rfl
    · cases D t' <;> rfl
  · rw [if_neg h,if_neg fun q => h q.1]
theorem Db.put_ne (D : Db) {t t' : Str} (k : Str) (v : AV) (h : t' ≠ t) : (D.put t k v) t' = D t' := if_neg h
structure Nm where
  x : Addr
  dx : Addr
  y : Addr
  dy : Addr
  a : Addr
  ch : Addr
  dch : Addr
  aw : Addr
  tx : Addr
  tdx : Addr
noncomputable def bs (n : Nm) (k : Tk) : List Addr := [n.x,n.dx,n.y,n.dy,n.ch,n.dch,n.aw,n.tx,n.tdx,k.fl,k.ul,k.tl]
noncomputable def Cm (m : Bool) : Addr := if m then cMD5Checker else cTimestampChecker
noncomputable def cnm (m : Bool) : Str := if m then "MD5Checker" else "TimestampChecker"
noncomputable def sv (m : Bool) (e : We) : AV := if m then e.av else .int e.ts
structure Rd (σ : Store) (m : Bool) (n : Nm) (k : Tk) (wes : Es) (deps ts : List Str) (us : List (Option Bool)) : Prop where
  d : DepAt σ n.x [("_closed",.bool false),("checker",.ref n.ch),("backend",.ref n.y)] n.dx n.y n.dy n.a n.ch
  c : ChkAt σ n.ch (Cm m) n.dch n.aw wes
  t : TaskAt σ n.tx n.tdx k deps ts us
  ne : n.aw ≠ n.tdx
theorem Rd.keep {σ σ' : Store} {m : Bool} {n : Nm} {k : Tk} {wes : Es} {deps ts : List Str} {us : List (Option Bool)} (R : Rd σ m n k wes deps ts us) (h : ∀ b ∈ bs n k,σ' b = σ b) : Rd σ' m n k wes deps ts us := by
  have g : ∀ b,b ∈ bs n k → ∀ {o : AO},σ b = some o → σ' b = some o := fun b hb o e => (h b hb).trans e
  refine ⟨⟨g _ (by simp [bs]) R.d.x,g _ (by simp [bs]) R.d.dx,R.d.back,R.d.chk,R.d.set,R.d.get,g _ (by simp [bs]) R.d.y,g _ (by simp [bs]) R.d.dy⟩,
    ⟨g _ (by simp [bs]) R.c.x,g _ (by simp [bs]) R.c.dx,g _ (by simp [bs]) R.c.aw⟩,
    ⟨g _ (by simp [bs]) R.t.hx,g _ (by simp [bs]) R.t.hdx,g _ (by simp [bs]) R.t.hfl,g _ (by simp [bs]) R.t.hul,g _ (by simp [bs]) R.t.htl⟩,R.ne⟩
theorem Out.four {F : Addr → Prop} {σ : Store} {n : Nm} {k : Tk} (o : Out F σ (bs n k)) : ¬ F n.x ∧ ¬ F n.dx ∧ ¬ F n.y ∧ ¬ F n.dy :=
  ⟨(o _ (by simp [bs])).2,(o _ (by simp [bs])).2,(o _ (by simp [bs])).2,(o _ (by simp [bs])).2⟩
theorem Cm_is (m : Bool) : isChk (Cm m) := by cases m; exact .inr rfl; exact .inl rfl
noncomputable def aState (m : Bool) : Addr := if m then Yc else Yi
noncomputable def aMod (m : Bool) : Addr := if m then Ym else Qz
/-- the state that save_success leaves -/
noncomputable def upS (m : Bool) (W S : Str → Option We) (p : Str) : Option We := match W p with
  | none => S p
  | some e => if m = true ∧ (S p).map We.ts = some e.ts then S p else some e
section
variable {w : World} {mg mb : Str → Option Value} {h₀ : Heap} {stk : List Env} {σ : Store} {d : Nat} {hf : Bool}
theorem Chk_state {m : Bool} {x dx aw : Addr} {wes : Es} {p : Str} {e : We} {s : Option We} {Φ : AV → Store → Prop} (hx : ChkAt σ x (Cm m) dx aw wes) (hp : wes.get p = some e.av) (φ : Φ (if m = true ∧ s.map We.ts = some e.ts then .none else sv m e) σ) :
    Ca (cx w mg mb h₀ stk) (d + 2) hf σ (.val (.ref (aState m))) [.ref x,.str p,(s.map (sv m)).getD .none] [] Φ := by
  cases m with
  | true =>
    have : (s.map (sv true)).getD .none = stAV s := by cases s <;> rfl
    rw [this]
    refine MD5_state hx hp ?_
    split at φ
    · rename_i h; rw [if_pos h.2]; exact φ
    · rename_i h; rw [if_neg fun q => h ⟨rfl,q⟩]; exact φ
  | false =>
    refine TS_state hx hp ?_
    rw [if_neg (by simp)] at φ
    exact φ
theorem Dep_save {m : Bool} {n : Nm} {k : Tk} {wes : Es} {deps ts : List Str} {us : List (Option Bool)} {D : Db} {N : Nat} {F : Addr → Prop} {W S : Str → Option We} {Φ : AV → Store → Prop} (R : Rd σ m n k wes deps ts us) (hD : DbAt σ n.a D N F) (O : Out F σ (bs n k))
    (hN : N + deps.length + 10 ≤ 900) (hz : deps.length ≤ 900) (nd : deps.Nodup) (hr : ∀ dep ∈ deps,dep ≠ "_values_:" ∧ dep ≠ "checker:" ∧ dep ≠ "deps:") (hW : ∀ dep ∈ deps,∃ e : We,W dep = some e ∧ wes.get dep = some e.av)
    (hS : ∀ dep ∈ deps,D.get k.nm dep = (S dep).map (sv m))
    (φ : ∀ σ' D' N' F',DbAt σ' n.a D' N' F' → DS F F' σ σ' → N' ≤ N + deps.length + 4 → (∀ t,t ≠ k.nm → D' t = D t) → D'.get k.nm "checker:" = some (.str (cnm m)) → D'.get k.nm "deps:" = some (.tup (strsA deps)) →
      (∀ q : Str,q ≠ "_values_:" → q ≠ "checker:" → q ≠ "deps:" → q ∉ deps → D'.get k.nm q = D.get k.nm q) → (∀ dep ∈ deps,D'.get k.nm dep = (upS m W S dep).map (sv m)) → Φ .none σ') :
    Ca (cx w mg mb h₀ stk) (d + 3) true σ (.val (.ref Yv)) [.ref n.x,.ref n.tx] [] Φ := by
  refine J3 (X5 w.params) (ab := [("self",.ref n.x),("task",.ref n.tx),("result_hash",.none)]) ?_ (by kernel_rfl) fun stk' => ?_
  · intro s xs ks ok kb va vk
    have X := Frag.In.keeps ok.X kb
    refine VRs.uncons va fun _ _ a1 va => ?_; refine VRs.uncons va fun _ _ a2 va => ?_; refine VRs.unnil va ?_; refine KRs.unnil vk ?_
    refine ⟨_,?_,.cons a1 (.cons a2 (.cons .none .nil))⟩
    exact kp_binds X fun S => by kernel_rfl
  refine Jb (J0 (Jk (Ja (by rfl) (by rfl) (Js (fm := Q1) R.d.x R.d.dx (by rfl) (by kernel_rfl) ?_))))
  refine Jh (Ja (by rfl) (by rfl) (Jn R.t.hx R.t.hdx (by rfl) (by kernel_rfl) (by rfl) (Jg (Jh (Ja (by rfl) (by rfl) (Jn R.t.hx R.t.hdx (by rfl) (by kernel_rfl) (by rfl) ?_))))))
  refine Ca.cw (Y3 R.d hD O.four (by omega) fun σ₁ F₁ hD₁ g₁ k₁ s₁ => ?_)
  have S₁ : DS F F₁ σ σ₁ := ⟨g₁,k₁,s₁⟩
  obtain ⟨O₁,e₁⟩ := O.step S₁
  have R₁ := R.keep e₁
  refine Jb (Jj (Jf (Ja (by rfl) (by rfl) (Jz (Yk ⟨_,rfl,?_⟩)))))
  refine Jb (Jj (Jy (Jh (Ja (by rfl) (by rfl) (Jn R₁.t.hx R₁.t.hdx (by rfl) (by kernel_rfl) (by rfl) (Ub ?_))))))
  refine Jc (Jc ?_)
  refine Jb (J0 (Jk (Ja (by rfl) (by rfl) (Js (fm := Q1) R₁.d.x R₁.d.dx (by rfl) (by kernel_rfl) ?_))))
  refine Jh (Ja (by rfl) (by rfl) (Jn R₁.t.hx R₁.t.hdx (by rfl) (by kernel_rfl) (by rfl) (Jg (Jh (Jh (Ja (by rfl) (by rfl) (Jn R₁.d.x R₁.d.dx (by rfl) (by kernel_rfl) (by rfl) (op_cls (s := cnm m) R₁.c.x R₁.c.dx (by rfl) (by cases m <;> kernel_rfl) ?_))))))))
  refine Ca.cw (Y3 R₁.d hD₁ O₁.four (by omega) fun σ₂ F₂ hD₂ g₂ k₂ s₂ => ?_)
  have S₂ : DS F₁ F₂ σ₁ σ₂ := ⟨g₂,k₂,s₂⟩
  obtain ⟨O₂,e₂⟩ := O₁.step S₂
  have R₂ := R₁.keep e₂
  refine Jb (Qu rfl (J1 (Jh (Ja (by rfl) (by rfl) (Jn R₂.t.hx R₂.t.hdx (by rfl) (by kernel_rfl) (by rfl) ⟨k.fl,_,rfl,.inl R₂.t.hfl,Jx _ _ _,
    fun i ℓ σ' => ℓ "self" = some (.ref n.x) ∧ ℓ "task" = some (.ref n.tx) ∧ ∃ D' N' F',DbAt σ' n.a D' N' F' ∧ Rd σ' m n k wes deps ts us ∧ Out F' σ' (bs n k) ∧ DS F F' σ σ' ∧ N' ≤ N + 2 + i ∧ (∀ t,t ≠ k.nm → D' t = D t) ∧
      (∀ q,q ∉ deps.take i → D'.get k.nm q = ((D.put k.nm "_values_:" (.ref k.vd)).put k.nm "checker:" (.str (cnm m))).get k.nm q) ∧ (∀ dep ∈ deps.take i,D'.get k.nm dep = (upS m W S dep).map (sv m)),
    ⟨by rfl,by rfl,_,_,_,hD₂,R₂,O₂,S₁.trans S₂,by omega,fun t ht => by rw [Db.put_ne _ _ _ ht,Db.put_ne _ _ _ ht],fun _ _ => rfl,fun dep hd => by simp at hd⟩,fun _ _ _ ⟨_,_,_,_,_,_,R',_⟩ => .inl R'.t.hfl,?_,?_⟩)))))
  · rintro i v ℓ σ₃ hv ⟨l1,l2,D₃,N₃,F₃,hD₃,R₃,O₃,S₃,hN₃,ho₃,hq₃,hd₃⟩
    obtain ⟨p,rfl,hp⟩ := Yo hv
    have hm : p ∈ deps := List.mem_of_getElem? hp
    obtain ⟨e,hWe,hwe⟩ := hW p hm
    have hs := hS p hm
    generalize hs0 : S p = s at hs
    have hup : upS m W S p = if m = true ∧ s.map We.ts = some e.ts then s else some e := by unfold upS; rw [hWe,hs0]
    obtain ⟨r1,r2,r3⟩ := hr p hm
    have hi : i < deps.length := by
      rcases Nat.lt_or_ge i deps.length with h | h
      · exact h
      · rw [List.getElem?_eq_none h] at hp; cases hp
    have cur : D₃.get k.nm p = s.map (sv m) := by
      rw [hq₃ p (V5 nd hp),Db.get_put,if_neg (fun q => r2 q.2),Db.get_put,if_neg (fun q => r1 q.2)]; exact hs
    refine Je (by rfl) ?_
    refine Jb (Jd (Jk (Jh (Ja (by rfl) l1 (Jn R₃.d.x R₃.d.dx (by rfl) (by kernel_rfl) (by rfl) (Js (fm := aState m) R₃.c.x R₃.c.dx (by rfl) (by cases m <;> kernel_rfl) ?_))))))
    refine Ja (by rfl) (by rfl) (Jk (Ja (by rfl) l1 (Js (fm := Q2) R₃.d.x R₃.d.dx (by rfl) (by kernel_rfl) ?_)))
    refine Jh (Ja (by rfl) l2 (Jn R₃.t.hx R₃.t.hdx (by rfl) (by kernel_rfl) (by rfl) (Ja (by rfl) (by rfl) (Ca.cw (Y4 R₃.d hD₃ ?_)))))
    rw [show (D₃.get (k.nm) p).getD .none = (s.map (sv m)).getD .none by rw [cur]]
    refine Ca.cw (Chk_state (e := e) R₃.c hwe (Je (by rfl) ?_))
    refine Jb (Jj (Jf (Ja (by rfl) (by rfl) (Jz (Yk ⟨_,rfl,?_⟩)))))
    by_cases hc : m = true ∧ s.map We.ts = some e.ts
    · rw [if_pos hc]
      refine Jc (Jc ⟨l1,l2,D₃,N₃,F₃,hD₃,R₃,O₃,S₃,by omega,ho₃,fun q hq => hq₃ q fun x => hq ?_,fun dep hdep => ?_⟩)
      · rw [List.take_add_one]; exact List.mem_append_left _ x
      · rw [List.take_add_one,hp,List.mem_append] at hdep
        rcases hdep with h | h
        · exact hd₃ dep h
        · obtain rfl : dep = p := by simpa using h
          rw [cur,hup,if_pos hc]
    · rw [if_neg hc]
      have hnn : (!(sv m e).isNone) = true := by cases m <;> rfl
      rw [hnn]
      refine Jb (J0 (Jk (Ja (by rfl) l1 (Js (fm := Q1) R₃.d.x R₃.d.dx (by rfl) (by kernel_rfl) ?_))))
      refine Jh (Ja (by rfl) l2 (Jn R₃.t.hx R₃.t.hdx (by rfl) (by kernel_rfl) (by rfl) (Ja (by rfl) (by rfl) (Ja (by rfl) (by rfl) (Ca.cw (Y3 R₃.d hD₃ O₃.four (by omega) fun σ₄ F₄ hD₄ g₄ k₄ s₄ => ?_))))))
      have S₄ : DS F₃ F₄ σ₃ σ₄ := ⟨g₄,k₄,s₄⟩
      obtain ⟨O₄,e₄⟩ := O₃.step S₄
      refine Jc (Jc ⟨l1,l2,_,_,F₄,hD₄,R₃.keep e₄,O₄,S₃.trans S₄,by omega,fun t ht => by rw [Db.put_ne _ _ _ ht]; exact ho₃ t ht,fun q hq => ?_,fun dep hdep => ?_⟩)
      · rw [List.take_add_one,hp,List.mem_append,not_or] at hq
        rw [Db.get_put,if_neg fun h => hq.2 (by simp [h.2]),hq₃ q hq.1]
      · rw [Db.get_put]
        rw [List.take_add_one,hp,List.mem_append] at hdep
        split
        · rename_i h
          rw [h.2,hup,if_neg hc]; rfl
        · rename_i h
          rcases hdep with h' | h'
          · exact hd₃ dep h'
          · exact absurd ⟨rfl,by simpa using h'⟩ h
  · rintro ℓ σ₃ ⟨l1,l2,D₃,N₃,F₃,hD₃,R₃,O₃,S₃,hN₃,ho₃,hq₃,hd₃⟩
    rw [show (strsA deps).length = deps.length by simp] at hN₃ hq₃ hd₃
    rw [List.take_length] at hq₃ hd₃
    refine Jb (J0 (Jk (Ja (by rfl) l1 (Js (fm := Q1) R₃.d.x R₃.d.dx (by rfl) (by kernel_rfl) ?_))))
    refine Jh (Ja (by rfl) l2 (Jn R₃.t.hx R₃.t.hdx (by rfl) (by kernel_rfl) (by rfl) (Jg (Ju (Jt (by rfl) (by kernel_rfl) glob_tuple ⟨_,rfl,Q8,Jh (Ja (by rfl) l2 (Jn R₃.t.hx R₃.t.hdx (by rfl) (by kernel_rfl) (by rfl) (cw_tuple (.inl R₃.t.hfl) (by simp; omega) ?_)))⟩)))))
    refine Ca.cw (Y3 R₃.d hD₃ O₃.four (by omega) fun σ₄ F₄ hD₄ g₄ k₄ s₄ => ?_)
    refine Jc (φ _ _ _ _ hD₄ (S₃.trans ⟨g₄,k₄,s₄⟩) (by omega) (fun t ht => by rw [Db.put_ne _ _ _ ht]; exact ho₃ t ht) ?_ ?_ (fun q q1 q2 q3 q4 => ?_) fun dep hdep => ?_)
    · rw [Db.get_put,if_neg (fun h => absurd h.2 (by decide)),hq₃ _ fun h => (hr _ h).2.1 rfl,Db.get_put,if_pos ⟨rfl,rfl⟩]
    · rw [Db.get_put,if_pos ⟨rfl,rfl⟩]
    · rw [Db.get_put,if_neg fun h => q3 h.2,hq₃ q q4,Db.get_put,if_neg fun h => q2 h.2,Db.get_put,if_neg fun h => q1 h.2]
    · rw [Db.get_put,if_neg fun h => (hr _ hdep).2.2 h.2]; exact hd₃ dep hdep
end

noncomputable def modified (m : Bool) (e : We) : Option We → Bool
  | none => true
  | some s => if m = true then (if e.ts = s.ts then false else if e.sz = s.sz then s.tx != e.tx else true) else e.ts != s.ts
noncomputable def modf (m : Bool) (W S : Str → Option We) (p : Str) : Bool := match W p with
  | none => false
  | some e => modified m e (S p)
noncomputable def missQ (W : Str → Option We) (p : Str) : Bool := (W p).isNone
/-- what was saved of a task -/
structure Sav where
  m : Bool
  deps : List Str
  st : Str → Option We
  n : Nat
inductive Fi where
  | up | no | tgt (p : Str) | chk (a b : Str) | oth (x y : List Str) | miss (p : Str) | chg (p : Str)
noncomputable def Fi.word : Fi → Str
  | .up => "uptodate_false" | .no => "has_no_dependencies" | .tgt _ => "missing_target" | .chk .. => "checker_changed" | .oth .. => "other_file_dep" | .miss _ => "missing_file_dep" | .chg _ => "changed_file_dep"
noncomputable def leS (a b : Str) : Bool := !PySem.Spec.ltCps b.cps.toList a.cps.toList
noncomputable def srt (l : List Str) : List Str := l.mergeSort leS
noncomputable def nFalse (us : List (Option Bool)) : Nat := (us.filter (· == some false)).length
noncomputable def noDep (us : List (Option Bool)) (ds : List Str) : Bool := ds.isEmpty && us.all (·.isNone)
noncomputable def effOf (m : Bool) (sv : Option Sav) : Option Sav := sv.bind fun s => if s.m = m then some s else none
noncomputable def chkOf (m : Bool) : Option Sav → List Fi
  | some s => if s.m = m then [] else [.chk (cnm s.m) (cnm m)]
  | none => []
noncomputable def sameSet (a b : List Str) : Bool := a.length == b.length && a.all fun x => b.any (· == x)
noncomputable def minus (a b : List Str) : List Str := a.filter fun p => !b.any (· == p)
noncomputable def othOf (ds : List Str) : Option Sav → List Fi
  | some s => if s.deps = [] ∨ sameSet s.deps ds = true then [] else [.oth (srt (minus ds s.deps)) (srt (minus s.deps ds))]
  | none => []
noncomputable def stOf (sv : Option Sav) (p : Str) : Option We := sv.bind fun s => s.st p
noncomputable def chgOf (m : Bool) (W : Str → Option We) (ds : List Str) (sv : Option Sav) : List Str := ds.filter (modf m W (stOf (effOf m sv)))
noncomputable def found (m : Bool) (us : List (Option Bool)) (ds ts : List Str) (W : Str → Option We) (sv : Option Sav) : List Fi :=
  List.replicate (nFalse us) .up ++ (if noDep us ds = true then [.no] else []) ++ (ts.filter (missQ W)).map .tgt ++ chkOf m sv ++ othOf ds (effOf m sv) ++ (ds.filter (missQ W)).map .miss ++ (chgOf m W ds sv).map .chg
/-! ## the log -/
noncomputable def upD : PyData := .tuple [.bool false,.none,.none]
noncomputable def segD (k : Str) (xs : List PyData) : List (Str × PyData) := if xs = [] then [] else [(k,.list xs)]
noncomputable def chkD (m : Bool) : Option Sav → List (Str × PyData)
  | some s => if s.m = m then [] else [("checker_changed",.tuple [.str (cnm s.m),.str (cnm m)])]
  | none => []
noncomputable def othD (ds : List Str) : Option Sav → List (Str × PyData)
  | some s => if s.deps = [] ∨ sameSet s.deps ds = true then [] else [("added_file_dep",.list ((srt (minus ds s.deps)).map .str)),("removed_file_dep",.list ((srt (minus s.deps ds)).map .str))]
  | none => []
noncomputable def strD (l : List Str) : List PyData := l.map .str
noncomputable def noD (us : List (Option Bool)) (ds : List Str) : List (Str × PyData) := if noDep us ds = true then [("has_no_dependencies",.bool true)] else []
noncomputable def logOf (m : Bool) (us : List (Option Bool)) (ds ts : List Str) (W : Str → Option We) (sv : Option Sav) : List (Str × PyData) :=
  segD "uptodate_false" (List.replicate (nFalse us) upD) ++ noD us ds ++ segD "missing_target" (strD (ts.filter (missQ W))) ++ chkD m sv ++ othD ds (effOf m sv) ++ segD "missing_file_dep" (strD (ds.filter (missQ W))) ++ segD "changed_file_dep" (strD (chgOf m W ds sv))
theorem DbAt.keep {σ σ' : Store} {a : Addr} {D : Db} {N : Nat} {F : Addr → Prop} (h : DbAt σ a D N F) (k : ∀ b,F b → σ b ≠ none → σ' b = σ b) : DbAt σ' a D N F := by
  obtain ⟨fa,es,hda,hlen,hnone,hsome,hinj⟩ := h
  refine ⟨fa,es,(k a fa (by rw [hda]; simp)).trans hda,hlen,hnone,fun t d hd => ?_,hinj⟩
  obtain ⟨i,h1,h2,h3,h4,h5⟩ := hsome t d hd
  exact ⟨i,h1,h2,h3,(k i h2 (by rw [h4]; simp)).trans h4,h5⟩
theorem Rd.turn {σ σ' : Store} {m : Bool} {n : Nm} {k k' : Tk} {wes : Es} {deps ts : List Str} {us : List (Option Bool)} (R : Rd σ m n k wes deps ts us) (E : Ext (· = n.tdx) σ σ') (hd : σ' n.tdx = some (.dict k'.es))
    (hk : k'.fl = k.fl ∧ k'.ul = k.ul ∧ k'.tl = k.tl) : Rd σ' m n k' wes deps ts us :=
  ⟨⟨E.get R.d.x (R.t.off R.d.x (by simp)),E.get R.d.dx (R.t.off R.d.dx (by simp [Tk.es,tkEs])),R.d.back,R.d.chk,R.d.set,R.d.get,E.get R.d.y (R.t.off R.d.y (by simp)),E.get R.d.dy (R.t.off R.d.dy (by simp [Tk.es,tkEs]))⟩,
    ⟨E.get R.c.x (R.t.off R.c.x (by simp)),E.get R.c.dx (R.t.off R.c.dx (by simp [Tk.es,tkEs])),E.get R.c.aw R.ne⟩,R.t.turn E hd hk,R.ne⟩
section
variable {w : World} {mg mb : Str → Option Value} {h₀ : Heap} {stk : List Env} {σ : Store} {d : Nat} {hf : Bool}
theorem Chk_mod {m : Bool} {x dx aw : Addr} {wes : Es} {p : Str} {e s : We} {Φ : AV → Store → Prop} (hx : ChkAt σ x (Cm m) dx aw wes) (hp : wes.get p = some e.av) (φ : Φ (.bool (modified m e (some s))) σ) :
    Ca (cx w mg mb h₀ stk) (d + 2) true σ (.val (.ref (aMod m))) [.ref x,.str p,e.av,sv m s] [] Φ := by
  cases m with
  | true => exact MD5_modified (C := 0) hx hp φ
  | false => exact TS_modified φ
end
/-! ## the status under way -/
structure Qs where
  b : Bool
  m : Bool
  n : Nm
  k : Tk
  wes : Es
  ds : List Str
  ts : List Str
  us : List (Option Bool)
  N : Nat
  F : Addr → Prop
  r : Addr
  dr : Addr
  rs : Addr
  σ : Store
structure Q0 (q : Qs) : Prop where
  fr : q.σ q.r = none
  fd : q.σ q.dr = none
  frs : q.σ q.rs = none
  nd : q.r ≠ q.dr
  nrs : q.rs ≠ q.dr
  nr : q.r ≠ q.rs
  old : ∀ y ∈ bs q.n q.k,q.σ y ≠ none
  hF : ∀ b,q.F b → q.σ b ≠ none
  out : ∀ y ∈ bs q.n q.k,¬ q.F y
  hN : q.N ≤ 900
structure Gs (q : Qs) (X : Addr → Prop) (D : Db) (σ' : Store) (c : Addr) (st : Str) (er : AV) (ch : List Str) : Prop where
  hr : σ' q.r = some (.inst cDependencyStatus q.dr)
  hdr : σ' q.dr = some (.dict (dsEs q.b st q.rs er))
  R : Rd σ' q.m q.n { q.k with dc := .ref c } q.wes q.ds q.ts q.us
  hc : σ' c = some (.list (strsA ch))
  E : Ext X q.σ σ'
  hD : DbAt σ' q.n.a D q.N q.F
section
variable {q : Qs} {X Y : Addr → Prop} {D : Db} {σ' σ'' : Store} {c : Addr} {st st' : Str} {er er' : AV} {ch : List Str}
theorem Gs.turn (G : Gs q X D σ' c st er ch) (o : Q0 q) (E : Ext Y σ' σ'') (hY : ∀ y,Y y → q.σ y = none ∧ y ≠ q.r ∧ y ≠ c) (hdr : σ'' q.dr = some (.dict (dsEs q.b st' q.rs er'))) : Gs q X D σ'' c st' er' ch := by
  have nb : ∀ b ∈ bs q.n q.k,¬ Y b := fun b hb y => o.old b hb (hY b y).1
  refine ⟨E.get G.hr fun y => (hY _ y).2.1 rfl,hdr,G.R.keep fun b hb => ?_,E.get G.hc fun y => (hY _ y).2.2 rfl,G.E.trans E fun b y => .inr (hY b y).1,G.hD.keep fun b fb hb => E.keep b hb fun y => o.hF b fb (hY b y).1⟩
  exact E.keep b (G.E.live b (o.old b hb)) (nb b hb)
theorem Gs.ext (G : Gs q X D σ' c st er ch) (o : Q0 q) (E : Ext Y σ' σ'') (hY : ∀ y,Y y → q.σ y = none ∧ y ≠ q.r ∧ y ≠ c ∧ y ≠ q.dr) : Gs q X D σ'' c st er ch :=
  G.turn o E (fun y h => ⟨(hY y h).1,(hY y h).2.1,(hY y h).2.2.1⟩) (E.get G.hdr fun y => (hY _ y).2.2.2 rfl)
theorem Gs.alloc (G : Gs q X D σ' c st er ch) (o : Q0 q) {a : Addr} {oo : AO} (ha : σ' a = none) : Gs q X D (σ'.set a oo) c st er ch :=
  G.ext o (Ext.refl.own (F := (· = a)) rfl) fun y h => by
    subst h
    exact ⟨G.E.back ha,(by rintro rfl; rw [G.hr] at ha; cases ha),(by rintro rfl; rw [G.hc] at ha; cases ha),(by rintro rfl; rw [G.hdr] at ha; cases ha)⟩
/-- the task's dict turns -/
theorem Gs.dc {c' : Addr} {ch' : List Str} (G : Gs q X D σ' c st er ch) (o : Q0 q) (hX : X q.n.tdx) (E : Ext (· = q.n.tdx) σ' σ'') (hd : σ'' q.n.tdx = some (.dict (Tk.es { q.k with dc := .ref c' }))) (hc : σ'' c' = some (.list (strsA ch'))) : Gs q X D σ'' c' st er ch' :=
  ⟨E.get G.hr (G.R.t.off G.hr (by simp)),E.get G.hdr (G.R.t.off G.hdr (by simp [dsEs,Tk.es,tkEs])),G.R.turn E hd ⟨rfl,rfl,rfl⟩,hc,G.E.trans E fun b h => .inl (by rw [h]; exact hX),
    G.hD.keep fun b fb hb => E.keep b hb (by rintro rfl; exact o.out _ (by simp [bs]) fb)⟩
end
theorem Es.get_append_new {es : Es} {k : Str} {v : AV} (h : es.get k = none) : Es.get (es ++ [(k,v)]) k = some v := by
  rw [← Es.put_new h]; exact Es.get_put_same ..
theorem Es.get_append_ne {es : Es} {k k' : Str} {v : AV} (h : k' ≠ k) : Es.get (es ++ [(k,v)]) k' = es.get k' := by
  unfold Es.get
  rw [List.find?_append]
  cases hf : es.find? (fun kv => decide (kv.1 = k')) with
  | some x => rfl
  | none => simp [h.symm]
noncomputable def LK (σ σ' : Store) : Prop := ∀ l vs,σ l = some (.list vs) → σ' l = some (.list vs)
mutual
theorem Dt.mono {c : Cx} {σ σ' : Store} {v : AV} {d : PyData} (k : LK σ σ') : Dt c σ v d → Dt c σ' v d
  | .none => .none
  | .bool b => .bool b
  | .int i => .int i
  | .str x => .str x
  | .list il ds => .list (il.imp (k _ _) id) (DtAll.mono k ds)
  | .tup ds => .tup (DtAll.mono k ds)
theorem DtAll.mono {c : Cx} {σ σ' : Store} {vs : List AV} {ds : List PyData} (k : LK σ σ') : DtAll c σ vs ds → DtAll c σ' vs ds
  | .nil => .nil
  | .cons a b => .cons (Dt.mono k a) (DtAll.mono k b)
end
theorem DtKv.mono {c : Cx} {σ σ' : Store} {es : Es} {ds : List (Str × PyData)} (k : LK σ σ') : DtKv c σ es ds → DtKv c σ' es ds
  | .nil => .nil
  | .cons a r => .cons (a.mono k) (r.mono k)
theorem Ext.lk {F : Addr → Prop} {σ σ' : Store} (E : Ext F σ σ') (h : ∀ l vs,F l → σ l ≠ some (.list vs)) : LK σ σ' := fun l vs e => E.get e fun f => h l vs f e
theorem LK.trans {σ σ' σ'' : Store} (a : LK σ σ') (b : LK σ' σ'') : LK σ σ'' := fun l vs e => b l vs (a l vs e)
theorem LK.trans' {σ σ' σ'' : Store} (a : LK σ σ') (b : ∀ l vs,σ l = some (.list vs) → σ' l = some (.list vs) → σ'' l = some (.list vs)) : LK σ σ'' := fun l vs e => b l vs e (a l vs e)
/-- the log under way: the key that is being filled -/
structure Lg (σp σ' : Store) (b : Bool) (rs : Addr) (key : Str) (es : Es) (vs : List AV) : Prop where
  lk : LK σp σ'
  log : if b = true then (vs = [] ∧ σ' rs = some (.dict es)) ∨ (vs ≠ [] ∧ ∃ l,σ' rs = some (.dict (es ++ [(key,.ref l)])) ∧ σp l = none ∧ σ' l = some (.list vs)) else σ' rs = some (.dict es)
  live : ∀ y,σp y ≠ none → σ' y ≠ none
noncomputable def NotLog (σ' : Store) (rs : Addr) (key : Str) (es : Es) (y : Addr) : Prop := σ' rs ≠ some (.dict (es ++ [(key,.ref y)]))
theorem es_last {es : Es} {k : Str} {a b : Addr} (h : es ++ [(k,AV.ref a)] = es ++ [(k,.ref b)]) : a = b := by
  have := List.append_cancel_left h
  cases this; rfl
theorem es_grown {es : Es} {x : Str × AV} (h : es = es ++ [x]) : False := by
  have := congrArg List.length h
  simp at this
section
variable {σp σ' σ'' : Store} {b : Bool} {rs : Addr} {key : Str} {es : Es} {vs : List AV} {F : Addr → Prop}
theorem Lg.start (hrs : σ' rs = some (.dict es)) : Lg σ' σ' b rs key es [] := ⟨fun _ _ e => e,by split; exact .inl ⟨rfl,hrs⟩; exact hrs,fun _ h => h⟩
theorem Lg.notOf (L : Lg σp σ' b rs key es vs) {y : Addr} (h : ∀ vs,σ' y ≠ some (.list vs)) : NotLog σ' rs key es y := by
  intro e
  have := L.log
  split at this
  · rcases this with ⟨_,h'⟩ | ⟨_,l,h',_,h2⟩
    · rw [e] at h'; injection h' with h'; injection h' with h'; exact es_grown h'.symm
    · rw [e] at h'; injection h' with h'; injection h' with h'
      rw [es_last h'] at h; exact h _ h2
  · rw [e] at this; injection this with h'; injection h' with h'; exact es_grown h'.symm
theorem Lg.notNew (L : Lg σp σ' b rs key es vs) {y : Addr} (h : σ' y = none) : NotLog σ' rs key es y := L.notOf fun vs e => by rw [h] at e; cases e
theorem Lg.notOld (L : Lg σp σ' b rs key es vs) {y : Addr} (h : σp y ≠ none) : NotLog σ' rs key es y := by
  intro e
  have := L.log
  split at this
  · rcases this with ⟨_,h'⟩ | ⟨_,l,h',h2,_⟩
    · rw [e] at h'; injection h' with h'; injection h' with h'; exact es_grown h'.symm
    · rw [e] at h'; injection h' with h'; injection h' with h'
      rw [es_last h'] at h; exact h h2
  · rw [e] at this; injection this with h'; injection h' with h'; exact es_grown h'.symm
theorem Lg.frame (L : Lg σp σ' b rs key es vs) (E : Ext F σ' σ'') (h : ∀ y,F y → y ≠ rs ∧ (∀ vs,σp y ≠ some (.list vs)) ∧ NotLog σ' rs key es y) : Lg σp σ'' b rs key es vs := by
  have nrs : ¬ F rs := fun f => (h rs f).1 rfl
  refine ⟨L.lk.trans' ?_,?_,fun y hy => E.live y (L.live y hy)⟩
  · exact fun l vs e e' => E.get e' fun f => (h l f).2.1 vs e
  · have := L.log
    split at this
    · rename_i hb
      rw [if_pos hb]
      rcases this with ⟨e,h'⟩ | ⟨e,l,h1,h2,h3⟩
      · exact .inl ⟨e,E.get h' nrs⟩
      · exact .inr ⟨e,l,E.get h1 nrs,h2,E.get h3 fun f => (h l f).2.2 h1⟩
    · rename_i hb
      rw [if_neg hb]
      exact E.get this nrs
/-- the phase is over -/
theorem Lg.fin {c : Cx} (L : Lg σp σ' b rs key es vs) : ∃ es' : Es,σ' rs = some (.dict es') ∧ (∀ k',k' ≠ key → es'.get k' = es.get k') ∧ List.length es' ≤ List.length es + 1 ∧ (b = false → es' = es) ∧
    (b = true → ∀ (ds : List PyData) D₀,DtKv c σp es D₀ → DtAll c σ' vs ds → DtKv c σ' es' (D₀ ++ segD key ds)) := by
  have := L.log
  split at this
  · rename_i hb
    rcases this with ⟨rfl,h⟩ | ⟨hne,l,h,_,hl⟩
    · refine ⟨es,h,fun _ _ => rfl,by omega,fun _ => rfl,fun _ ds D₀ h0 hv => ?_⟩
      cases hv
      rw [show D₀ ++ segD key [] = D₀ by simp [segD]]; exact h0.mono L.lk
    · refine ⟨_,h,fun k' n => Es.get_append_ne n,by simp,fun e => (by rw [hb] at e; cases e),fun _ ds D₀ h0 hv => ?_⟩
      have : ds ≠ [] := by rintro rfl; cases hv; exact hne rfl
      unfold segD
      rw [if_neg this]
      exact (h0.mono L.lk).append (.cons (.list (.inl hl) hv) .nil)
  · rename_i hb
    exact ⟨es,this,fun _ _ => rfl,by omega,fun _ => rfl,fun e => absurd e hb⟩
end

section
variable {w : World} {mg mb : Str → Option Value} {h₀ : Heap} {stk : List Env} {d : Nat} {hf : Bool}
variable {q : Qs} {X : Addr → Prop} {D : Db} {σ' σp : Store} {c : Addr} {st s' key : Str} {er v : AV} {ch : List Str} {es : Es} {vs as : List AV} {Φ : AV → Store → Prop}
theorem call_add (G : Gs q X D σ' c st er ch) (o : Q0 q) (L : Lg σp σ' q.b q.rs key es vs) (hp : ∀ y,q.σ y ≠ none → σp y ≠ none) (hkey : es.get key = none) (hz : es.length ≤ 800) (hzv : vs.length ≤ 900)
    (has : (as = [.ref q.r,.str key,v] ∧ s' = "run") ∨ as = [.ref q.r,.str key,v,.str s']) (nc : NotLog σ' q.rs key es c)
    (φ : ∀ σ'',Gs q X D σ'' c s' er ch → Lg σp σ'' q.b q.rs key es (vs ++ [v]) → (∀ y oo,σ' y = some oo → y ≠ q.dr → y ≠ q.rs → NotLog σ' q.rs key es y → σ'' y = some oo ∧ NotLog σ'' q.rs key es y) → Φ (.bool (!q.b)) σ'') :
    Ca (cx w mg mb h₀ stk) (d + 1) hf σ' (.val (.ref Jr)) as [] Φ := by
  have cdr : q.dr ≠ c := by intro e; have := G.hc; rw [← e,G.hdr] at this; cases this
  have hdr := G.hdr
  have lg := L.log
  cases hb : q.b with
  | false =>
    rw [hb] at hdr lg φ
    rw [if_neg (by simp)] at lg
    refine Status_add0 G.hr hdr o.nd has fun σ'' hx hd E => φ σ'' ?_ ?_ fun y oo hy n1 n2 n3 => ⟨E.get hy n1,fun e => n3 ?_⟩
    · exact G.turn o E (fun y e => by rw [show y = q.dr from e]; exact ⟨o.fd,o.nd.symm,cdr⟩) (by rw [hb]; exact hd)
    · refine ⟨L.lk.trans (E.lk fun l vs f e => ?_),by rw [if_neg (by simp)]; exact E.get lg o.nrs,fun y hy => E.live y (L.live y hy)⟩
      rw [show l = q.dr from f,hdr] at e; cases e
    · rw [E.get lg o.nrs] at e; rw [lg]; exact e
  | true =>
    rw [hb] at hdr lg φ
    rw [if_pos rfl] at lg
    rcases lg with ⟨rfl,hrs⟩ | ⟨hne,l,hrs,hl0,hl⟩
    · refine Status_addN G.hr hdr o.nd hrs o.nrs (by omega) hkey has fun σ'' l hl hx hd hr' hlv E => φ σ'' ?_ ?_ fun y oo hy n1 n2 n3 => ⟨E.get hy (by rintro (e | e); exact n1 e; exact n2 e),fun e => ?_⟩
      · refine G.turn o E (fun y e => ?_) (by rw [hb]; exact hd)
        rcases e with rfl | rfl
        · exact ⟨o.fd,o.nd.symm,cdr⟩
        · exact ⟨o.frs,o.nr.symm,by intro e; have := G.hc; rw [← e,hrs] at this; cases this⟩
      · refine ⟨L.lk.trans (E.lk fun l vs f e => ?_),?_,fun y hy => E.live y (L.live y hy)⟩
        · rcases f with rfl | rfl
          · rw [hdr] at e; cases e
          · rw [hrs] at e; cases e
        · rw [if_pos rfl]
          exact .inr ⟨by simp,l,hr',Classical.byContradiction fun n => L.live l n hl,hlv⟩
      · rw [hr'] at e; injection e with e; injection e with e
        rw [← es_last e,hl] at hy; cases hy
    · have nlc : l ≠ c := by rintro rfl; exact nc hrs
      have nlr : l ≠ q.r := by intro e; have := G.hr; rw [← e,hl] at this; cases this
      refine Status_addO G.hr hdr o.nd hrs o.nrs (Es.get_append_new hkey) hl hzv has fun σ'' hx hd hr' hlv E => φ σ'' ?_ ?_ fun y oo hy n1 n2 n3 => ⟨E.get hy (by rintro (e | e); exact n1 e; exact n3 (by rw [e]; exact hrs)),fun e => n3 (by rw [hrs,← hr']; exact e)⟩
      · refine G.turn o E (fun y e => ?_) (by rw [hb]; exact hd)
        rcases e with rfl | rfl
        · exact ⟨o.fd,o.nd.symm,cdr⟩
        · exact ⟨Classical.byContradiction fun n => hp y n hl0,nlr,nlc⟩
      · refine ⟨L.lk.trans' fun y ws e e' => E.get e' ?_,?_,fun y hy => E.live y (L.live y hy)⟩
        · rintro (rfl | rfl)
          · rw [hdr] at e'; cases e'
          · rw [hl0] at e; cases e
        · rw [if_pos rfl]
          exact .inr ⟨by simp,l,hr',hl0,hlv⟩
theorem call_set (G : Gs q X D σ' c st er ch) (o : Q0 q) (hrs : σ' q.rs = some (.dict es)) (hkey : es.get key = none) (hz : es.length ≤ 800)
    (φ : ∀ σ'',Gs q X D σ'' c "run" er ch → σ'' q.rs = some (.dict (if q.b = true then es ++ [(key,v)] else es)) → LK σ' σ'' → (∀ y oo,σ' y = some oo → y ≠ q.dr → y ≠ q.rs → σ'' y = some oo) → (∀ y,σ' y ≠ none → σ'' y ≠ none) → Φ (.bool (!q.b)) σ'') :
    Ca (cx w mg mb h₀ stk) (d + 1) hf σ' (.val (.ref J2)) [.ref q.r,.str key,v] [] Φ := by
  have cdr : q.dr ≠ c := by intro e; have := G.hc; rw [← e,G.hdr] at this; cases this
  refine Status_set G.hr G.hdr o.nd hrs o.nrs (by omega) hkey fun σ'' hx hd hr' E => φ σ'' ?_ hr' (E.lk fun l vs f e => ?_) (fun y oo hy n1 n2 => E.get hy (by rintro (e | e); exact n1 e; exact n2 e)) E.live
  · refine G.turn o E (fun y e => ?_) hd
    rcases e with rfl | rfl
    · exact ⟨o.fd,o.nd.symm,cdr⟩
    · exact ⟨o.frs,o.nr.symm,by intro e; have := G.hc; rw [← e,hrs] at this; cases this⟩
  · rcases f with rfl | rfl
    · rw [G.hdr] at e; cases e
    · rw [hrs] at e; cases e
end

section
variable {w : World} {mg mb : Str → Option Value} {h₀ : Heap} {stk : List Env} {d : Nat} {hf : Bool}
variable {q : Qs} {X : Addr → Prop} {D : Db} {σ' σp : Store} {c : Addr} {st s' key : Str} {er v : AV} {ch : List Str} {es : Es} {vs as : List AV} {Φ : AV → Store → Prop}
noncomputable abbrev gsF (d : Nat) : Fn := ⟨(Str.ofString "Dependency.get_status") ++ ".<locals>.",fs [9,14],some Qq,.ref 359,d + 2,true⟩
noncomputable def gsBody (k : Nat) : List Stmt := go k (subB (fS [9,14])) where
  go : Nat → List Stmt → List Stmt
  | 0,l => l
  | n + 1,l => go n (tl l)
structure GsL (ℓ : Locs) (q : Qs) : Prop where
  self : ℓ "self" = some (.ref q.n.x)
  task : ℓ "task" = some (.ref q.n.tx)
  res : ℓ "result" = some (.ref q.r)
  log : ℓ "get_log" = some (.bool q.b)
theorem GsL.set {ℓ : Locs} (L : GsL ℓ q) {x : Str} {v : AV} (h1 : x ≠ "self") (h2 : x ≠ "task") (h3 : x ≠ "result") (h4 : x ≠ "get_log") : GsL (ℓ.set x v) q :=
  ⟨(Locs.set_ne h1.symm).trans L.self,(Locs.set_ne h2.symm).trans L.task,(Locs.set_ne h3.symm).trans L.res,(Locs.set_ne h4.symm).trans L.log⟩
/-- what get_status leaves -/
noncomputable def GsPost (cc : Cx) (q : Qs) (X : Addr → Prop) (D : Db) (D₁ : List (Str × PyData)) (z : Str × List Str) (e : Bool) (Φ : AV → Store → Prop) : Prop :=
  ∀ σ' c er es,Gs q X D σ' c z.1 er z.2 → er.isNone = !e → handedA er = true → σ' q.rs = some (.dict es) → (q.b = true → DtKv cc σ' es D₁) → (q.b = false → es = []) → Φ (.ref q.r) σ'
noncomputable def tailOf (b : Bool) (st : Str) (ch mf cf : List Str) : Str × List Str := if b = false ∧ mf ≠ [] then ("error",ch) else (if cf ≠ [] then "run" else if mf ≠ [] then "error" else st,cf)
theorem Ze {f : Str → Bool} {l : List Str} {i : Nat} {p : Str} (h : l[i]? = some p) : (l.take (i + 1)).filter f = (l.take i).filter f ++ (if f p = true then [p] else []) := by
  rw [List.take_add_one,h,List.filter_append]
  congr 1
  simp only [Option.toList,List.filter_cons,List.filter_nil]
theorem NotLog.same {σ₁ σ₂ : Store} {rs y : Addr} (h : σ₂ rs = σ₁ rs) (n : NotLog σ₁ rs key es y) : NotLog σ₂ rs key es y := fun e => n (h.symm.trans e)
theorem gs_tail {W S : Str → Option We} {D₀ : List (Str × PyData)} {ℓ : Locs} {cc : Cx} (G : Gs q X D σ' c st er ch) (o : Q0 q) (L : GsL ℓ q) (hX : X q.n.tdx) (hrs : σ' q.rs = some (.dict es)) (hes : q.b = true → DtKv cc σ' es D₀) (hes0 : q.b = false → es = [])
    (hk1 : es.get "missing_file_dep" = none) (hk2 : es.get "changed_file_dep" = none) (hz : es.length ≤ 700) (her : er = .none)
    (hzd : q.ds.length ≤ 900) (hl : ∀ p ∈ q.ds,p.length ≤ 100) (hW : ∀ p ∈ q.ds,q.wes.get p = (W p).map We.av) (hS : ∀ p ∈ q.ds,D.get q.k.nm p = (S p).map (sv q.m))
    (φ : GsPost cc q X D (D₀ ++ segD "missing_file_dep" (strD (q.ds.filter (missQ W))) ++ segD "changed_file_dep" (strD (q.ds.filter (modf q.m W S)))) (tailOf q.b st ch (q.ds.filter (missQ W)) (q.ds.filter (modf q.m W S))) (!(q.ds.filter (missQ W)).isEmpty) Φ) :
    Ss (cx w mg mb h₀ stk) (gsF d) ℓ σ' (gsBody 13) (fun r _ σ' => Φ (retv r) σ') := by
  refine Jb (Jd (J6 ⟨by simp,fun ca hca => Je (by rfl) ?_⟩))
  have Gp := G
  have zca : q.σ ca = none := G.E.back hca
  have ncr : ca ≠ q.r := J9 G.hr hca
  have ncd : ca ≠ q.dr := J9 G.hdr hca
  have ncs : ca ≠ q.rs := J9 hrs hca
  have ncc : ca ≠ c := J9 G.hc hca
  have nct : ca ≠ q.n.tdx := J9 G.R.t.hdx hca
  have Lg0 : Lg σ' σ' q.b q.rs "missing_file_dep" es [] := Lg.start hrs
  have fca : ∀ y,y = ca → y ≠ q.rs ∧ (∀ vs,σ' y ≠ some (.list vs)) := fun y e => by subst e; exact ⟨ncs,fun vs h => by rw [hca] at h; cases h⟩
  refine Jb (Qu rfl (J1 (Jh (Jl (by rfl) L.task (Jn (G.alloc o (oo := .list []) hca).R.t.hx (G.alloc o (oo := .list []) hca).R.t.hdx (by rfl) (by kernel_rfl) (by rfl) ⟨q.k.fl,_,rfl,.inl (G.alloc o (oo := .list []) hca).R.t.hfl,Jx _ _ _,
    fun i ℓ σ₁ => GsL ℓ q ∧ ℓ "changed" = some (.ref ca) ∧ ∃ er₁,Gs q X D σ₁ c (if (q.ds.take i).filter (missQ W) = [] then st else "error") er₁ ch ∧ Lg σ' σ₁ q.b q.rs "missing_file_dep" es (strsA ((q.ds.take i).filter (missQ W))) ∧ σ₁ ca = some (.list (strsA ((q.ds.take i).filter (modf q.m W S)))) ∧
      NotLog σ₁ q.rs "missing_file_dep" es ca ∧ er₁.isNone = ((q.ds.take i).filter (missQ W)).isEmpty ∧ handedA er₁ = true ∧ (q.b = false → (q.ds.take i).filter (missQ W) = []),
    ⟨L.set (by decide) (by decide) (by decide) (by decide),by rfl,er,by rw [List.take_zero]; exact G.alloc o hca,by rw [List.take_zero]; exact Lg0.frame (F := (· = ca)) (Ext.refl.own rfl) fun y e => ⟨(fca y e).1,(fca y e).2,by rw [show y = ca from e]; exact Lg0.notNew hca⟩,by rw [List.take_zero]; exact Store.set_same _ _ _,
      (Lg0.notNew hca).same (Store.set_ne ncs.symm),by rw [her,List.take_zero]; rfl,by rw [her]; rfl,fun _ => by rw [List.take_zero]; rfl⟩,
    fun _ _ _ h => by obtain ⟨_,_,_,G₁,_⟩ := h; exact .inl G₁.R.t.hfl,?_,?_⟩)))))
  · rintro i v ℓ σ₁ hv ⟨L,lc,er₁,G,Lg₁,hca₁,nlca,hern,herh,hb0⟩
    obtain ⟨p,rfl,hp⟩ := Yo hv
    have hm : p ∈ q.ds := List.mem_of_getElem? hp
    have hi : i < q.ds.length := by
      rcases Nat.lt_or_ge i q.ds.length with h | h
      · exact h
      · rw [List.getElem?_eq_none h] at hp; cases hp
    have tk := fun f => Ze (f := f) hp
    refine Je (by rfl) ?_
    replace L : GsL (ℓ.set "dep" (.str p)) q := L.set (by decide) (by decide) (by decide) (by decide)
    refine Jb (Jd (Jk (Ja (by rfl) L.self (Js (fm := Q2) G.R.d.x G.R.d.dx (by rfl) (by kernel_rfl) ?_))))
    refine Jh (Jl (by rfl) L.task (Jn G.R.t.hx G.R.t.hdx (by rfl) (by kernel_rfl) (by rfl) (Ja (by rfl) (by rfl) (Ca.cw (Y4 G.R.d G.hD ?_)))))
    rw [show (D.get q.k.nm p).getD .none = ((S p).map (sv q.m)).getD .none by rw [hS p hm]]
    refine Je (by rfl) ?_
    replace L : GsL ((ℓ.set "dep" (.str p)).set "state" (((S p).map (sv q.m)).getD .none)) q := L.set (by decide) (by decide) (by decide) (by decide)
    cases hWp : W p with
    | none =>
      have hwp : q.wes.get p = none := by rw [hW p hm,hWp]; rfl
      have tm : (q.ds.take (i + 1)).filter (missQ W) = (q.ds.take i).filter (missQ W) ++ [p] := by rw [tk,if_pos (by unfold missQ; rw [hWp]; rfl)]
      have tc : (q.ds.take (i + 1)).filter (modf q.m W S) = (q.ds.take i).filter (modf q.m W S) := by rw [tk,if_neg (by unfold modf; rw [hWp]; simp),List.append_nil]
      refine Jb (st_try_raise excMF (by rfl) (by rfl) (trr_assign (trr_meth (Jh (Ja (by rfl) L.self (Jn G.R.d.x G.R.d.dx (by rfl) (by kernel_rfl) (by rfl) ⟨rfl,Js (fm := Jv) G.R.c.x G.R.c.dx (by rfl) (by generalize q.m = m; cases m <;> kernel_rfl) ?_⟩))))) ?_)
      · exact Ja (by rfl) (by rfl) ⟨rfl,Checker_info_miss (Cm_is q.m) G.R.c hwp⟩
      refine Jb (Jd (Jk (Jg ⟨_,meth_str PySem.F.slot_str_format_m PySem.F.type_str_format_m,cok,Ja (by rfl) (by rfl) (cw_format (hl p hm) fun y => Je (by rfl) ?_)⟩)))
      refine Jb (Jd (Ja (by rfl) (by rfl) (Jw (Ja (by rfl) L.res (J7 G.hr G.hdr (by kernel_rfl) (Nat.le_of_ble_eq_true rfl) o.nd fun σ₂ hx hd E => ?_)))))
      have cdr : q.dr ≠ c := by intro e; have := G.hc; rw [← e,G.hdr] at this; cases this
      have G₂ : Gs q X D σ₂ c (if (q.ds.take i).filter (missQ W) = [] then st else "error") (.str y) ch := G.turn o E (fun y e => by rw [show y = q.dr from e]; exact ⟨o.fd,o.nd.symm,cdr⟩) hd
      have Lg₂ : Lg σ' σ₂ q.b q.rs "missing_file_dep" es (strsA ((q.ds.take i).filter (missQ W))) := Lg₁.frame E fun y e => by
        rw [show y = q.dr from e]
        exact ⟨o.nrs.symm,fun vs h => (by rw [Gp.hdr] at h; cases h),Lg₁.notOf fun vs h => by rw [G.hdr] at h; cases h⟩
      have hca₂ := E.get hca₁ ncd
      have rs2 : σ₂ q.rs = σ₁ q.rs := E.keep _ (Lg₁.live _ (by rw [hrs]; simp)) (fun e => o.nrs e)
      have nlca₂ := nlca.same rs2
      have hlen : (strsA ((q.ds.take i).filter (missQ W))).length ≤ 900 := by
        rw [List.length_map]
        refine Nat.le_trans (List.length_filter_le _ _) (Nat.le_trans (List.length_take_le _ _) ?_)
        omega
      refine Jb (Jj (Jy (Jk (Ja (by rfl) L.res (Js (fm := Jr) G₂.hr G₂.hdr (by rfl) (by kernel_rfl) (Jg (Ja (by rfl) (by rfl) (Jg (Ca.cw (call_add (s' := "error") G₂ o Lg₂ (fun y hy => Gp.E.live y hy) hk1 (by omega) hlen (.inr rfl) (Lg₂.notOld (by rw [Gp.hc]; simp)) fun σ₃ G₃ Lg₃ fr => J4 ?_))))))))))
      obtain ⟨hca₃,nlca₃⟩ := fr _ _ hca₂ ncd ncs nlca₂
      rcases Bool.eq_false_or_eq_true q.b with hb | hb
      rotate_left
      · refine (if_pos (c := (!q.b) = true) (by simp [hb])).mpr ?_
        have hb0' := hb0 hb
        have mne : q.ds.filter (missQ W) ≠ [] := fun h => by
          have := List.filter_eq_nil_iff.mp h p hm
          exact this (by unfold missQ; rw [hWp]; rfl)
        obtain ⟨es',h1,_,_,h4,_⟩ := Lg₃.fin (c := cc)
        refine Jb (Jm (Ja (by rfl) L.res ?_))
        have e : tailOf q.b st ch (q.ds.filter (missQ W)) (q.ds.filter (modf q.m W S)) = (("error" : Str),ch) := by unfold tailOf; rw [if_pos ⟨hb,mne⟩]
        rw [e] at φ
        refine φ σ₃ c (.str y) es' G₃ ?_ rfl h1 (fun h => by rw [hb] at h; cases h) fun _ => (h4 hb).trans (hes0 hb)
        cases hf : q.ds.filter (missQ W) with
        | nil => exact absurd hf mne
        | cons _ _ => rfl
      · refine (if_neg (c := (!q.b) = true) (by simp [hb])).mpr ?_
        refine Jc (Jc (Jc ⟨L.set (by decide) (by decide) (by decide) (by decide),lc,.str y,?_,?_,by rw [tc]; exact hca₃,nlca₃,by rw [tm]; simp [AV.isNone],rfl,fun h => by rw [hb] at h; cases h⟩))
        · rw [tm,if_neg (by simp)]; exact G₃
        · rw [tm]
          have := Lg₃
          rw [show strsA ((q.ds.take i).filter (missQ W)) ++ [AV.str p] = strsA ((q.ds.take i).filter (missQ W) ++ [p]) by simp [strsA]] at this
          exact this
    | some e =>
      have hwp : q.wes.get p = some e.av := by rw [hW p hm,hWp]; rfl
      have tm : (q.ds.take (i + 1)).filter (missQ W) = (q.ds.take i).filter (missQ W) := by rw [tk,if_neg (by unfold missQ; rw [hWp]; simp),List.append_nil]
      have step : ∀ z,modified q.m e (S p) = z → (q.ds.take (i + 1)).filter (modf q.m W S) = (q.ds.take i).filter (modf q.m W S) ++ (if z = true then [p] else []) := fun z hz => by
        rw [tk]; congr 1
        have : modf q.m W S p = z := by unfold modf; rw [hWp]; exact hz
        rw [this]
      refine Jb (st_try (Jb (Jd (Jk (Jh (Ja (by rfl) L.self (Jn G.R.d.x G.R.d.dx (by rfl) (by kernel_rfl) (by rfl) (Js (fm := Jv) G.R.c.x G.R.c.dx (by rfl) (by generalize q.m = m; cases m <;> kernel_rfl) ?_))))))))
      refine Ja (by rfl) (by rfl) (Ca.cw (V4 (Cm_is q.m) G.R.c hwp (Je (by rfl) (Jc ?_))))
      replace L : GsL (((ℓ.set "dep" (.str p)).set "state" (((S p).map (sv q.m)).getD .none)).set "file_stat" e.av) q := L.set (by decide) (by decide) (by decide) (by decide)
      refine Jb (Jj (Ug ?_))
      have hlen : (strsA ((q.ds.take i).filter (modf q.m W S))).length ≤ 1000 := by
        rw [List.length_map]
        refine Nat.le_trans (List.length_filter_le _ _) (Nat.le_trans (List.length_take_le _ _) ?_)
        omega
      have app : ∀ {ℓ' : Locs},GsL ℓ' q → ℓ' "changed" = some (.ref ca) → ((q.ds.take (i + 1)).filter (modf q.m W S) = (q.ds.take i).filter (modf q.m W S) ++ [p]) →
          (fun ℓ σ₁ => GsL ℓ q ∧ ℓ "changed" = some (.ref ca) ∧ ∃ er₁,Gs q X D σ₁ c (if (q.ds.take (i + 1)).filter (missQ W) = [] then st else "error") er₁ ch ∧ Lg σ' σ₁ q.b q.rs "missing_file_dep" es (strsA ((q.ds.take (i + 1)).filter (missQ W))) ∧ σ₁ ca = some (.list (strsA ((q.ds.take (i + 1)).filter (modf q.m W S)))) ∧
            NotLog σ₁ q.rs "missing_file_dep" es ca ∧ er₁.isNone = ((q.ds.take (i + 1)).filter (missQ W)).isEmpty ∧ handedA er₁ = true ∧ (q.b = false → (q.ds.take (i + 1)).filter (missQ W) = [])) ℓ' (σ₁.set ca (.list (strsA ((q.ds.take i).filter (modf q.m W S)) ++ [.str p]))) := fun L' lc' h => by
        rw [tm,h]
        refine ⟨L',lc',er₁,G.ext o (Ext.refl.own (F := (· = ca)) rfl) fun y e => ?_,Lg₁.frame (F := (· = ca)) (Ext.refl.own rfl) fun y e => ⟨(fca y e).1,(fca y e).2,by rw [show y = ca from e]; exact nlca⟩,by rw [Store.set_same]; simp [strsA],nlca.same (Store.set_ne ncs.symm),hern,herh,hb0⟩
        rw [show y = ca from e]; exact ⟨zca,ncr,ncc,ncd⟩
      cases hSp : S p with
      | none =>
        rw [hSp] at L step
        refine Jf (Ja (by rfl) (by rfl) (Jz (Qv ⟨_,rfl,?_⟩)))
        refine Jb (J0 (Jk (Ja (by rfl) lc ⟨_,Qd (.inl hca₁) PySem.F.slot_list_append PySem.F.type_list_append,cok,Ja (by rfl) (by rfl) (Qe hca₁ hlen ?_)⟩)))
        exact Jc (Jc (Jc (app L lc (step true rfl))))
      | some s =>
        rw [hSp] at L step
        refine Jf (Ja (by rfl) (by rfl) (Jz (Qv ⟨_,rfl,?_⟩)))
        rw [show (((some s).map (sv q.m)).getD AV.none).isNone = false by generalize q.m = m; cases m <;> rfl]
        refine Jy (Jk (Jh (Ja (by rfl) L.self (Jn G.R.d.x G.R.d.dx (by rfl) (by kernel_rfl) (by rfl) (Js (fm := aMod q.m) G.R.c.x G.R.c.dx (by rfl) (by generalize q.m = m; cases m <;> kernel_rfl) ?_)))))
        refine Ja (by rfl) (by rfl) (Ja (by rfl) (by rfl) (Ja (by rfl) (by rfl) (Ca.cw (Chk_mod G.R.c hwp (J4 ?_)))))
        cases hz : modified q.m e (some s) with
        | true =>
          refine Jb (J0 (Jk (Ja (by rfl) lc ⟨_,Qd (.inl hca₁) PySem.F.slot_list_append PySem.F.type_list_append,cok,Ja (by rfl) (by rfl) (Qe hca₁ hlen ?_)⟩)))
          exact Jc (Jc (Jc (app L lc (step true hz))))
        | false =>
          refine Jc (Jc (Jc ⟨L,lc,er₁,?_⟩))
          rw [tm,step false hz]
          rw [show (if false = true then [p] else ([] : List Str)) = [] from rfl,List.append_nil]
          exact ⟨G,Lg₁,hca₁,nlca,hern,herh,hb0⟩
  · rintro ℓ σ₁ ⟨L,lc,er₁,G,Lg₁,hca₁,nlca,hern,herh,hb0⟩
    rw [show (strsA q.ds).length = q.ds.length by simp,List.take_length] at G Lg₁ hca₁ hern hb0
    have hlen : (strsA (q.ds.filter (modf q.m W S))).length ≤ 1000 := by
      rw [List.length_map]
      refine Nat.le_trans (List.length_filter_le _ _) ?_
      omega
    refine Jb (Jd (Ja (by rfl) lc (Jw (Jl (by rfl) L.task (J7 G.R.t.hx G.R.t.hdx (by kernel_rfl) (Nat.le_of_ble_eq_true rfl) G.R.t.nx fun σ₂ hx hd E₂ => ?_)))))
    have G₂ := G.dc (c' := ca) (ch' := q.ds.filter (modf q.m W S)) o hX E₂ hd (E₂.get hca₁ nct)
    have Lg₂ : Lg σ' σ₂ q.b q.rs "missing_file_dep" es (strsA (q.ds.filter (missQ W))) := Lg₁.frame E₂ fun y e => by
      rw [show y = q.n.tdx from e]
      exact ⟨fun h => o.old q.n.tdx (by simp [bs]) (by rw [h]; exact o.frs),fun vs h => (by rw [Gp.R.t.hdx] at h; cases h),Lg₁.notOf fun vs h => (by rw [G.R.t.hdx] at h; cases h)⟩
    obtain ⟨es',h1,h2,h3,h4,h5⟩ := Lg₂.fin (c := cc)
    have dk : q.b = true → DtKv cc σ₂ es' (D₀ ++ segD "missing_file_dep" (strD (q.ds.filter (missQ W)))) := fun hb => h5 hb _ _ (hes hb) (Qp _)
    refine Jb (Jj (Jf (Ju (Jt (by rfl) (by kernel_rfl) glob_len ⟨_,rfl,cok,Ja (by rfl) lc (cw_len_list (.inl G₂.hc) hlen (Ji (op_gt_int ⟨_,rfl,?_⟩)))⟩))))
    have tl1 : tailOf q.b st ch (q.ds.filter (missQ W)) (q.ds.filter (modf q.m W S)) = ((if q.ds.filter (modf q.m W S) ≠ [] then ("run" : Str) else if q.ds.filter (missQ W) ≠ [] then ("error" : Str) else st),q.ds.filter (modf q.m W S)) := by
      unfold tailOf
      rw [if_neg fun h => h.2 (hb0 h.1)]
    rw [tl1] at φ
    have hen : er₁.isNone = !(!(q.ds.filter (missQ W)).isEmpty) := by rw [hern,Bool.not_not]
    have ste : (if q.ds.filter (missQ W) = [] then st else ("error" : Str)) = (if q.ds.filter (missQ W) ≠ [] then ("error" : Str) else st) := by
      by_cases h : q.ds.filter (missQ W) = []
      · rw [if_pos h,if_neg (fun n => n h)]
      · rw [if_neg h,if_pos h]
    cases hc : q.ds.filter (modf q.m W S) with
    | nil =>
      rw [hc] at G₂ φ
      refine Jc ?_
      refine Jb (Jm (Ja (by rfl) L.res (φ σ₂ ca er₁ es' ?_ hen herh h1 (fun hb => ?_) fun hb => (h4 hb).trans (hes0 hb))))
      · rw [if_neg (by simp)]; rw [ste] at G₂; exact G₂
      · rw [show segD "changed_file_dep" (strD []) = [] by rfl,List.append_nil]; exact dk hb
    | cons p r =>
      rw [hc] at G₂ φ
      rw [show decide ((0 : Int) < ((strsA (p :: r)).length : Nat)) = true by simp]
      refine Jb (J0 (Jk (Ja (by rfl) L.res (Js (fm := J2) G₂.hr G₂.hdr (by rfl) (by kernel_rfl) (Jg (Ja (by rfl) lc (Ca.cw (call_set G₂ o h1 (by rw [h2 _ (by decide)]; exact hk2) (by omega) fun σ₃ G₃ hr₃ lk fr lv => ?_))))))))
      refine Jc ?_
      refine Jb (Jm (Ja (by rfl) L.res (φ σ₃ ca er₁ _ ?_ hen herh hr₃ (fun hb => ?_) fun hb => by rw [hb,if_neg (by simp)]; exact (h4 hb).trans (hes0 hb))))
      · rw [if_pos (by simp)]; exact G₃
      · rw [hb,if_pos rfl]
        refine ((dk hb).mono lk).append ?_
        unfold segD
        rw [if_neg (by simp [strD])]
        exact .cons (.list (.inl (lk _ _ G₂.hc)) (Qp _)) .nil
end

theorem str_ext {a b : Str} (h : a.cps.toList = b.cps.toList) : a = b := by
  cases a; cases b
  congr 1
  exact Array.ext' h
theorem leS_iff (a b : Str) : leS a b = true ↔ a.cps.toList ≤ b.cps.toList := by
  unfold leS
  rw [ltCps_eq]
  simp
theorem leS_trans (a b c : Str) (h : leS a b = true) (g : leS b c = true) : leS a c = true := by
  rw [leS_iff] at *
  exact List.le_trans h g
theorem leS_antisymm (a b : Str) (h : leS a b = true) (g : leS b a = true) : a = b := by
  rw [leS_iff] at *
  exact str_ext (List.le_antisymm h g)
theorem leS_total (a b : Str) : (leS a b || leS b a) = true := by
  rw [Bool.or_eq_true,leS_iff,leS_iff]
  exact List.le_total _ _
theorem rising_pw : ∀ (p : Str) (l : List Str),risingS p l = true → (p :: l).Pairwise (fun a b => leS a b = true)
  | p,[],_ => List.pairwise_singleton _ _
  | p,x :: r,h => by
    unfold risingS at h
    rw [Bool.and_eq_true] at h
    have ih := rising_pw x r h.2
    refine List.pairwise_cons.mpr ⟨fun y hy => ?_,ih⟩
    have px : leS p x = true := h.1
    rcases List.mem_cons.mp hy with rfl | hy
    · exact px
    · exact leS_trans _ _ _ px ((List.pairwise_cons.mp ih).1 y hy)
theorem sorted_pw : ∀ (l : List Str),sortedS l = true → l.Pairwise (fun a b => leS a b = true)
  | [],_ => .nil
  | x :: r,h => rising_pw x r h
theorem Y5 {ss ss' : List Str} (p : ss'.Perm ss) (s : sortedS ss' = true) : ss' = srt ss :=
  List.Perm.eq_of_pairwise (fun a b _ _ h g => leS_antisymm a b h g) (sorted_pw _ s) (List.pairwise_mergeSort leS_trans leS_total ss) (p.trans (List.mergeSort_perm ss leS).symm)
theorem srt_perm (l : List Str) : (srt l).Perm l := List.mergeSort_perm l leS
theorem srt_congr {a b : List Str} (p : a.Perm b) : srt a = srt b :=
  List.Perm.eq_of_pairwise (fun a b _ _ h g => leS_antisymm a b h g) (List.pairwise_mergeSort leS_trans leS_total a) (List.pairwise_mergeSort leS_trans leS_total b) (((srt_perm a).trans p).trans (srt_perm b).symm)
theorem subset_back : ∀ {a b : List Str},a.Nodup → (∀ x ∈ a,x ∈ b) → b.length ≤ a.length → ∀ y ∈ b,y ∈ a
  | [],b,_,_,h,y,hy => by
    cases b with
    | nil => cases hy
    | cons _ _ => simp at h
  | x :: r,b,nd,sub,h,y,hy => by
    rw [List.nodup_cons] at nd
    have hx := sub x (.head _)
    by_cases e : y = x
    · subst e; exact .head _
    · have hl : (b.erase x).length ≤ r.length := by
        rw [List.length_erase_of_mem hx]; simp at h; omega
      refine .tail _ (subset_back nd.2 (fun z hz => ?_) hl y ((List.mem_erase_of_ne e).mpr hy))
      have : z ≠ x := by rintro rfl; exact nd.1 hz
      exact (List.mem_erase_of_ne this).mpr (sub z (.tail _ hz))
theorem sameSet_iff {a b : List Str} : sameSet a b = true ↔ a.length = b.length ∧ ∀ x ∈ a,x ∈ b := by
  unfold sameSet
  rw [Bool.and_eq_true,beq_iff_eq,List.all_eq_true]
  refine and_congr_right fun _ => forall_congr' fun x => imp_congr_right fun _ => ?_
  rw [List.any_eq_true]
  constructor
  · rintro ⟨y,hy,e⟩; rw [beq_iff_eq] at e; exact e ▸ hy
  · intro h; exact ⟨x,h,by simp⟩
theorem srt_eq_iff {a b : List Str} (na : a.Nodup) (nb : b.Nodup) : srt a = srt b ↔ sameSet a b = true := by
  rw [sameSet_iff]
  constructor
  · intro h
    have p : a.Perm b := ((srt_perm a).symm.trans (by rw [h])).trans (srt_perm b)
    exact ⟨p.length_eq,fun x hx => p.mem_iff.mp hx⟩
  · rintro ⟨hl,hs⟩
    refine srt_congr ((List.perm_ext_iff_of_nodup na nb).mpr fun x => ⟨hs x,subset_back na hs (by omega) x⟩)
theorem srt_mem {l : List Str} {x : Str} : x ∈ srt l ↔ x ∈ l := (srt_perm l).mem_iff
theorem dd_self : ∀ {l : List Str},l.Nodup → (dd l).length = l.length ∧ ∀ x,x ∈ dd l ↔ x ∈ l := by
  intro l h
  have key : ∀ (l s : List Str),l.Nodup → (∀ x ∈ l,x ∉ s) → (l.foldl addS s).length = s.length + l.length := by
    intro l
    induction l with
    | nil => intro s _ _; simp
    | cons y r ih =>
      intro s h n
      rw [List.nodup_cons] at h
      rw [List.foldl_cons,ih _ h.2 (fun x hx => by
        rw [addS_mem]
        rintro (a | a)
        · exact n x (List.mem_cons_of_mem _ hx) a
        · subst a; exact h.1 hx),addS_len,if_neg (n y List.mem_cons_self)]
      simp; omega
  exact ⟨by have := key l [] h (by simp); simpa [dd] using this,dd_mem l⟩
theorem any_mem {x : Str} {l : List Str} : l.any (· == x) = decide (x ∈ l) := by
  rw [Bool.eq_iff_iff,List.any_eq_true,decide_eq_true_iff]
  constructor
  · rintro ⟨y,hy,e⟩; rw [beq_iff_eq] at e; exact e ▸ hy
  · intro h; exact ⟨x,h,by simp⟩

noncomputable def compOkB (o s : Scope) : Bool := (s.kind == .function) && s.names.all fun y => (y.2 != .cell) && (y.2 != .local || s.names.lookup y.1 == some .local) && (y.2 != .free || o.names.lookup y.1 == some .cell)
theorem Qh {f : Fn} {s : Scope} (k : compOkB f.scope s = true) : CompOk f s := by
  unfold compOkB at k
  simp only [Bool.and_eq_true,List.all_eq_true,beq_iff_eq,Bool.or_eq_true,bne_iff_ne] at k
  refine ⟨k.1,fun y hy => (k.2 y hy).1.1,fun y hy e => ?_,fun y hy e => ?_⟩
  · rcases (k.2 y hy).1.2 with h | h
    · exact absurd e h
    · exact h
  · rcases (k.2 y hy).2 with h | h
    · exact absurd e h
    · exact h
noncomputable def gq (q : Str → Bool) : AV → Option AV
  | .str p => if q p = true then some (.str p) else none
  | _ => none
theorem Hx (q : Str → Bool) : ∀ l : List Str,(strsA l).filterMap (gq q) = strsA (l.filter q)
  | [] => rfl
  | p :: r => by
    have ih := Hx q r
    cases h : q p with
    | true =>
      rw [List.filter_cons_of_pos h]
      show List.filterMap (gq q) (AV.str p :: strsA r) = AV.str p :: strsA (r.filter q)
      rw [List.filterMap_cons_some (b := .str p) (by show (if q p = true then some (AV.str p) else none) = _; rw [if_pos h]),ih]
    | false =>
      rw [List.filter_cons_of_neg (by simp [h])]
      show List.filterMap (gq q) (AV.str p :: strsA r) = _
      rw [List.filterMap_cons_none (by show (if q p = true then some (AV.str p) else none) = _; rw [if_neg (by simp [h])]),ih]
section
variable {c : Cx} {f : Fn} {ℓ : Locs} {σ σ' σ'' : Store} {h h' h₀ h'' : Heap} {p : Pl} {wr : List Addr}
theorem Qr {x : Str} {xpos spos : Pos} {elt t iter : Expr} {ifs : List Expr} {scope : Scope} {pos : Pos} {Φ : AF → Locs → Store → Prop} (hf : f.hf = true) (K : CompOk f scope) (hk : f.kind x = some .local)
    (q : Itr c f ℓ σ iter t fun vs Req σ₁ => ∃ g : AV → Option AV,vs.length ≤ 1000 ∧ (∀ σ',σ₁.le σ' → Req σ') ∧ (∀ v ∈ vs,∀ σ',σ₁.le σ' → CompTurn c (f.comp scope) (ℓ.comp f scope) t elt ifs g v σ') ∧
      ∀ D,σ₁ D = none → Φ .next (ℓ.set x (.ref D)) (σ₁.set D (.list (vs.filterMap g))))
    (hsw : ∀ p : Pl,swapsWith (.ListComp elt [⟨t,iter,ifs,0⟩] scope pos) (some (.Name x xpos)) spos.line (f.env p) = pure true := by intro _; rfl)
    (hs : ∀ env x,foldedSetIterable iter env x = pure x := by intro _ _; rfl) : St c f ℓ σ (.Assign [.Name x xpos] (.ListComp elt [⟨t,iter,ifs,0⟩] scope pos) spos) Φ := by
  intro A p s Q E ok rm H k
  rw [exec_Assign_Name_used _ _ _ _ (hsw _)]
  refine wpAny_bind (wpAny_standAt (wpAny_bind ?_))
  show wpAny _ A (do let _ ← comprehension (.ListComp elt [⟨t,iter,ifs,0⟩] scope pos) scope (f.env p) _ (newList []) false (eval iter (f.env p)) (some (assign (.Name x xpos) (f.env p)))) _ _ s
  refine wpAny_bind ?_
  refine comp_core (use := some (assign (.Name x xpos) (f.env p))) (Q := fun _ s' => wpAny (model c.prog c.w) A (pure ()) (fun _ s' => wpAny (model c.prog c.w) A (pure Flow.next) Q E s') E s') (Φ := fun D σ' => Φ .next (ℓ.set x (.ref D)) σ') hf K q hs ok rm H
    fun D σ' C h' tk m φ H' s' hn hC C₀ nl nc n0 => ?_
  show wpAny _ A (assign (.Name x xpos) (f.env p) (.ref D)) _ _ _
  refine Je (Φ := fun ℓ' σ'' => ℓ' = ℓ.set x (.ref D) ∧ σ'' = σ') hk ⟨rfl,rfl⟩ A p { s with heap := h',toks := tk } (.ref D) _ E ok rm H' (.ref D) fun ℓ' σ'' h₂ t₂ e H₂ s₂ => ?_
  obtain ⟨rfl,rfl⟩ := e
  have ownC : ¬ Own f p C := by
    rintro (e | ⟨y,_,hy⟩)
    · exact nl e
    · exact nc y hy
  have hn₂ : h₂.Ns C m := Ns.kp hn fun o e => s₂.keep C o e hC ownC
  refine ⟨m,hn₂,fun h'' hs'' => wpAny_pure (wpAny_pure ?_)⟩
  have hw : Hids c σ'' h₂ [C] := fun b mb => by
    rw [List.mem_singleton] at mb; subst mb
    obtain ⟨o,es,ep,ho,hd,_⟩ := hn₂
    exact ⟨hC,C₀,H.good.notFrame n0,o,ho,fun xs e => by rw [e] at hd; cases hd⟩
  have kb : KeepBut [C] h₂ h'' := fun b o nb e => (hs''.2 b fun q => nb (List.mem_singleton.mpr q)).trans e
  exact k .next .next _ _ h'' t₂ φ (H₂.hidL hw kb fun b mb => by rw [List.mem_singleton] at mb; subst mb; exact ⟨nl,nc⟩) ((s'.trans H' s₂).hidL kb fun b mb => by rw [List.mem_singleton] at mb; subst mb; exact n0) .next

end
theorem gq_t {q : Str → Bool} {p : Str} (h : q p = true) : gq q (.str p) = some (.str p) := by
  show (if q p = true then _ else _) = _; rw [if_pos h]
theorem gq_f {q : Str → Bool} {p : Str} (h : q p = false) : gq q (.str p) = none := by
  show (if q p = true then _ else _) = _; rw [if_neg (by simp [h])]
noncomputable def ifB : Stmt → List Stmt | .If _ b _ _ => b | _ => []
section
variable {w : World} {mg mb : Str → Option Value} {h₀ : Heap} {stk : List Env} {d : Nat} {hf : Bool}
variable {q : Qs} {X : Addr → Prop} {D : Db} {σ' σp : Store} {c : Addr} {st s' key : Str} {er v : AV} {ch : List Str} {es : Es} {vs as : List AV} {Φ : AV → Store → Prop}
theorem gs_deps {W S : Str → Option We} {D₀ : List (Str × PyData)} {ℓ : Locs} {cc : Cx} {s : Option Sav} (G : Gs q X D σ' c st er ch) (o : Q0 q) (L : GsL ℓ q) (hX : X q.n.tdx) (hrs : σ' q.rs = some (.dict es)) (hes : q.b = true → DtKv cc σ' es D₀) (hes0 : q.b = false → es = [])
    (hk3 : es.get "added_file_dep" = none) (hk4 : es.get "removed_file_dep" = none) (hk1 : es.get "missing_file_dep" = none) (hk2 : es.get "changed_file_dep" = none) (hz : es.length ≤ 600) (her : er = .none)
    (hzd : q.ds.length ≤ 60) (ndd : q.ds.Nodup) (hl : ∀ p ∈ q.ds,p.length ≤ 100) (hW : ∀ p ∈ q.ds,q.wes.get p = (W p).map We.av) (hS : ∀ p ∈ q.ds,D.get q.k.nm p = (S p).map (sv q.m))
    (h2 : D.get q.k.nm "deps:" = s.map fun s => .tup (strsA s.deps)) (hs : ∀ s',s = some s' → s'.deps.Nodup ∧ s'.deps.length ≤ 60)
    (φ : GsPost cc q X D (D₀ ++ othD q.ds s ++ segD "missing_file_dep" (strD (q.ds.filter (missQ W))) ++ segD "changed_file_dep" (strD (q.ds.filter (modf q.m W S)))) (tailOf q.b (if othOf q.ds s = [] then st else "run") ch (q.ds.filter (missQ W)) (q.ds.filter (modf q.m W S))) (!(q.ds.filter (missQ W)).isEmpty) Φ) :
    Ss (cx w mg mb h₀ stk) (gsF d) ℓ σ' (gsBody 10) (fun r _ σ' => Φ (retv r) σ') := by
  refine Jb (Jd (Jk (Ja (by rfl) L.self (Js (fm := Q2) G.R.d.x G.R.d.dx (by rfl) (by kernel_rfl) ?_))))
  refine Jh (Jl (by rfl) L.task (Jn G.R.t.hx G.R.t.hdx (by rfl) (by kernel_rfl) (by rfl) (Jg (Ca.cw (Y4 G.R.d G.hD ?_)))))
  refine Je (by rfl) ?_
  have skip : othOf q.ds s = [] → othD q.ds s = [] → ∀ {σ₁ : Store} {ℓ : Locs},GsL ℓ q → Gs q X D σ₁ c st er ch → σ₁ q.rs = some (.dict es) → LK σ' σ₁ → Ss (cx w mg mb h₀ stk) (gsF d) ℓ σ₁ (gsBody 13) (fun r _ σ' => Φ (retv r) σ') := by
    intro e1 e2 σ₁ ℓ L₁ G₁ hrs₁ lk
    rw [e1,e2,List.append_nil,if_pos rfl] at φ
    exact gs_tail G₁ o L₁ hX hrs₁ (fun hb => (hes hb).mono lk) hes0 hk1 hk2 (by omega) her (by omega) hl hW hS φ
  cases s with
  | none =>
    rw [show (D.get q.k.nm "deps:").getD .none = .none by rw [h2]; rfl]
    replace L : GsL (ℓ.set "previous" .none) q := L.set (by decide) (by decide) (by decide) (by decide)
    refine Jb (Jd (Qo (Jy (Ja (by rfl) (by rfl) (Ub ?_)))))
    refine Jz (Hw (by rfl) (by rfl) ?_)
    replace L : GsL ((ℓ.set "previous" .none).set "previous_set" .none) q := L.set (by decide) (by decide) (by decide) (by decide)
    refine Jb (Jj (Qy ?_))
    refine Jy (Jl (by rfl) (by rfl) (Ub ?_))
    exact Jc (skip rfl rfl L G hrs fun _ _ e => e)
  | some s =>
    obtain ⟨nds,hzs⟩ := hs s rfl
    rw [show (D.get q.k.nm "deps:").getD .none = .tup (strsA s.deps) by rw [h2]; rfl]
    replace L : GsL (ℓ.set "previous" (.tup (strsA s.deps))) q := L.set (by decide) (by decide) (by decide) (by decide)
    refine Jb (Jd (Qo (Jy (Ja (by rfl) (by rfl) (tr_tup (vs := strsA s.deps) (by simp; omega) ?_)))))
    by_cases he : s.deps = []
    · rw [he]
      rw [he] at L
      refine Jz (Hw (by rfl) (by rfl) ?_)
      replace L := L.set (x := "previous_set") (v := .none) (by decide) (by decide) (by decide) (by decide)
      refine Jb (Jj (Qy ?_))
      refine Jy (Jl (by rfl) (by rfl) (Ub ?_))
      exact Jc (skip (by unfold othOf; simp only [he,true_or,if_true]) (by unfold othD; simp only [he,true_or,if_true]) L G hrs fun _ _ e => e)
    rw [show (!(strsA s.deps).isEmpty) = true by cases hd : s.deps with | nil => exact absurd hd he | cons _ _ => rfl]
    refine Ju (Jt (by rfl) (by kernel_rfl) glob_set ⟨_,rfl,Q8,Ja (by rfl) (by rfl) (cw_set (l := 0) (.inr rfl) rfl (by omega) fun s1 hs1 => Hw (by rfl) (by rfl) ?_)⟩)
    replace L := L.set (x := "previous_set") (v := .ref s1) (by decide) (by decide) (by decide) (by decide)
    have G₁ := G.alloc o (oo := .set (dd s.deps)) hs1
    have h1 : (σ'.set s1 (.set (dd s.deps))) s1 = some (.set (dd s.deps)) := Store.set_same ..
    have lk₁ : LK σ' (σ'.set s1 (.set (dd s.deps))) := fun l vs e => Store.set_old e hs1
    have hrs₁ : (σ'.set s1 (.set (dd s.deps))) q.rs = some (.dict es) := Store.set_old hrs hs1
    generalize σ'.set s1 (.set (dd s.deps)) = σ₁ at G₁ h1 lk₁ hrs₁
    have hdl := dd_len s.deps
    have hdl2 := dd_len q.ds
    refine Jb (Jj (Qy ?_))
    refine Jy (Jl (by rfl) (by rfl) (tr_set h1 (by omega) ?_))
    rw [show ((dd s.deps).length != 0) = true by rw [(dd_self nds).1]; cases hd : s.deps with | nil => exact absurd hd he | cons _ _ => rfl]
    refine Jf (Jl (by rfl) (by rfl) (Ju (Jt (by rfl) (by kernel_rfl) glob_set ⟨_,rfl,Q8,Jh (Jl (by rfl) L.task (Jn G₁.R.t.hx G₁.R.t.hdx (by rfl) (by kernel_rfl) (by rfl) (cw_set (.inl ⟨rfl,.inl G₁.R.t.hfl⟩) rfl (by omega) fun s2 hs2 => ?_)))⟩)))
    refine op_ne_set (Store.set_old h1 hs2) (Store.set_same _ _ _) (by omega) (by omega) fun z hz' => ⟨_,rfl,?_⟩
    have G₂ := G₁.alloc o (oo := .set (dd q.ds)) hs2
    have lk₂ : LK σ' (σ₁.set s2 (.set (dd q.ds))) := fun l vs e => Store.set_old (lk₁ l vs e) hs2
    have hrs₂ : (σ₁.set s2 (.set (dd q.ds))) q.rs = some (.dict es) := Store.set_old hrs₁ hs2
    have h1₂ : (σ₁.set s2 (.set (dd q.ds))) s1 = some (.set (dd s.deps)) := Store.set_old h1 hs2
    generalize σ₁.set s2 (.set (dd q.ds)) = σ₂ at G₂ lk₂ hrs₂ h1₂
    have hz2 : z = sameSet s.deps q.ds := by
      rw [Bool.eq_iff_iff,hz',sameSet_iff,(dd_self nds).1,(dd_self ndd).1]
      exact and_congr_right fun _ => ⟨fun h x hx => (dd_mem _ _).mp (h x ((dd_mem _ _).mpr hx)),fun h x hx => (dd_mem _ _).mpr (h x ((dd_mem _ _).mp hx))⟩
    rw [hz2]
    clear hz' hz2
    by_cases hsm : sameSet s.deps q.ds = true
    · rw [hsm]
      exact Jc (skip (by unfold othOf; simp only [hsm,or_true,if_true]) (by unfold othD; simp only [hsm,or_true,if_true]) L G₂ hrs₂ lk₂)
    rw [show sameSet s.deps q.ds = false by simpa using hsm]
    have ho : othOf q.ds (some s) ≠ [] := by unfold othOf; simp only [he,hsm]; simp
    rw [if_neg ho] at φ
    have fin : ∀ {σ₃ : Store} {ℓ : Locs} {es' : Es} {st' : Str},GsL ℓ q → Gs q X D σ₃ c st' er ch → σ₃ q.rs = some (.dict es') → (q.b = true → DtKv cc σ₃ es' (D₀ ++ othD q.ds (some s))) → (q.b = false → es' = []) → es'.get "missing_file_dep" = none → es'.get "changed_file_dep" = none → List.length es' ≤ 650 →
        Ss (cx w mg mb h₀ stk) (gsF d) ℓ σ₃ (tl (ifB (nth (gsBody 12) 0))) (SeqK (cx w mg mb h₀ stk) (gsF d) (gsBody 13) (fun r _ σ' => Φ (retv r) σ')) := by
      intro σ₃ ℓ es' st' L₃ G₃ hrs₃ hd₃ hes₃ k1 k2 hz₃
      refine Jb (Jd (Jg (Jw (Ja (by rfl) L₃.res (J7 G₃.hr G₃.hdr (by kernel_rfl) (Nat.le_of_ble_eq_true rfl) o.nd fun σ₄ hx hd E => ?_)))))
      have cdr : q.dr ≠ c := by intro e; have := G₃.hc; rw [← e,G₃.hdr] at this; cases this
      have G₄ : Gs q X D σ₄ c "run" er ch := G₃.turn o E (fun y e => by rw [show y = q.dr from e]; exact ⟨o.fd,o.nd.symm,cdr⟩) hd
      refine Jc (gs_tail G₄ o L₃ hX (E.get hrs₃ fun e => o.nrs e) (fun hb => (hd₃ hb).mono (E.lk fun l vs f e => ?_)) hes₃ k1 k2 (by omega) her (by omega) hl hW hS φ)
      rw [show l = q.dr from f,G₃.hdr] at e; cases e
    refine Jb (Jj (Jy (Ja (by rfl) L.log (J4 ?_))))
    rcases Bool.eq_false_or_eq_true q.b with hb | hb
    rotate_left
    · refine (if_neg (c := q.b = true) (by simp [hb])).mpr ?_
      exact Jc (fin L G₂ hrs₂ (fun h => by rw [hb] at h; cases h) hes0 hk1 hk2 (by omega))
    refine (if_pos (c := q.b = true) hb).mpr ?_
    refine Jb (Jd (Ju (Jt (by rfl) (by kernel_rfl) Yp ⟨_,rfl,cok,?_⟩)))
    refine Yz rfl (Qh (by kernel_rfl)) (J1 (Jh (Jl (by rfl) L.task (Jn G₂.R.t.hx G₂.R.t.hdx (by rfl) (by kernel_rfl) (by rfl) ⟨q.k.fl,strsA q.ds,rfl,.inl G₂.R.t.hfl,Jx _ _ _,gq fun p => !s.deps.any (· == p),by simp; omega,fun σ' le => .inl ((le _ (by rw [G₂.R.t.hfl]; simp)).trans G₂.R.t.hfl),fun v hv σ' hle => ?_,fun a1 ha1 => ?_⟩))))
    · obtain ⟨p,hp,rfl⟩ := List.mem_map.mp hv
      have h1' : σ' s1 = some (.set (dd s.deps)) := (hle s1 (by rw [h1₂]; simp)).trans h1₂
      refine Je (by rfl) ⟨rfl,fun x u h => ?_,?_⟩
      · rw [Locs.set_ne]
        · exact h
        · rintro rfl; cases h
      · refine Jf (Ja (by rfl) (by rfl) (Jl (by rfl) (by rfl) (op_notin_set h1' (by omega) ⟨_,rfl,?_⟩)))
        have e1 : (!decide (p ∈ dd s.deps)) = !s.deps.any (· == p) := by rw [any_mem]; congr 1; exact decide_eq_decide.mpr (dd_mem _ _)
        rw [e1]
        cases hz' : (!s.deps.any (· == p)) with
        | true => exact ⟨rfl,Ja (by rfl) (by rfl) ⟨rfl,gq_t hz'⟩⟩
        | false => exact ⟨rfl,gq_f hz'⟩
    rw [Hx,show q.ds.filter (fun p => !s.deps.any (· == p)) = minus q.ds s.deps from rfl]
    refine Zi (ss := minus q.ds s.deps) (.inl (Store.set_same _ _ _)) (Nat.lt_of_le_of_lt (List.length_filter_le _ _) (by omega)) fun a2 A1 ha2 hp1 hs1' => Je (by rfl) ?_
    obtain rfl := Y5 hp1 hs1'
    clear hp1 hs1'
    replace L := L.set (x := "added_files") (v := .ref a2) (by decide) (by decide) (by decide) (by decide)
    have G₃ := (G₂.alloc o (oo := .list (strsA (minus q.ds s.deps))) ha1).alloc o (oo := .list (strsA (srt (minus q.ds s.deps)))) ha2
    have lk₃ : LK σ' ((σ₂.set a1 (.list (strsA (minus q.ds s.deps)))).set a2 (.list (strsA (srt (minus q.ds s.deps))))) := fun l vs e => Store.set_old (Store.set_old (lk₂ l vs e) ha1) ha2
    have hrs₃ : ((σ₂.set a1 (.list (strsA (minus q.ds s.deps)))).set a2 (.list (strsA (srt (minus q.ds s.deps))))) q.rs = some (.dict es) := Store.set_old (Store.set_old hrs₂ ha1) ha2
    have h2₃ : ((σ₂.set a1 (.list (strsA (minus q.ds s.deps)))).set a2 (.list (strsA (srt (minus q.ds s.deps))))) a2 = some (.list (strsA (srt (minus q.ds s.deps)))) := Store.set_same _ _ _
    generalize (σ₂.set a1 (.list (strsA (minus q.ds s.deps)))).set a2 (.list (strsA (srt (minus q.ds s.deps)))) = σ₃ at G₃ lk₃ hrs₃ h2₃
    refine Jb (Jd (Ju (Jt (by rfl) (by kernel_rfl) Yp ⟨_,rfl,cok,?_⟩)))
    refine Yz rfl (Qh (by kernel_rfl)) (itr_tup (Ja (by rfl) (by rfl) ⟨strsA s.deps,rfl,Jx _ _ _,gq fun p => !q.ds.any (· == p),by simp; omega,fun _ _ => trivial,fun v hv σ' hle => ?_,fun a3 ha3 => ?_⟩))
    · obtain ⟨p,hp,rfl⟩ := List.mem_map.mp hv
      have up : ∀ {b : Addr} {oo : AO},σ₃ b = some oo → σ' b = some oo := fun e => (hle _ (by rw [e]; simp)).trans e
      refine Je (by rfl) ⟨rfl,fun x u h => ?_,?_⟩
      · rw [Locs.set_ne]
        · exact h
        · rintro rfl; cases h
      · refine Jf (Ja (by rfl) (by rfl) (Jh (Jl (by rfl) L.task (Jn (up G₃.R.t.hx) (up G₃.R.t.hdx) (by rfl) (by kernel_rfl) (by rfl) (Qj (.inl (up G₃.R.t.hfl)) ⟨_,rfl,?_⟩)))))
        cases hz' : (!q.ds.any (· == p)) with
        | true => exact ⟨rfl,Ja (by rfl) (by rfl) ⟨rfl,gq_t hz'⟩⟩
        | false => exact ⟨rfl,gq_f hz'⟩
    rw [Hx,show s.deps.filter (fun p => !q.ds.any (· == p)) = minus s.deps q.ds from rfl]
    refine Zi (ss := minus s.deps q.ds) (.inl (Store.set_same _ _ _)) (Nat.lt_of_le_of_lt (List.length_filter_le _ _) (by omega)) fun a4 A2 ha4 hp1 hs1' => Je (by rfl) ?_
    obtain rfl := Y5 hp1 hs1'
    clear hp1 hs1'
    replace L := L.set (x := "removed_files") (v := .ref a4) (by decide) (by decide) (by decide) (by decide)
    have G₄ := (G₃.alloc o (oo := .list (strsA (minus s.deps q.ds))) ha3).alloc o (oo := .list (strsA (srt (minus s.deps q.ds)))) ha4
    have lk₄ : LK σ₃ ((σ₃.set a3 (.list (strsA (minus s.deps q.ds)))).set a4 (.list (strsA (srt (minus s.deps q.ds))))) := fun l vs e => Store.set_old (Store.set_old e ha3) ha4
    have hrs₄ : ((σ₃.set a3 (.list (strsA (minus s.deps q.ds)))).set a4 (.list (strsA (srt (minus s.deps q.ds))))) q.rs = some (.dict es) := Store.set_old (Store.set_old hrs₃ ha3) ha4
    have h4₄ : ((σ₃.set a3 (.list (strsA (minus s.deps q.ds)))).set a4 (.list (strsA (srt (minus s.deps q.ds))))) a4 = some (.list (strsA (srt (minus s.deps q.ds)))) := Store.set_same _ _ _
    generalize (σ₃.set a3 (.list (strsA (minus s.deps q.ds)))).set a4 (.list (strsA (srt (minus s.deps q.ds)))) = σ₄ at G₄ lk₄ hrs₄ h4₄
    have h2₄ := lk₄ _ _ h2₃
    refine Jb (J0 (Jk (Ja (by rfl) L.res (Js (fm := J2) G₄.hr G₄.hdr (by rfl) (by kernel_rfl) (Jg (Ja (by rfl) (by rfl) (Ca.cw (call_set G₄ o hrs₄ hk3 (by omega) fun σ₅ G₅ hr₅ lk₅ fr₅ lv₅ => ?_))))))))
    rw [if_pos hb] at hr₅
    refine Jb (J0 (Jk (Ja (by rfl) L.res (Js (fm := J2) G₅.hr G₅.hdr (by rfl) (by kernel_rfl) (Jg (Ja (by rfl) (by rfl) (Ca.cw (call_set G₅ o hr₅ (by rw [Es.get_append_ne (by decide)]; exact hk4) (by simp; omega) fun σ₆ G₆ hr₆ lk₆ fr₆ lv₆ => ?_))))))))
    rw [if_pos hb] at hr₆
    refine Jc (fin L G₆ hr₆ (fun _ => ?_) (fun h => by rw [hb] at h; cases h) (by rw [Es.get_append_ne (by decide),Es.get_append_ne (by decide)]; exact hk1) (by rw [Es.get_append_ne (by decide),Es.get_append_ne (by decide)]; exact hk2) (by simp; omega))
    rw [show othD q.ds (some s) = [(("added_file_dep" : Str),PyData.list ((srt (minus q.ds s.deps)).map .str))] ++ [(("removed_file_dep" : Str),PyData.list ((srt (minus s.deps q.ds)).map .str))] by unfold othD; simp only [he,hsm]; rfl,← List.append_assoc]
    refine (((hes hb).mono (((lk₃.trans lk₄).trans lk₅).trans lk₆)).append (.cons (.list (.inl ?_) (Qp _)) .nil)).append (.cons (.list (.inl ?_) (Qp _)) .nil)
    · exact lk₆ _ _ (lk₅ _ _ h2₄)
    · exact lk₆ _ _ (lk₅ _ _ h4₄)
end

noncomputable def X₀ (q : Qs) (y : Addr) : Prop := y = q.n.tdx ∨ y = q.n.a
noncomputable def rmD (D : Db) (t : Str) : Db := fun u => if u = t then none else D u
section
variable {w : World} {mg mb : Str → Option Value} {h₀ : Heap} {stk : List Env} {d : Nat} {hf : Bool}
variable {q : Qs} {D : Db} {σ' σ'' : Store} {c : Addr} {st s' key : Str} {er v : AV} {ch : List Str} {es : Es} {vs as : List AV} {Φ : AV → Store → Prop}
theorem Gs.rm {D' : Db} (G : Gs q (X₀ q) D σ' c st er ch) (o : Q0 q) (h : DbAt σ'' q.n.a D' q.N q.F) (E : Ext (· = q.n.a) σ' σ'') : Gs q (X₀ q) D' σ'' c st er ch := by
  obtain ⟨fa,des,hda,_⟩ := G.hD
  have nb : ∀ b ∈ bs q.n q.k,¬ (b = q.n.a) := fun b hb e => o.out b hb (by rw [e]; exact fa)
  refine ⟨E.get G.hr ?_,E.get G.hdr ?_,G.R.keep fun b hb => E.keep b (G.E.live b (o.old b hb)) (nb b hb),E.get G.hc ?_,G.E.trans E fun b e => .inl (.inr e),h⟩
  · intro e; have := G.hr; rw [e,hda] at this; cases this
  · intro e; have := o.hF _ fa; rw [← e] at this; exact this o.fd
  · intro e; have := G.hc; rw [e,hda] at this; cases this
/-- what is held of the task -/
structure Held (D : Db) (nm : Str) (ds : List Str) (sv0 : Option Sav) : Prop where
  chk : D.get nm "checker:" = sv0.map fun s => .str (cnm s.m)
  deps : D.get nm "deps:" = sv0.map fun s => .tup (strsA s.deps)
  st : ∀ p ∈ ds,D.get nm p = sv0.bind fun s => (s.st p).map (sv s.m)
  ok : ∀ s,sv0 = some s → s.deps.Nodup ∧ s.deps.length ≤ 60
theorem Zk (D : Db) (t k : Str) : (rmD D t).get t k = none := by
  unfold Db.get rmD; rw [if_pos rfl]; rfl
theorem gs_chk {W : Str → Option We} {D₀ : List (Str × PyData)} {ℓ : Locs} {cc : Cx} {sv0 : Option Sav} (G : Gs q (X₀ q) D σ' c st er ch) (o : Q0 q) (L : GsL ℓ q) (hrs : σ' q.rs = some (.dict es)) (hes : q.b = true → DtKv cc σ' es D₀) (hes0 : q.b = false → es = [])
    (hk5 : es.get "checker_changed" = none) (hk3 : es.get "added_file_dep" = none) (hk4 : es.get "removed_file_dep" = none) (hk1 : es.get "missing_file_dep" = none) (hk2 : es.get "changed_file_dep" = none) (hz : es.length ≤ 500) (her : er = .none)
    (hzd : q.ds.length ≤ 60) (ndd : q.ds.Nodup) (hl : ∀ p ∈ q.ds,p.length ≤ 100) (hW : ∀ p ∈ q.ds,q.wes.get p = (W p).map We.av) (H : Held D q.k.nm q.ds sv0)
    (φ1 : chkOf q.m sv0 ≠ [] → q.b = false → GsPost cc q (X₀ q) (rmD D q.k.nm) D₀ ("run",q.ds) false Φ)
    (φ2 : (chkOf q.m sv0 ≠ [] → q.b = true) → ∀ ch',(chkOf q.m sv0 = [] → ch' = ch) → GsPost cc q (X₀ q) (if chkOf q.m sv0 = [] then D else rmD D q.k.nm) (D₀ ++ chkD q.m sv0 ++ othD q.ds (effOf q.m sv0) ++ segD "missing_file_dep" (strD (q.ds.filter (missQ W))) ++ segD "changed_file_dep" (strD (chgOf q.m W q.ds sv0)))
      (tailOf q.b (if othOf q.ds (effOf q.m sv0) = [] then (if chkOf q.m sv0 = [] then st else "run") else "run") ch' (q.ds.filter (missQ W)) (chgOf q.m W q.ds sv0)) (!(q.ds.filter (missQ W)).isEmpty) Φ) :
    Ss (cx w mg mb h₀ stk) (gsF d) ℓ σ' (gsBody 7) (fun r _ σ' => Φ (retv r) σ') := by
  refine Jb (Jd (Jk (Ja (by rfl) L.self (Js (fm := Q2) G.R.d.x G.R.d.dx (by rfl) (by kernel_rfl) ?_))))
  refine Jh (Jl (by rfl) L.task (Jn G.R.t.hx G.R.t.hdx (by rfl) (by kernel_rfl) (by rfl) (Jg (Ca.cw (Y4 G.R.d G.hD ?_)))))
  rw [H.chk]
  refine Je (by rfl) ?_
  replace L := L.set (x := "previous") (v := ((sv0.map fun s => AV.str (cnm s.m)).getD .none)) (by decide) (by decide) (by decide) (by decide)
  refine Jb (Jd (Jh (Jh (Ja (by rfl) L.self (Jn G.R.d.x G.R.d.dx (by rfl) (by kernel_rfl) (by rfl) (op_cls (s := cnm q.m) G.R.c.x G.R.c.dx (by rfl) (by generalize q.m = m; cases m <;> kernel_rfl) (Je (by rfl) ?_)))))))
  replace L := L.set (x := "checker_name") (v := .str (cnm q.m)) (by decide) (by decide) (by decide) (by decide)
  have same : chkOf q.m sv0 = [] → chkD q.m sv0 = [] → effOf q.m sv0 = sv0 → ∀ {ℓ : Locs},GsL ℓ q → Ss (cx w mg mb h₀ stk) (gsF d) ℓ σ' (gsBody 10) (fun r _ σ' => Φ (retv r) σ') := by
    intro e1 e2 e3 ℓ L
    have := φ2 (fun h => absurd e1 h) ch fun _ => rfl
    rw [if_pos e1,e2,List.append_nil,if_pos e1] at this
    refine gs_deps (S := stOf (effOf q.m sv0)) G o L (.inl rfl) hrs hes hes0 hk3 hk4 hk1 hk2 (by omega) her hzd ndd hl hW (fun p hp => ?_) ?_ ?_ this
    · rw [H.st p hp,e3]
      unfold stOf
      cases sv0 with
      | none => rfl
      | some s =>
        have : s.m = q.m := by
          unfold chkOf at e1
          by_cases h : s.m = q.m
          · exact h
          · simp only [h,if_false] at e1; cases e1
        simp only [Option.bind_some,this]
    · rw [e3]; exact H.deps
    · rw [e3]; exact H.ok
  cases sv0 with
  | none =>
    refine Jb (Jj (Qy ?_))
    refine Jy (Ja (by rfl) (by rfl) (Ub ?_))
    exact Jc (same rfl rfl rfl L)
  | some s =>
    refine Jb (Jj (Qy ?_))
    refine Jy (Ja (by rfl) (by rfl) (tr_str (x := cnm s.m) (by generalize s.m = m; cases m <;> decide) ?_))
    rw [show (((cnm s.m).length : Int) != 0) = true by generalize s.m = m; cases m <;> rfl]
    refine Jf (Ja (by rfl) (by rfl) (Ja (by rfl) (by rfl) (Ye (i := cnm s.m) ⟨_,rfl,?_⟩)))
    by_cases hm : s.m = q.m
    · rw [show (cnm s.m != cnm q.m) = false by rw [hm]; simp]
      exact Jc (same (by unfold chkOf; simp only [hm,if_true]) (by unfold chkD; simp only [hm,if_true]) (by unfold effOf; simp only [Option.bind_some,hm,if_true]) L)
    · have hcn : cnm s.m ≠ cnm q.m := by
        revert hm; generalize s.m = a; generalize q.m = b
        cases a <;> cases b <;> simp <;> decide
      rw [show (cnm s.m != cnm q.m) = true by simp [hcn]]
      have e1 : chkOf q.m (some s) ≠ [] := by unfold chkOf; simp only [hm,if_false]; simp
      have e2 : chkD q.m (some s) = [(("checker_changed" : Str),PyData.tuple [.str (cnm s.m),.str (cnm q.m)])] := by unfold chkD; simp only [hm,if_false]
      have e3 : effOf q.m (some s) = none := by unfold effOf; simp only [Option.bind_some,hm,if_false]
      refine Jb (Jd (Ju (Jt (by rfl) (by kernel_rfl) Zj ⟨_,rfl,Q8,Jh (Jl (by rfl) L.task (Jn G.R.t.hx G.R.t.hdx (by rfl) (by kernel_rfl) (by rfl) (cw_list (.inl G.R.t.hfl) (by simp; omega) fun c' hc' => Jw (Jl (by rfl) L.task (J7 (Store.set_old G.R.t.hx hc') (Store.set_old G.R.t.hdx hc') (by kernel_rfl) (Nat.le_of_ble_eq_true rfl) G.R.t.nx fun σ₁ hx hd E => ?_)))))⟩)))
      have nc' : c' ≠ q.n.tdx := J9 G.R.t.hdx hc'
      have E' : Ext (· = q.n.tdx) σ' σ₁ := (Ext.refl.alloc hc' (o := .list (strsA q.ds))).trans E fun _ h => .inl h
      have G₁ := G.dc (c' := c') (ch' := q.ds) o (.inl rfl) E' hd (E.get (Store.set_same _ _ _) nc')
      have tdr : q.rs ≠ q.n.tdx := fun h => o.old q.n.tdx (by simp [bs]) (by rw [← h]; exact o.frs)
      have hrs₁ := E'.get hrs tdr
      have lk₁ : LK σ' σ₁ := E'.lk fun l vs f e => by rw [show l = q.n.tdx from f,G.R.t.hdx] at e; cases e
      refine Jb (J0 (Jk (Ja (by rfl) L.self (Js (fm := X4) G₁.R.d.x G₁.R.d.dx (by rfl) (by kernel_rfl) ?_))))
      refine Jh (Jl (by rfl) L.task (Jn G₁.R.t.hx G₁.R.t.hdx (by rfl) (by kernel_rfl) (by rfl) (Ca.cw (Dependency_remove G₁.R.d G₁.hD o.hN fun σ₂ hD₂ E₂ => ?_))))
      have G₂ : Gs q (X₀ q) (rmD D q.k.nm) σ₂ c' st er q.ds := G₁.rm o hD₂ E₂
      obtain ⟨fa,des,hda,_⟩ := G₁.hD
      have hrs₂ := E₂.get hrs₁ (fun h => o.hF _ fa (by rw [← h]; exact o.frs))
      have lk₂ : LK σ₁ σ₂ := E₂.lk fun l vs f e => by rw [show l = q.n.a from f,hda] at e; cases e
      refine Jb (Jj (Jy (Jk (Ja (by rfl) L.res (Js (fm := J2) G₂.hr G₂.hdr (by rfl) (by kernel_rfl) (Jg (Jq (Ja (by rfl) (by rfl) (Ja (by rfl) (by rfl) ⟨by simp,Ca.cw (call_set G₂ o hrs₂ hk5 (by omega) fun σ₃ G₃ hr₃ lk₃ fr lv => J4 ?_)⟩)))))))))
      rcases Bool.eq_false_or_eq_true q.b with hb | hb
      rotate_left
      · refine (if_pos (c := (!q.b) = true) (by simp [hb])).mpr ?_
        rw [if_neg (by simp [hb])] at hr₃
        exact Jb (Jm (Ja (by rfl) L.res (φ1 e1 hb σ₃ c' er es G₃ (by rw [her]; rfl) (by rw [her]; rfl) hr₃ (fun h => by rw [hb] at h; cases h) hes0)))
      · refine (if_neg (c := (!q.b) = true) (by simp [hb])).mpr ?_
        rw [if_pos hb] at hr₃
        have := φ2 (fun _ => hb) q.ds (fun h => absurd h e1)
        rw [if_neg e1,e2,if_neg e1] at this
        refine Jc (Jc (gs_deps (s := effOf q.m (some s)) (S := stOf (effOf q.m (some s))) G₃ o L (.inl rfl) hr₃ (fun _ => ?_) (fun h => by rw [hb] at h; cases h) (by rw [Es.get_append_ne (by decide)]; exact hk3) (by rw [Es.get_append_ne (by decide)]; exact hk4) (by rw [Es.get_append_ne (by decide)]; exact hk1) (by rw [Es.get_append_ne (by decide)]; exact hk2) (by simp; omega) her hzd ndd hl hW (fun p hp => ?_) ?_ ?_ this))
        · exact ((hes hb).mono ((lk₁.trans lk₂).trans lk₃)).append (.cons (.tup (.cons (.str _) (.cons (.str _) .nil))) .nil)
        · rw [Zk,e3]; rfl
        · rw [Zk,e3]; rfl
        · rw [e3]; intro s' h; cases h
end

noncomputable def stHead (m : Bool) (us : List (Option Bool)) (ds ts : List Str) (W : Str → Option We) (sv0 : Option Sav) : Str :=
  if nFalse us = 0 ∧ noDep us ds = false ∧ ts.filter (missQ W) = [] ∧ chkOf m sv0 = [] ∧ othOf ds (effOf m sv0) = [] then "up-to-date" else "run"
noncomputable def outOf (b m : Bool) (us : List (Option Bool)) (ds ts : List Str) (W : Str → Option We) (sv0 : Option Sav) : (Str × List Str) × Bool × Bool :=
  if b = false ∧ nFalse us ≠ 0 then (("run",[]),false,false)
  else if b = false ∧ noDep us ds = true then (("run",[]),false,false)
  else if b = false ∧ ts.filter (missQ W) ≠ [] then (("run",ds),false,false)
  else if b = false ∧ chkOf m sv0 ≠ [] then (("run",ds),true,false)
  else (tailOf b (stHead m us ds ts W sv0) [] (ds.filter (missQ W)) (chgOf m W ds sv0),!(chkOf m sv0).isEmpty,!(ds.filter (missQ W)).isEmpty)
theorem tailOf_log {st : Str} {ch ch' mf cf : List Str} : tailOf true st ch mf cf = tailOf true st ch' mf cf := by
  unfold tailOf; simp
section
variable {w : World} {mg mb : Str → Option Value} {h₀ : Heap} {stk : List Env} {d : Nat} {hf : Bool}
variable {q : Qs} {D : Db} {σ' σ'' : Store} {c : Addr} {st s' key : Str} {er v : AV} {ch : List Str} {es : Es} {vs as : List AV} {Φ : AV → Store → Prop}
theorem GsPost.irrel {cc : Cx} {X : Addr → Prop} {D₁ D₂ : List (Str × PyData)} {z : Str × List Str} {e : Bool} (hb : q.b = false) (φ : GsPost cc q X D D₁ z e Φ) : GsPost cc q X D D₂ z e Φ :=
  fun σ' c er es G h1 h2 h3 _ h5 => φ σ' c er es G h1 h2 h3 (fun h => by rw [hb] at h; cases h) h5
theorem gs_targ {W : Str → Option We} {D₀ : List (Str × PyData)} {ℓ : Locs} {cc : Cx} {sv0 : Option Sav} (G : Gs q (X₀ q) D σ' c st .none []) (o : Q0 q) (L : GsL ℓ q) (hrs : σ' q.rs = some (.dict es)) (hes : q.b = true → DtKv cc σ' es D₀) (hes0 : q.b = false → es = [])
    (hk6 : es.get "missing_target" = none) (hk5 : es.get "checker_changed" = none) (hk3 : es.get "added_file_dep" = none) (hk4 : es.get "removed_file_dep" = none) (hk1 : es.get "missing_file_dep" = none) (hk2 : es.get "changed_file_dep" = none) (hz : es.length ≤ 400)
    (hzd : q.ds.length ≤ 60) (hzt : q.ts.length ≤ 60) (ndd : q.ds.Nodup) (hl : ∀ p ∈ q.ds,p.length ≤ 100) (hW : ∀ p,p ∈ q.ds ∨ p ∈ q.ts → q.wes.get p = (W p).map We.av) (H : Held D q.k.nm q.ds sv0)
    (hD₀ : q.b = true → D₀ = segD "uptodate_false" (List.replicate (nFalse q.us) upD) ++ noD q.us q.ds) (hst : st = if nFalse q.us = 0 ∧ noDep q.us q.ds = false then ("up-to-date" : Str) else ("run" : Str)) (hb0 : q.b = false → nFalse q.us = 0 ∧ noDep q.us q.ds = false)
    (φ : GsPost cc q (X₀ q) (if (outOf q.b q.m q.us q.ds q.ts W sv0).2.1 = true then rmD D q.k.nm else D) (logOf q.m q.us q.ds q.ts W sv0) (outOf q.b q.m q.us q.ds q.ts W sv0).1 (outOf q.b q.m q.us q.ds q.ts W sv0).2.2 Φ) :
    Ss (cx w mg mb h₀ stk) (gsF d) ℓ σ' (gsBody 6) (fun r _ σ' => Φ (retv r) σ') := by
  have Gp := G
  have Lg0 : Lg σ' σ' q.b q.rs "missing_target" es [] := Lg.start hrs
  refine Jb (Qu rfl (J1 (Jh (Jl (by rfl) L.task (Jn G.R.t.hx G.R.t.hdx (by rfl) (by kernel_rfl) (by rfl) ⟨q.k.tl,_,rfl,.inl G.R.t.htl,Jx _ _ _,
    fun i ℓ σ₁ => GsL ℓ q ∧ ∃ c₁,Gs q (X₀ q) D σ₁ c₁ (if (q.ts.take i).filter (missQ W) = [] then st else "run") .none (if (q.ts.take i).filter (missQ W) = [] then [] else q.ds) ∧ Lg σ' σ₁ q.b q.rs "missing_target" es (strsA ((q.ts.take i).filter (missQ W))) ∧
      NotLog σ₁ q.rs "missing_target" es c₁ ∧ (q.b = false → (q.ts.take i).filter (missQ W) = []),
    ⟨L,c,by rw [List.take_zero]; exact G,by rw [List.take_zero]; exact Lg0,Lg0.notOld (by rw [G.hc]; simp),fun _ => by rw [List.take_zero]; rfl⟩,
    fun _ _ _ h => by obtain ⟨_,_,G₁,_⟩ := h; exact .inl G₁.R.t.htl,?_,?_⟩)))))
  · rintro i v ℓ σ₁ hv ⟨L,c₁,G,Lg₁,nlc,hbb⟩
    obtain ⟨t,rfl,ht⟩ := Yo hv
    have hm : t ∈ q.ts := List.mem_of_getElem? ht
    have tk := Ze (f := missQ W) ht
    refine Je (by rfl) ?_
    replace L := L.set (x := "targ") (v := .str t) (by decide) (by decide) (by decide) (by decide)
    refine Jb (Jj (Hy (Jy (Jk (Jh (Ja (by rfl) L.self (Jn G.R.d.x G.R.d.dx (by rfl) (by kernel_rfl) (by rfl) (Js (fm := Yl) G.R.c.x G.R.c.dx (by rfl) (by generalize q.m = m; cases m <;> kernel_rfl) ?_))))))))
    refine Ja (by rfl) (by rfl) (Ca.cw (Checker_exists (Cm_is q.m) G.R.c (J4 ?_)))
    cases hWt : W t with
    | some e =>
      rw [show q.wes.has t = true by rw [Es.has_get,hW t (.inr hm),hWt]; rfl]
      have tm : (q.ts.take (i + 1)).filter (missQ W) = (q.ts.take i).filter (missQ W) := by rw [tk,if_neg (by unfold missQ; rw [hWt]; simp),List.append_nil]
      refine Jc (Jc ⟨L,c₁,?_⟩)
      rw [tm]; exact ⟨G,Lg₁,nlc,hbb⟩
    | none =>
      rw [show q.wes.has t = false by rw [Es.has_get,hW t (.inr hm),hWt]; rfl]
      have tm : (q.ts.take (i + 1)).filter (missQ W) = (q.ts.take i).filter (missQ W) ++ [t] := by rw [tk,if_pos (by unfold missQ; rw [hWt]; rfl)]
      refine Jb (Jd (Ju (Jt (by rfl) (by kernel_rfl) Zj ⟨_,rfl,Q8,Jh (Jl (by rfl) L.task (Jn G.R.t.hx G.R.t.hdx (by rfl) (by kernel_rfl) (by rfl) (cw_list (.inl G.R.t.hfl) (by simp; omega) fun c' hc' => Jw (Jl (by rfl) L.task (J7 (Store.set_old G.R.t.hx hc') (Store.set_old G.R.t.hdx hc') (by kernel_rfl) (Nat.le_of_ble_eq_true rfl) G.R.t.nx fun σ₂ hx hd E => ?_)))))⟩)))
      have nc' : c' ≠ q.n.tdx := J9 G.R.t.hdx hc'
      have E' : Ext (· = q.n.tdx) σ₁ σ₂ := (Ext.refl.alloc hc' (o := .list (strsA q.ds))).trans E fun _ h => .inl h
      have G₂ := G.dc (c' := c') (ch' := q.ds) o (.inl rfl) E' hd (E.get (Store.set_same _ _ _) nc')
      have rst : q.rs ≠ q.n.tdx := fun h => o.old q.n.tdx (by simp [bs]) (by rw [← h]; exact o.frs)
      have Lg₂ : Lg σ' σ₂ q.b q.rs "missing_target" es (strsA ((q.ts.take i).filter (missQ W))) := Lg₁.frame E' fun y e => by
        rw [show y = q.n.tdx from e]
        exact ⟨rst.symm,fun vs h => (by rw [Gp.R.t.hdx] at h; cases h),Lg₁.notOf fun vs h => (by rw [G.R.t.hdx] at h; cases h)⟩
      have nl' : NotLog σ₂ q.rs "missing_target" es c' := (Lg₁.notNew hc').same (E'.keep _ (Lg₁.live _ (by rw [hrs]; simp)) rst)
      have hlen : (strsA ((q.ts.take i).filter (missQ W))).length ≤ 900 := by
        rw [List.length_map]
        refine Nat.le_trans (List.length_filter_le _ _) (Nat.le_trans (List.length_take_le _ _) ?_)
        have : i < q.ts.length := by
          rcases Nat.lt_or_ge i q.ts.length with h | h
          · exact h
          · rw [List.getElem?_eq_none h] at ht; cases ht
        omega
      refine Jb (Jj (Jy (Jk (Ja (by rfl) L.res (Js (fm := Jr) G₂.hr G₂.hdr (by rfl) (by kernel_rfl) (Jg (Ja (by rfl) (by rfl) (Ca.cw (call_add (s' := "run") G₂ o Lg₂ (fun y hy => Gp.E.live y hy) hk6 (by omega) hlen (.inl ⟨rfl,rfl⟩) nl' fun σ₃ G₃ Lg₃ fr => J4 ?_)))))))))
      rcases Bool.eq_false_or_eq_true q.b with hb | hb
      rotate_left
      · refine (if_pos (c := (!q.b) = true) (by simp [hb])).mpr ?_
        have e : outOf q.b q.m q.us q.ds q.ts W sv0 = ((("run" : Str),q.ds),false,false) := by
          unfold outOf
          obtain ⟨z1,z2⟩ := hb0 hb
          rw [if_neg (fun h => h.2 z1),if_neg (fun h => by rw [z2] at h; exact absurd h.2 (by simp)),if_pos ⟨hb,fun h => List.filter_eq_nil_iff.mp h t hm (by unfold missQ; rw [hWt]; rfl)⟩]
        rw [e] at φ
        obtain ⟨es',h1,_,_,h4,_⟩ := Lg₃.fin (c := cc)
        exact Jb (Jm (Ja (by rfl) L.res (φ σ₃ c' .none es' G₃ rfl rfl h1 (fun h => by rw [hb] at h; cases h) fun _ => (h4 hb).trans (hes0 hb))))
      · refine (if_neg (c := (!q.b) = true) (by simp [hb])).mpr ?_
        refine Jc (Jc (Jc ⟨L,c',?_⟩))
        rw [tm,if_neg (by simp),if_neg (by simp)]
        refine ⟨G₃,?_,(fr _ _ G₂.hc (by intro e; have := G₂.hc; rw [e,G₂.hdr] at this; cases this) (fun h => by have := E'.live _ (Lg₁.live _ (show σ' q.rs ≠ none by rw [hrs]; simp)); exact absurd (h ▸ hc') (Lg₁.live _ (show σ' q.rs ≠ none by rw [hrs]; simp))) nl').2,fun h => by rw [hb] at h; cases h⟩
        have := Lg₃
        rw [show strsA ((q.ts.take i).filter (missQ W)) ++ [AV.str t] = strsA ((q.ts.take i).filter (missQ W) ++ [t]) by simp [strsA]] at this
        exact this
  · rintro ℓ σ₁ ⟨L,c₁,G,Lg₁,nlc,hbb⟩
    rw [show (strsA q.ts).length = q.ts.length by simp,List.take_length] at G Lg₁ hbb
    obtain ⟨es',h1,h2,h3,h4,h5⟩ := Lg₁.fin (c := cc)
    refine gs_chk (D₀ := D₀ ++ segD "missing_target" (strD (q.ts.filter (missQ W)))) G o L h1 (fun hb => h5 hb _ _ (hes hb) (Qp _)) (fun hb => (h4 hb).trans (hes0 hb)) (by rw [h2 _ (by decide)]; exact hk5) (by rw [h2 _ (by decide)]; exact hk3) (by rw [h2 _ (by decide)]; exact hk4) (by rw [h2 _ (by decide)]; exact hk1) (by rw [h2 _ (by decide)]; exact hk2) (by omega) rfl
      hzd ndd hl (fun p hp => hW p (.inl hp)) H (fun hc hb => ?_) fun hcb ch' hch => ?_
    · have e : outOf q.b q.m q.us q.ds q.ts W sv0 = ((("run" : Str),q.ds),true,false) := by
        unfold outOf
        obtain ⟨z1,z2⟩ := hb0 hb
        rw [if_neg (fun h => h.2 z1),if_neg (fun h => by rw [z2] at h; exact absurd h.2 (by simp)),if_neg (fun h => h.2 (hbb hb)),if_pos ⟨hb,hc⟩]
      rw [e] at φ
      exact GsPost.irrel hb φ
    · have dE : (if chkOf q.m sv0 = [] then D else rmD D q.k.nm) = (if (!(chkOf q.m sv0).isEmpty) = true then rmD D q.k.nm else D) := by
        cases chkOf q.m sv0 with
        | nil => rfl
        | cons a b => rfl
      have stE : (if othOf q.ds (effOf q.m sv0) = [] then (if chkOf q.m sv0 = [] then (if q.ts.filter (missQ W) = [] then st else "run") else "run") else "run") = stHead q.m q.us q.ds q.ts W sv0 := by
        unfold stHead
        rw [hst]
        by_cases a : othOf q.ds (effOf q.m sv0) = [] <;> by_cases b : chkOf q.m sv0 = [] <;> by_cases c : q.ts.filter (missQ W) = [] <;> by_cases d : nFalse q.us = 0 <;> by_cases e : noDep q.us q.ds = false <;> simp only [a,b,c,d,e,if_true,if_false,and_true,true_and,and_false,false_and]
      rw [dE,stE]
      rcases Bool.eq_false_or_eq_true q.b with hb | hb
      · have e : outOf q.b q.m q.us q.ds q.ts W sv0 = (tailOf q.b (stHead q.m q.us q.ds q.ts W sv0) ch' (q.ds.filter (missQ W)) (chgOf q.m W q.ds sv0),!(chkOf q.m sv0).isEmpty,!(q.ds.filter (missQ W)).isEmpty) := by
          unfold outOf
          rw [if_neg (fun h => by rw [hb] at h; exact absurd h.1 (by simp)),if_neg (fun h => by rw [hb] at h; exact absurd h.1 (by simp)),if_neg (fun h => by rw [hb] at h; exact absurd h.1 (by simp)),if_neg (fun h => by rw [hb] at h; exact absurd h.1 (by simp)),hb,tailOf_log]
        rw [e] at φ
        rw [hD₀ hb]
        exact φ
      · have hc : chkOf q.m sv0 = [] := Classical.byContradiction fun h => by have := hcb h; rw [hb] at this; cases this
        rw [hch hc,if_pos (hbb hb)]
        have e : outOf q.b q.m q.us q.ds q.ts W sv0 = (tailOf q.b (stHead q.m q.us q.ds q.ts W sv0) [] (q.ds.filter (missQ W)) (chgOf q.m W q.ds sv0),!(chkOf q.m sv0).isEmpty,!(q.ds.filter (missQ W)).isEmpty) := by
          unfold outOf
          obtain ⟨z1,z2⟩ := hb0 hb
          rw [if_neg (fun h => h.2 z1),if_neg (fun h => by rw [z2] at h; exact absurd h.2 (by simp)),if_neg (fun h => h.2 (hbb hb)),if_neg (fun h => h.2 hc)]
        rw [e] at φ
        exact GsPost.irrel hb φ
end

theorem nFalse_step {us : List (Option Bool)} {i : Nat} {u : Option Bool} (h : us[i]? = some u) : nFalse (us.take (i + 1)) = nFalse (us.take i) + (if u = some false then 1 else 0) := by
  unfold nFalse
  rw [List.take_add_one,h,List.filter_append,List.length_append]
  congr 1
  cases u with
  | none => rfl
  | some b => cases b <;> rfl
noncomputable def ubs (us : List (Option Bool)) : List AV := us.filterMap fun u => u.map AV.bool
theorem ubs_step {us : List (Option Bool)} {i : Nat} {u : Option Bool} (h : us[i]? = some u) : ubs (us.take (i + 1)) = ubs (us.take i) ++ (u.map AV.bool).toList := by
  unfold ubs
  rw [List.take_add_one,h,List.filterMap_append]
  cases u <;> rfl
theorem ubs_empty (us : List (Option Bool)) : (ubs us).isEmpty = us.all (·.isNone) := by
  unfold ubs
  induction us with
  | nil => rfl
  | cons u r ih =>
    cases u with
    | none => rw [List.filterMap_cons_none rfl,ih]; rfl
    | some b => simp
theorem ubs_len (us : List (Option Bool)) : (ubs us).length ≤ us.length := List.length_filterMap_le _ _
theorem dt_reps {c : Cx} {σ : Store} : ∀ n : Nat,DtAll c σ (List.replicate n (utT (some false))) (List.replicate n upD)
  | 0 => .nil
  | n + 1 => by rw [List.replicate_succ,List.replicate_succ]; exact .cons (.tup (.cons (.bool false) (.cons .none (.cons .none .nil)))) (dt_reps n)
theorem isEmpty_strs (l : List Str) : (strsA l).isEmpty = l.isEmpty := by cases l <;> rfl
section
variable {w : World} {mg mb : Str → Option Value} {h₀ : Heap} {stk : List Env} {σ : Store} {d : Nat} {hf : Bool}
variable {q : Qs} {D : Db} {σ' σ'' : Store} {c : Addr} {st s' key : Str} {er v : AV} {ch : List Str} {es : Es} {vs as : List AV} {Φ : AV → Store → Prop}
theorem gs_nodep {W : Str → Option We} {ℓ : Locs} {cc : Cx} {sv0 : Option Sav} {u : Addr} (G : Gs q (X₀ q) D σ' c (if nFalse q.us = 0 then ("up-to-date" : Str) else ("run" : Str)) .none []) (o : Q0 q) (L : GsL ℓ q) (hu : ℓ "uptodate_result_list" = some (.ref u)) (hul : σ' u = some (.list (ubs q.us)))
    (hrs : σ' q.rs = some (.dict es)) (hes : q.b = true → DtKv cc σ' es (segD "uptodate_false" (List.replicate (nFalse q.us) upD))) (hes0 : q.b = false → es = [])
    (hk : ∀ k : Str,k ≠ "uptodate_false" → es.get k = none) (hz : es.length ≤ 300)
    (hzd : q.ds.length ≤ 60) (hzt : q.ts.length ≤ 60) (hzu : q.us.length ≤ 60) (ndd : q.ds.Nodup) (hl : ∀ p ∈ q.ds,p.length ≤ 100) (hW : ∀ p,p ∈ q.ds ∨ p ∈ q.ts → q.wes.get p = (W p).map We.av) (H : Held D q.k.nm q.ds sv0)
    (φ : GsPost cc q (X₀ q) (if (outOf q.b q.m q.us q.ds q.ts W sv0).2.1 = true then rmD D q.k.nm else D) (logOf q.m q.us q.ds q.ts W sv0) (outOf q.b q.m q.us q.ds q.ts W sv0).1 (outOf q.b q.m q.us q.ds q.ts W sv0).2.2 Φ) :
    Ss (cx w mg mb h₀ stk) (gsF d) ℓ σ' (gsBody 4) (fun r _ σ' => Φ (retv r) σ') := by
  have cont : (q.b = false → nFalse q.us = 0) → ∀ {ℓ : Locs},GsL ℓ q → ℓ "uptodate_result_list" = some (.ref u) → Ss (cx w mg mb h₀ stk) (gsF d) ℓ σ' (gsBody 5) (fun r _ σ' => Φ (retv r) σ') := by
    intro hb1 ℓ L hu
    have nd : noDep q.us q.ds = (q.ds.isEmpty && (ubs q.us).isEmpty) := by unfold noDep; rw [ubs_empty]
    have go : noDep q.us q.ds = false → Ss (cx w mg mb h₀ stk) (gsF d) ℓ σ' (gsBody 6) (fun r _ σ' => Φ (retv r) σ') := fun hn =>
      gs_targ G o L hrs hes hes0 (hk _ (by decide)) (hk _ (by decide)) (hk _ (by decide)) (hk _ (by decide)) (hk _ (by decide)) (hk _ (by decide)) (by omega) hzd hzt ndd hl hW H (fun _ => by unfold noD; rw [hn]; simp)
        (by simp [hn]) (fun hb => ⟨hb1 hb,hn⟩) φ
    refine Jb (Jj (Hy (Ug ?_)))
    refine Jy (Jh (Jl (by rfl) L.task (Jn G.R.t.hx G.R.t.hdx (by rfl) (by kernel_rfl) (by rfl) (tr_list (.inl G.R.t.hfl) (by simp; omega) ?_))))
    rw [isEmpty_strs]
    cases hd : q.ds.isEmpty with
    | false => exact Jc (go (by rw [nd,hd]; rfl))
    | true =>
      have := ubs_len q.us
      refine Jy (Ja (by rfl) hu (tr_list (.inl hul) (by omega) ?_))
      cases hu2 : (ubs q.us).isEmpty with
      | false => exact Jc (go (by rw [nd,hd,hu2]; rfl))
      | true =>
        have hn : noDep q.us q.ds = true := by rw [nd,hd,hu2]; rfl
        refine Jb (Jj (Jy (Jk (Ja (by rfl) L.res (Js (fm := J2) G.hr G.hdr (by rfl) (by kernel_rfl) (Jg (Qw (Ca.cw (call_set G o hrs (hk _ (by decide)) (by omega) fun σ₃ G₃ hr₃ lk₃ fr lv => J4 ?_)))))))))
        rcases Bool.eq_false_or_eq_true q.b with hb | hb
        rotate_left
        · refine (if_pos (c := (!q.b) = true) (by simp [hb])).mpr ?_
          rw [if_neg (by simp [hb])] at hr₃
          have e : outOf q.b q.m q.us q.ds q.ts W sv0 = ((("run" : Str),[]),false,false) := by
            unfold outOf
            rw [if_neg (fun h => h.2 (hb1 hb)),if_pos ⟨hb,hn⟩]
          rw [e] at φ
          exact Jb (Jm (Ja (by rfl) L.res (φ σ₃ c .none es G₃ rfl rfl hr₃ (fun h => by rw [hb] at h; cases h) hes0)))
        · refine (if_neg (c := (!q.b) = true) (by simp [hb])).mpr ?_
          rw [if_pos hb] at hr₃
          have hk' : ∀ k : Str,k ≠ "uptodate_false" → k ≠ "has_no_dependencies" → Es.get (es ++ [(("has_no_dependencies" : Str),AV.bool true)]) k = none := fun k h1 h2 => by rw [Es.get_append_ne h2]; exact hk k h1
          refine Jc (Jc (gs_targ (D₀ := segD "uptodate_false" (List.replicate (nFalse q.us) upD) ++ noD q.us q.ds) G₃ o L hr₃ (fun _ => ?_) (fun h => by rw [hb] at h; cases h) (hk' _ (by decide) (by decide)) (hk' _ (by decide) (by decide)) (hk' _ (by decide) (by decide)) (hk' _ (by decide) (by decide)) (hk' _ (by decide) (by decide)) (hk' _ (by decide) (by decide)) (by simp; omega) hzd hzt ndd hl hW H (fun _ => rfl)
            (by simp [hn]) (fun h => by rw [hb] at h; cases h) φ))
          unfold noD
          rw [if_pos hn]
          exact ((hes hb).mono lk₃).append (.cons (.bool true) .nil)
  refine Jb (Jj (Qy ?_))
  refine Hy (Jy (Ja (by rfl) L.log (J4 ?_)))
  rcases Bool.eq_false_or_eq_true q.b with hb | hb
  · refine (if_neg (c := (!q.b) = true) (by simp [hb])).mpr ?_
    exact Jc (cont (fun h => by rw [hb] at h; cases h) L hu)
  · refine (if_pos (c := (!q.b) = true) (by simp [hb])).mpr ?_
    refine Jf (Jh (Ja (by rfl) L.res (Jn G.hr G.hdr (by rfl) (by kernel_rfl) (by rfl) (Jg (Ql ⟨_,rfl,?_⟩)))))
    by_cases hn : nFalse q.us = 0
    · rw [if_pos hn]
      exact Jc (cont (fun _ => hn) L hu)
    · rw [if_neg hn] at G ⊢
      have e : outOf q.b q.m q.us q.ds q.ts W sv0 = ((("run" : Str),[]),false,false) := by
        unfold outOf
        rw [if_pos ⟨hb,hn⟩]
      rw [e] at φ
      exact Jb (Jm (Ja (by rfl) L.res (φ σ' c .none es G rfl rfl hrs (fun h => by rw [hb] at h; cases h) hes0)))
end

section
variable {w : World} {mg mb : Str → Option Value} {h₀ : Heap} {stk : List Env} {σ : Store} {d : Nat} {hf : Bool}
theorem gs_loop {q : Qs} {D : Db} {σ' : Store} {c : Addr} {W : Str → Option We} {ℓ : Locs} {cc : Cx} {sv0 : Option Sav} {Φ : AV → Store → Prop} (G : Gs q (X₀ q) D σ' c "up-to-date" .none []) (o : Q0 q) (L : GsL ℓ q)
    (hrs : σ' q.rs = some (.dict [])) (hzd : q.ds.length ≤ 60) (hzt : q.ts.length ≤ 60) (hzu : q.us.length ≤ 60) (ndd : q.ds.Nodup) (hl : ∀ p ∈ q.ds,p.length ≤ 100) (hW : ∀ p,p ∈ q.ds ∨ p ∈ q.ts → q.wes.get p = (W p).map We.av) (H : Held D q.k.nm q.ds sv0)
    (φ : GsPost cc q (X₀ q) (if (outOf q.b q.m q.us q.ds q.ts W sv0).2.1 = true then rmD D q.k.nm else D) (logOf q.m q.us q.ds q.ts W sv0) (outOf q.b q.m q.us q.ds q.ts W sv0).1 (outOf q.b q.m q.us q.ds q.ts W sv0).2.2 Φ) :
    Ss (cx w mg mb h₀ stk) (gsF d) ℓ σ' (gsBody 2) (fun r _ σ' => Φ (retv r) σ') := by
  have Gp := G
  refine Jb (Jd (J6 ⟨by simp,fun u hu => Je (by rfl) ?_⟩))
  have nur : u ≠ q.r := J9 G.hr hu
  have nud : u ≠ q.dr := J9 G.hdr hu
  have nus : u ≠ q.rs := J9 hrs hu
  have nuc : u ≠ c := J9 G.hc hu
  have zu : q.σ u = none := G.E.back hu
  have Lg0 : Lg σ' σ' q.b q.rs "uptodate_false" [] [] := Lg.start hrs
  have fu : ∀ y,y = u → y ≠ q.rs ∧ (∀ vs,σ' y ≠ some (.list vs)) := fun y e => by subst e; exact ⟨nus,fun vs h => by rw [hu] at h; cases h⟩
  have G₀ := G.alloc o (oo := .list []) hu
  refine Jb (Qu rfl (J1 (Jh (Jl (by rfl) L.task (Jn G₀.R.t.hx G₀.R.t.hdx (by rfl) (by kernel_rfl) (by rfl) ⟨q.k.ul,_,rfl,.inl G₀.R.t.hul,.inr ⟨⟨_,_,_,rfl⟩,fun v hv => by obtain ⟨u,_,rfl⟩ := List.mem_map.mp hv; exact ⟨_,rfl⟩⟩,
    fun i ℓ σ₁ => GsL ℓ q ∧ ℓ "uptodate_result_list" = some (.ref u) ∧ Gs q (X₀ q) D σ₁ c (if nFalse (q.us.take i) = 0 then ("up-to-date" : Str) else ("run" : Str)) .none [] ∧ Lg σ' σ₁ q.b q.rs "uptodate_false" [] (List.replicate (nFalse (q.us.take i)) (utT (some false))) ∧
      σ₁ u = some (.list (ubs (q.us.take i))) ∧ NotLog σ₁ q.rs "uptodate_false" [] u,
    ⟨L.set (by decide) (by decide) (by decide) (by decide),by rfl,by rw [List.take_zero]; exact G₀,by rw [List.take_zero]; exact Lg0.frame (F := (· = u)) (Ext.refl.own rfl) fun y e => ⟨(fu y e).1,(fu y e).2,by rw [show y = u from e]; exact Lg0.notNew hu⟩,by rw [List.take_zero]; exact Store.set_same _ _ _,
      (Lg0.notNew hu).same (Store.set_ne nus.symm)⟩,
    fun _ _ _ h => .inl h.2.2.1.R.t.hul,?_,?_⟩)))))
  · rintro i v ℓ σ₁ hv ⟨L,lu,G,Lg₁,hu₁,nlu⟩
    obtain ⟨uv,rfl,huv⟩ := map_at hv
    have hi : i < q.us.length := by
      rcases Nat.lt_or_ge i q.us.length with h | h
      · exact h
      · rw [List.getElem?_eq_none h] at huv; cases huv
    have hlen : (ubs (q.us.take i)).length ≤ 900 := Nat.le_trans (ubs_len _) (Nat.le_trans (List.length_take_le _ _) (by omega))
    refine Qk rfl (vs := [utV uv,.none,.none]) (by rfl) (Je (by rfl) (Je (by rfl) (Je (by rfl) ?_)))
    replace L := ((L.set (x := "utd") (v := utV uv) (by decide) (by decide) (by decide) (by decide)).set (x := "utd_args") (v := .none) (by decide) (by decide) (by decide) (by decide)).set (x := "utd_kwargs") (v := .none) (by decide) (by decide) (by decide) (by decide)
    refine Jb (Jj (Jy (Ju (Jt (by rfl) (by kernel_rfl) Q6 ⟨_,rfl,cok,Ja (by rfl) (by rfl) (Qf (v := .ref cUptodateCalculator) (av := .val (.ref cUptodateCalculator)) (by rfl) (by kernel_rfl) (fun _ _ => .val _) (cw_isi (utV_plain uv) (r := false) (by cases uv <;> kernel_rfl) (J4 ?_)))⟩))))
    refine Jb (Jd (Ja (by rfl) (by rfl) (Je (by rfl) ?_)))
    replace L := L.set (x := "uptodate_result") (v := utV uv) (by decide) (by decide) (by decide) (by decide)
    refine Jc ?_
    refine Jb (Jj (Jf (Ja (by rfl) (by rfl) (Jz (Qv ⟨_,rfl,?_⟩)))))
    have sn := nFalse_step huv
    have su := ubs_step huv
    cases uv with
    | none =>
      refine Jb (st_continue ?_)
      show _ ∧ _
      rw [sn,su]
      simp only [reduceCtorEq,if_false,Nat.add_zero,Option.map_none,Option.toList_none,List.append_nil]
      exact ⟨L,lu,G,Lg₁,hu₁,nlu⟩
    | some bb =>
      refine Jc ?_
      refine Jb (J0 (Jk (Ja (by rfl) lu ⟨_,Qd (.inl hu₁) PySem.F.slot_list_append PySem.F.type_list_append,cok,Ja (by rfl) (by rfl) (Qe hu₁ (by omega) ?_)⟩)))
      have G₂ : Gs q (X₀ q) D (σ₁.set u (.list (ubs (q.us.take i) ++ [utV (some bb)]))) c (if nFalse (q.us.take i) = 0 then ("up-to-date" : Str) else ("run" : Str)) .none [] := G.ext o (Ext.refl.own (F := (· = u)) rfl) fun y e => by
        rw [show y = u from e]; exact ⟨zu,nur,nuc,nud⟩
      have Lg₂ := Lg₁.frame (F := (· = u)) (σ'' := σ₁.set u (.list (ubs (q.us.take i) ++ [utV (some bb)]))) (Ext.refl.own rfl) fun y e => ⟨(fu y e).1,(fu y e).2,by rw [show y = u from e]; exact nlu⟩
      have hu₂ : (σ₁.set u (.list (ubs (q.us.take i) ++ [utV (some bb)]))) u = some (.list (ubs (q.us.take i) ++ [utV (some bb)])) := Store.set_same _ _ _
      have nlu₂ : NotLog (σ₁.set u (.list (ubs (q.us.take i) ++ [utV (some bb)]))) q.rs "uptodate_false" [] u := nlu.same (Store.set_ne nus.symm)
      have nlc : NotLog (σ₁.set u (.list (ubs (q.us.take i) ++ [utV (some bb)]))) q.rs "uptodate_false" [] c := Lg₂.notOld (by rw [Gp.hc]; simp)
      generalize σ₁.set u (.list (ubs (q.us.take i) ++ [utV (some bb)])) = σ₂ at G₂ Lg₂ hu₂ nlu₂ nlc
      rw [show ubs (q.us.take i) ++ [utV (some bb)] = ubs (q.us.take (i + 1)) by rw [su]; rfl] at hu₂
      refine Jb (Jj (Hy (Jy (Ja (by rfl) (by rfl) (J4 ?_)))))
      cases bb with
      | true =>
        refine Jc (Jc ?_)
        show _ ∧ _
        rw [sn]
        simp only [Option.some.injEq,reduceCtorEq,if_false,Nat.add_zero]
        exact ⟨L,lu,G₂,Lg₂,hu₂,nlu₂⟩
      | false =>
        have hn : nFalse (q.us.take (i + 1)) = nFalse (q.us.take i) + 1 := by rw [sn]; rfl
        have hnl : (List.replicate (nFalse (q.us.take i)) (utT (some false))).length ≤ 900 := by
          rw [List.length_replicate]
          unfold nFalse
          exact Nat.le_trans (List.length_filter_le _ _) (Nat.le_trans (List.length_take_le _ _) (by omega))
        refine Jb (J0 (Jk (Ja (by rfl) L.res (Js (fm := Jr) G₂.hr G₂.hdr (by rfl) (by kernel_rfl) (Jg (Jq (Ja (by rfl) (by rfl) (Ja (by rfl) (by rfl) (Ja (by rfl) (by rfl) ⟨by simp,Ca.cw (call_add (s' := "run") G₂ o Lg₂ (fun y hy => Gp.E.live y hy) rfl (by simp) hnl (.inl ⟨rfl,rfl⟩) nlc fun σ₃ G₃ Lg₃ fr => ?_)⟩)))))))))
        obtain ⟨hu₃,nlu₃⟩ := fr _ _ hu₂ nud nus nlu₂
        refine Jc (Jc ⟨L,lu,?_,?_,hu₃,nlu₃⟩)
        · rw [hn,if_neg (by omega)]; exact G₃
        · rw [hn,List.replicate_succ']; exact Lg₃
  · rintro ℓ σ₁ ⟨L,lu,G,Lg₁,hu₁,nlu⟩
    rw [show (q.us.map utT).length = q.us.length by simp,List.take_length] at G Lg₁ hu₁
    obtain ⟨es',h1,h2,h3,h4,h5⟩ := Lg₁.fin (c := cc)
    exact gs_nodep G o L lu hu₁ h1 (fun hb => by have := h5 hb _ _ .nil (dt_reps (nFalse q.us)); exact this) h4 (fun k hk => by rw [h2 k hk]; rfl) (by simp at h3; omega) hzd hzt hzu ndd hl hW H φ
theorem Dep_status {b m : Bool} {n : Nm} {k : Tk} {wes : Es} {ds ts : List Str} {us : List (Option Bool)} {D : Db} {N : Nat} {F : Addr → Prop} {W : Str → Option We} {sv0 : Option Sav} {dtd : AV} {as : List AV} {cc : Cx} {Φ : AV → Store → Prop}
    (R : Rd σ m n k wes ds ts us) (hD : DbAt σ n.a D N F) (O : Out F σ (bs n k)) (hF : ∀ b,F b → σ b ≠ none) (hN : N ≤ 900) (hzd : ds.length ≤ 60) (hzt : ts.length ≤ 60) (hzu : us.length ≤ 60) (ndd : ds.Nodup) (hl : ∀ p ∈ ds,p.length ≤ 100)
    (hW : ∀ p,p ∈ ds ∨ p ∈ ts → wes.get p = (W p).map We.av) (H : Held D k.nm ds sv0) (has : (as = [.ref n.x,.ref n.tx,dtd] ∧ b = false) ∨ as = [.ref n.x,.ref n.tx,dtd,.bool b])
    (φ : ∀ r dr rs,Q0 ⟨b,m,n,k,wes,ds,ts,us,N,F,r,dr,rs,σ⟩ → GsPost cc ⟨b,m,n,k,wes,ds,ts,us,N,F,r,dr,rs,σ⟩ (X₀ ⟨b,m,n,k,wes,ds,ts,us,N,F,r,dr,rs,σ⟩) (if (outOf b m us ds ts W sv0).2.1 = true then rmD D k.nm else D) (logOf m us ds ts W sv0) (outOf b m us ds ts W sv0).1 (outOf b m us ds ts W sv0).2.2 Φ) :
    Ca (cx w mg mb h₀ stk) (d + 3) true σ (.val (.ref Qq)) as [] Φ := by
  refine J3 (Ht w.params) (ab := [("self",.ref n.x),("task",.ref n.tx),("tasks_dict",dtd),("get_log",.bool b)]) ?_ (by kernel_rfl) fun stk' => ?_
  · intro s xs ks ok kb va vk
    have X := Frag.In.keeps ok.X kb
    refine KRs.unnil vk ?_
    rcases has with ⟨rfl,rfl⟩ | rfl
    · refine VRs.uncons va fun _ _ a1 va => ?_; refine VRs.uncons va fun _ _ a2 va => ?_; refine VRs.uncons va fun _ _ a3 va => ?_; refine VRs.unnil va ?_
      refine ⟨_,?_,.cons a1 (.cons a2 (.cons a3 (.cons (.bool false) .nil)))⟩
      exact kp_binds X fun S => by kernel_rfl
    · refine VRs.uncons va fun _ _ a1 va => ?_; refine VRs.uncons va fun _ _ a2 va => ?_; refine VRs.uncons va fun _ _ a3 va => ?_; refine VRs.uncons va fun _ _ a4 va => ?_; refine VRs.unnil va ?_
      exact ⟨_,kp_binds X fun S => by rfl,.cons a1 (.cons a2 (.cons a3 (.cons a4 .nil)))⟩
  refine Jb (Jd (Ju (Qf (v := .ref cDependencyStatus) (av := .val (.ref cDependencyStatus)) (by rfl) (by kernel_rfl) (fun _ _ => .val _) ⟨_,rfl,.inl (by kernel_rfl),Ja (by rfl) (by rfl) ?_⟩)))
  refine Ca.cw (Hz (fI := Yn) (by kernel_rfl) (by kernel_rfl) (by kernel_rfl) fun r dr hdr hr ne => ?_)
  refine Status_init (Store.set_same _ _ _) ((Store.set_ne ne).trans (Store.set_same _ _ _)) ne.symm fun rs σ₁ hx₁ hd₁ hs₁ hs0 E₁ => ⟨rfl,Je (by rfl) ?_⟩
  have Ea : Ext (fun _ => False) σ ((σ.set dr (.dict [])).set r (.inst cDependencyStatus dr)) := (Ext.refl.new hdr).new hr
  have E : Ext (fun b => σ b = none) σ σ₁ := (Ea.weaken (G := fun b => σ b = none) fun _ h => h.elim).trans E₁ (by rintro b rfl; exact .inl hdr)
  have nrs : rs ≠ dr := fun e => by rw [e,Store.set_ne ne,Store.set_same] at hs0; cases hs0
  have nr : r ≠ rs := fun e => by rw [← e,Store.set_same] at hs0; cases hs0
  let q : Qs := ⟨b,m,n,k,wes,ds,ts,us,N,F,r,dr,rs,σ⟩
  have o : Q0 q := ⟨hr,hdr,Ea.back hs0,ne.symm,nrs,nr,fun y hy => (O y hy).1,hF,fun y hy => (O y hy).2,hN⟩
  have R₁ : Rd σ₁ m n k wes ds ts us := R.keep fun y hy => E.keep y (O y hy).1 fun h => (O y hy).1 h
  have hD₁ : DbAt σ₁ n.a D N F := hD.keep fun y fy hy => E.keep y hy fun h => hy h
  refine Jb (Jd (J6 ⟨by simp,fun c hc => Jw (Jl (by rfl) (by rfl) (J7 (Store.set_old R₁.t.hx hc) (Store.set_old R₁.t.hdx hc) (by kernel_rfl) (Nat.le_of_ble_eq_true rfl) R₁.t.nx fun σ₂ hx hd E₂ => ?_))⟩))
  have nc : c ≠ n.tdx := J9 R₁.t.hdx hc
  have E₂' : Ext (· = n.tdx) σ₁ σ₂ := (Ext.refl.alloc hc (o := .list [])).trans E₂ fun _ h => .inl h
  have G : Gs q (X₀ q) D σ₂ c "up-to-date" .none [] :=
    ⟨E₂'.get hx₁ (R₁.t.off hx₁ (by simp)),E₂'.get hd₁ (R₁.t.off hd₁ (by simp [dsEs,Tk.es,tkEs])),R₁.turn E₂' hd ⟨rfl,rfl,rfl⟩,E₂.get (Store.set_same _ _ _) nc,
      (E.weaken (G := X₀ q) fun _ h => .inr h).trans E₂' fun _ h => .inl (.inl h),hD₁.keep fun y fy hy => E₂'.keep y hy (by rintro rfl; exact (O n.tdx (by simp [bs])).2 fy)⟩
  have hrs₂ : σ₂ rs = some (.dict []) := E₂'.get hs₁ fun h => (O n.tdx (by simp [bs])).1 (by rw [← h]; exact Ea.back hs0)
  exact gs_loop (q := q) (W := W) (sv0 := sv0) G o ⟨by rfl,by rfl,by rfl,by rfl⟩ hrs₂ hzd hzt hzu ndd hl hW H (φ r dr rs o)
end

noncomputable def fs6 : List Str := ["f1","f2","f3","f4","t1","t2"]
noncomputable def upd (W : Str → Option We) (p : Str) (e : Option We) : Str → Option We := fun q => if q = p then e else W q
/-- the world's dict holds just this -/
noncomputable def Wd (wes : Es) (W : Str → Option We) : Prop := ∀ p,wes.get p = (W p).map We.av
theorem Wd.put {wes : Es} {W : Str → Option We} (h : Wd wes W) (p : Str) (e : We) : Wd (wes.put p e.av) (upd W p (some e)) := fun q => by
  rw [Es.get_put]; unfold upd; split
  · rfl
  · exact h q
theorem Wd.has {wes : Es} {W : Str → Option We} (h : Wd wes W) (p : Str) : wes.has p = (W p).isSome := by
  rw [Es.has_get,h p]; cases W p <;> rfl
theorem fmod_at {i : Int} {n : Nat} (h : 0 < n) : 0 ≤ i.fmod n ∧ i.fmod n < n := ⟨Int.fmod_nonneg_of_pos _ (by omega),Int.fmod_lt_of_pos _ (by omega)⟩
noncomputable def smalls : List Int := [1,2,3,4,6,8,12,16,64,512,4096,16384,32768,65536,131072]
theorem noPy {i : Int} : ∀ {j : Int},j ∈ smalls → Builtin.divisionGoesByPylong i j = false := by
  intro j h
  simp only [smalls,List.mem_cons,List.not_mem_nil,or_false] at h
  rcases h with rfl | rfl | rfl | rfl | rfl | rfl | rfl | rfl | rfl | rfl | rfl | rfl | rfl | rfl | rfl <;> (unfold Builtin.divisionGoesByPylong; simp only [Bool.and_eq_false_iff]; left; decide)
theorem fdiv_at {i : Int} {n b : Nat} (h0 : 0 ≤ i) (h : i < n * b) (hn : 0 < n) : 0 ≤ i.fdiv n ∧ i.fdiv n < b := by
  refine ⟨Int.fdiv_nonneg h0 (by omega),?_⟩
  rw [Int.fdiv_eq_ediv_of_nonneg _ (by omega)]
  exact Int.ediv_lt_of_lt_mul (by omega) (by rw [Int.mul_comm]; exact_mod_cast h)
noncomputable def xyAt : Int → Nat | 0 => 120 | _ => 121
theorem xy_at {i : Int} (h0 : 0 ≤ i) (h1 : i < 2) : (seqIndex? i ("xy" : Str).length).bind (("xy" : Str).cps[·]?) = some (xyAt i) := by
  have : i = 0 ∨ i = 1 := by omega
  rcases this with rfl | rfl <;> decide
section
variable {P : Params} {h₀ : Heap}
theorem Hv (X : (KZ P).In h₀) : BaseL h₀ 582 (strsA fs6) :=
  ⟨#[.str "f1" 960,.str "f2" 961,.str "f3" 962,.str "f4" 963,.str "t1" 964,.str "t2" 965],0,X _ _ (by kernel_rfl),fun _ _ => .cons (.str _ _) (.cons (.str _ _) (.cons (.str _ _) (.cons (.str _ _) (.cons (.str _ _) (.cons (.str _ _) .nil)))))⟩
theorem base_uts (X : (KZ P).In h₀) : BaseL h₀ 591 [.ref 583,.ref 584,.ref 585,.ref 586,.ref 587,.ref 588,.ref 589,.ref 590] :=
  ⟨#[.ref 583,.ref 584,.ref 585,.ref 586,.ref 587,.ref 588,.ref 589,.ref 590],0,X _ _ (by kernel_rfl),fun _ _ => .cons (.ref _) (.cons (.ref _) (.cons (.ref _) (.cons (.ref _) (.cons (.ref _) (.cons (.ref _) (.cons (.ref _) (.cons (.ref _) .nil)))))))⟩
theorem base_ut (X : (KZ P).In h₀) {i : Nat} (hi : i < 8) : ∃ (a : Addr) (us : List (Option Bool)),[AV.ref 583,.ref 584,.ref 585,.ref 586,.ref 587,.ref 588,.ref 589,.ref 590][i]? = some (.ref a) ∧ BaseL h₀ a (us.map utV) ∧ us.length ≤ 2 := by
  match i,hi with
  | 0,_ => exact ⟨583,[],rfl,⟨#[],0,X _ _ (by kernel_rfl),fun _ _ => .nil⟩,by decide⟩
  | 1,_ => exact ⟨584,[some true],rfl,⟨#[.bool true],0,X _ _ (by kernel_rfl),fun _ _ => .cons (.bool _) .nil⟩,by decide⟩
  | 2,_ => exact ⟨585,[some false],rfl,⟨#[.bool false],0,X _ _ (by kernel_rfl),fun _ _ => .cons (.bool _) .nil⟩,by decide⟩
  | 3,_ => exact ⟨586,[none],rfl,⟨#[.none],0,X _ _ (by kernel_rfl),fun _ _ => .cons .none .nil⟩,by decide⟩
  | 4,_ => exact ⟨587,[some true,some false],rfl,⟨#[.bool true,.bool false],0,X _ _ (by kernel_rfl),fun _ _ => .cons (.bool _) (.cons (.bool _) .nil)⟩,by decide⟩
  | 5,_ => exact ⟨588,[none,some true],rfl,⟨#[.none,.bool true],0,X _ _ (by kernel_rfl),fun _ _ => .cons .none (.cons (.bool _) .nil)⟩,by decide⟩
  | 6,_ => exact ⟨589,[some false,none],rfl,⟨#[.bool false,.none],0,X _ _ (by kernel_rfl),fun _ _ => .cons (.bool _) (.cons .none .nil)⟩,by decide⟩
  | 7,_ => exact ⟨590,[some false,some false],rfl,⟨#[.bool false,.bool false],0,X _ _ (by kernel_rfl),fun _ _ => .cons (.bool _) (.cons (.bool _) .nil)⟩,by decide⟩
end
section
variable {w : World} {mg mb : Str → Option Value} {h₀ : Heap} {stk : List Env} {σ : Store} {d : Nat} {hf : Bool}
theorem law_world {num : Int} {Φ : AV → Store → Prop} (X : (KZ w.params).In h₀) (φ : ∀ σ' aw wes W,σ' aw = some (.dict wes) → Wd wes W → wes.length ≤ 6 → σ aw = none → Ext (fun _ => False) σ σ' → Φ (.ref aw) σ') :
    Ca (cx w mg mb h₀ stk) (d + 1) true σ (.val (.ref a_law_world)) [.int num] [] Φ := by
  refine J3 (isD__law_world w.params) (ab := [("number",.int num)]) (bin1 fun _ _ => BindsTo.of_eq rfl) (by kernel_rfl) fun stk' => ?_
  refine Jb (Jd (Qn fun aw haw => Je (by rfl) ?_))
  refine Jb (Qu rfl (J1 (Qf (v := .ref 582) (av := .ref 582) (by rfl) (by kernel_rfl) (fun _ _ => .ref _) ⟨582,strsA fs6,rfl,(Hv X).is,Jx _ _ _,
    fun i ℓ σ' => ℓ "world" = some (.ref aw) ∧ (∃ z,ℓ "number" = some (.int z)) ∧ ∃ (wes : Es) (W : Str → Option We),σ' = σ.set aw (.dict wes) ∧ Wd wes W ∧ wes.length ≤ i,
    ⟨by rfl,⟨num,by rfl⟩,[],fun _ => none,rfl,fun _ => rfl,Nat.le_refl _⟩,fun _ _ _ _ => (Hv X).is,?_,?_⟩)))
  · rintro i v ℓ _ hv ⟨lw,⟨z,ln⟩,wes,W,rfl,hW,hz⟩
    obtain ⟨p,rfl,hp⟩ := Yo hv
    have hi : i < 6 := by
      rcases Nat.lt_or_ge i fs6.length with h | h
      · exact h
      · rw [List.getElem?_eq_none h] at hp; cases hp
    refine Je (by rfl) ?_
    obtain ⟨d0,d1⟩ : 0 ≤ z.fmod 12 ∧ z.fmod 12 < 12 := fmod_at (n := 12) (by decide)
    refine Jb (Jd (J8 (Ja (by rfl) ln (Ji (Ys (by decide) (Je (by rfl) ?_))))))
    refine Jb (Jd (J8 (Ja (by rfl) ln (Ji (Qx (by decide) (noPy (by decide)) (Je (by rfl) ?_))))))
    refine Jb (Jj (Jf (Ja (by rfl) (by rfl) (Ji (Yd ⟨_,rfl,?_⟩)))))
    by_cases h11 : z.fmod 12 = 11
    · rw [show (z.fmod 12 != 11) = false by simp [h11]]
      exact Jc (Jc ⟨lw,⟨_,by rfl⟩,wes,W,rfl,hW,by omega⟩)
    · rw [show (z.fmod 12 != 11) = true by simp [h11]]
      obtain ⟨e0,e1⟩ : 0 ≤ (z.fmod 12).fdiv 6 ∧ (z.fmod 12).fdiv 6 < 2 := fdiv_at (n := 6) (b := 2) d0 (by omega) (by decide)
      refine Jb (Jd (Jq (J8 (Ja (by rfl) (by rfl) (Ji (Ys (by decide) (J8 (J8 (Ja (by rfl) (by rfl) (Ji (Qx (by decide) (noPy (by decide)) (Ji (Ys (by decide) ?_)))))))))))))
      refine Jp (Jg (J8 (Ja (by rfl) (by rfl) (Ji (Qx (by decide) (noPy (by decide)) (op_sub_str (fun _ _ => rfl) e0 (by omega) (xy_at e0 e1) ⟨by simp,?_⟩))))))
      refine Qt (Ja (by rfl) lw (Ja (by rfl) (by rfl) (J5 (Store.set_same _ _ _) (by omega) ?_)))
      refine Jc (Jc ⟨lw,⟨_,by rfl⟩,_,_,Store.set_set,hW.put p ⟨(z.fmod 12).fmod 3,((z.fmod 12).fdiv 3).fmod 2,⟨#[xyAt ((z.fmod 12).fdiv 6)]⟩⟩,Nat.le_trans (Es.put_len ..) (by omega)⟩)
  · rintro ℓ _ ⟨lw,_,wes,W,rfl,hW,hz⟩
    exact Jb (Jm (Ja (by rfl) lw (φ _ aw wes W (Store.set_same _ _ _) hW hz haw (Ext.refl.alloc haw))))
theorem law_modified {m : Bool} {s e : We} {Φ : AV → Store → Prop} (φ : Φ (.bool (modified m e (some s))) σ) :
    Ca (cx w mg mb h₀ stk) (d + 1) hf σ (.val (.ref Ud)) [.str (cnm m),sv m s,e.av] [] Φ := by
  refine J3 (isD__law_modified w.params) (ab := [("checker_name",.str (cnm m)),("state",sv m s),("row",e.av)]) (bin3 fun _ _ _ _ => BindsTo.of_eq rfl) (by kernel_rfl) fun stk' => ?_
  refine Jb (Jj (Jf (Ja (by rfl) (by rfl) (Jg (Ql ⟨_,rfl,?_⟩)))))
  cases m with
  | true =>
    rw [show (cnm true == ("MD5Checker" : Str)) = true by rfl]
    refine Jb (Jm (ev_and2 (Yr (Jp (Ja (by rfl) (by rfl) (Ji (Jo (vs := [.int s.ts,.int s.sz,.str s.tx]) (v := .int s.ts) (fun _ _ => rfl) (by decide) (by decide) (by rfl) ?_)))))))
    refine Jp (Ja (by rfl) (by rfl) (Ji (Jo (vs := [.int e.ts,.int e.sz,.str e.tx]) (v := .int e.ts) (fun _ _ => rfl) (by decide) (by decide) (by rfl) (Yd (J4 ?_)))))
    replace φ : Φ (.bool (if e.ts = s.ts then false else if e.sz = s.sz then s.tx != e.tx else true)) σ := φ
    by_cases h1 : e.ts = s.ts
    · rw [if_pos h1] at φ
      rw [show (s.ts != e.ts) = false by simp [h1]]
      exact φ
    · rw [if_neg h1] at φ
      rw [show (s.ts != e.ts) = true by simp; exact fun h => h1 h.symm]
      refine ev_or2 (Yr (Jp (Ja (by rfl) (by rfl) (Ji (Jo (vs := [.int s.ts,.int s.sz,.str s.tx]) (v := .int s.sz) (fun _ _ => rfl) (by decide) (by decide) (by rfl) ?_)))))
      refine Jp (Ja (by rfl) (by rfl) (Ji (Jo (vs := [.int e.ts,.int e.sz,.str e.tx]) (v := .int e.sz) (fun _ _ => rfl) (by decide) (by decide) (by rfl) (Yd (J4 ?_)))))
      by_cases h2 : e.sz = s.sz
      · rw [if_pos h2] at φ
        rw [show (s.sz != e.sz) = false by simp [h2]]
        refine Yr (Jp (Ja (by rfl) (by rfl) (Ji (Jo (vs := [.int s.ts,.int s.sz,.str s.tx]) (v := .str s.tx) (fun _ _ => rfl) (by decide) (by decide) (by rfl) ?_))))
        exact Jp (Ja (by rfl) (by rfl) (Ji (Jo (vs := [.int e.ts,.int e.sz,.str e.tx]) (v := .str e.tx) (fun _ _ => rfl) (by decide) (by decide) (by rfl) (Ye φ))))
      · rw [if_neg h2] at φ
        rw [show (s.sz != e.sz) = true by simp; exact fun h => h2 h.symm]
        exact φ
  | false =>
    rw [show (cnm false == ("MD5Checker" : Str)) = false by rfl]
    refine Jc ?_
    replace φ : Φ (.bool (e.ts != s.ts)) σ := φ
    rw [bne_comm] at φ
    exact Jb (Jm (Yr (Ja (by rfl) (by rfl) (Jp (Ja (by rfl) (by rfl) (Ji (Jo (vs := [.int e.ts,.int e.sz,.str e.tx]) (v := .int e.ts) (fun _ _ => rfl) (by decide) (by decide) (by rfl) (Yd φ))))))))
end

noncomputable def fiA (l1 l2 : Addr) : Fi → AV
  | .up => .tup [.str "uptodate_false",.tup [.bool false,.none,.none]]
  | .no => .tup [.str "has_no_dependencies",.bool true]
  | .tgt p => .tup [.str "missing_target",.str p]
  | .chk a b => .tup [.str "checker_changed",.tup [.str a,.str b]]
  | .oth _ _ => .tup [.str "other_file_dep",.tup [.ref l1,.ref l2]]
  | .miss p => .tup [.str "missing_file_dep",.str p]
  | .chg p => .tup [.str "changed_file_dep",.str p]
noncomputable def isOth : Fi → Bool
  | .oth .. => true
  | _ => false
theorem fiA_no {l1 l2 k1 k2 : Addr} {fs : List Fi} (h : fs.any isOth = false) : fs.map (fiA l1 l2) = fs.map (fiA k1 k2) := by
  refine List.map_congr_left fun x hx => ?_
  have := List.any_eq_false.mp h x hx
  cases x <;> first | rfl | exact absurd rfl this
structure FoundAt (σ : Store) (fl l1 l2 : Addr) (fs : List Fi) : Prop where
  fl : σ fl = some (.list (fs.map (fiA l1 l2)))
  oth : ∀ x y,Fi.oth x y ∈ fs → σ l1 = some (.list (strsA x)) ∧ σ l2 = some (.list (strsA y))
theorem FoundAt.push {σ : Store} {fl l1 l2 : Addr} {fs : List Fi} (h : FoundAt σ fl l1 l2 fs) {f : Fi} (hf : isOth f = false) : FoundAt (σ.set fl (.list (fs.map (fiA l1 l2) ++ [fiA l1 l2 f]))) fl l1 l2 (fs ++ [f]) := by
  refine ⟨by rw [Store.set_same]; simp,fun x y hm => ?_⟩
  rcases List.mem_append.mp hm with hm | hm
  · obtain ⟨h1,h2⟩ := h.oth x y hm
    have key : ∀ {b : Addr} {z : List Str},σ b = some (.list (strsA z)) → b ≠ fl := by
      rintro b z hb rfl
      rw [h.fl] at hb
      injection hb with hb; injection hb with hb
      have : fiA l1 l2 (.oth x y) ∈ strsA z := hb ▸ List.mem_map.mpr ⟨_,hm,rfl⟩
      obtain ⟨q,_,e⟩ := List.mem_map.mp this
      cases e
    exact ⟨(Store.set_ne (key h1)).trans h1,(Store.set_ne (key h2)).trans h2⟩
  · rw [List.mem_singleton] at hm; subst hm; cases hf
theorem FoundAt.mono {σ σ' : Store} {fl l1 l2 : Addr} {fs : List Fi} (h : FoundAt σ fl l1 l2 fs) (E : Ext (fun _ => False) σ σ') : FoundAt σ' fl l1 l2 fs :=
  ⟨E.get h.fl id,fun x y hm => ⟨E.get (h.oth x y hm).1 id,E.get (h.oth x y hm).2 id⟩⟩
noncomputable def SavedAt (σ : Store) (v : AV) : Option Sav → Prop
  | none => v = .none
  | some s => ∃ (sl st : Addr) (ses : Es),v = .tup [.str (cnm s.m),.ref sl,.ref st] ∧ σ sl = some (.list (strsA s.deps)) ∧ σ st = some (.dict ses) ∧ List.length ses ≤ s.n ∧ ∀ p,ses.get p = (s.st p).map (sv s.m)
theorem SavedAt.ext {σ σ' : Store} {v : AV} {s : Option Sav} {F : Addr → Prop} (h : SavedAt σ v s) (E : Ext F σ σ') (hF : ∀ s',s = some s' → ∀ sl st,v = .tup [.str (cnm s'.m),.ref sl,.ref st] → ¬ F sl ∧ ¬ F st) : SavedAt σ' v s := by
  cases s with
  | none => exact h
  | some s =>
    obtain ⟨sl,st,ses,e,h1,h2,h3,h4⟩ := h
    obtain ⟨n1,n2⟩ := hF s rfl sl st e
    exact ⟨sl,st,ses,e,E.get h1 n1,E.get h2 n2,h3,h4⟩
theorem SavedAt.mono {σ σ' : Store} {v : AV} {s : Option Sav} (h : SavedAt σ v s) (E : Ext (fun _ => False) σ σ') : SavedAt σ' v s := h.ext E fun _ _ _ _ _ => ⟨id,id⟩
structure LrS (h₀ : Heap) (σ : Store) (dl tl ul aw : Addr) (wes : Es) (W : Str → Option We) (ds ts : List Str) (us : List (Option Bool)) : Prop where
  dl : σ dl = some (.list (strsA ds))
  tl : σ tl = some (.list (strsA ts))
  ul : BaseL h₀ ul (us.map utV)
  aw : σ aw = some (.dict wes)
  wd : Wd wes W
  zd : ds.length ≤ 60
  zt : ts.length ≤ 60
  zu : us.length ≤ 60
  okd : ∀ p ∈ ds,PyData.strOk p = true
structure LrL (ℓ : Locs) (m : Bool) (dl tl ul aw fl : Addr) (sva : AV) : Prop where
  deps : ℓ "deps" = some (.ref dl)
  targets : ℓ "targets" = some (.ref tl)
  upto : ℓ "uptodate" = some (.ref ul)
  found : ℓ "found" = some (.ref fl)
  saved : ℓ "saved" = some sva
  world : ℓ "world" = some (.ref aw)
  cn : ℓ "checker_name" = some (.str (cnm m))
theorem LrL.set {ℓ : Locs} {m : Bool} {dl tl ul aw fl : Addr} {sva : AV} (L : LrL ℓ m dl tl ul aw fl sva) {x : Str} {v : AV} (h : x ∉ ([ "deps","targets","uptodate","found","saved","world","checker_name"] : List Str)) : LrL (ℓ.set x v) m dl tl ul aw fl sva := by
  simp only [List.mem_cons,List.not_mem_nil,or_false,not_or] at h
  obtain ⟨h1,h2,h3,h4,h5,h6,h7⟩ := h
  exact ⟨(Locs.set_ne (Ne.symm h1)).trans L.deps,(Locs.set_ne (Ne.symm h2)).trans L.targets,(Locs.set_ne (Ne.symm h3)).trans L.upto,(Locs.set_ne (Ne.symm h4)).trans L.found,(Locs.set_ne (Ne.symm h5)).trans L.saved,(Locs.set_ne (Ne.symm h6)).trans L.world,(Locs.set_ne (Ne.symm h7)).trans L.cn⟩
noncomputable def lrBody (k : Nat) : List Stmt := go k (subB (fS [21])) where
  go : Nat → List Stmt → List Stmt
  | 0,l => l
  | n + 1,l => go n (tl l)
noncomputable abbrev lrF (d : Nat) : Fn := ⟨(Str.ofString "_law_reasons") ++ ".<locals>.",fs [21],some Q4,.ref 609,d + 1,true⟩
noncomputable def LrPost (σ : Store) (fs : List Fi) (Φ : AV → Store → Prop) : Prop := ∀ σ' fl l1 l2,Ext (fun _ => False) σ σ' → σ fl = none → FoundAt σ' fl l1 l2 fs → Φ (.ref fl) σ'
section
variable {w : World} {mg mb : Str → Option Value} {h₀ : Heap} {stk : List Env} {σ σ' : Store} {d : Nat} {hf : Bool} {m : Bool} {dl tl ul aw fl l1 l2 : Addr} {wes : Es} {W : Str → Option We} {ds ts : List Str} {us : List (Option Bool)} {fs : List Fi} {sva : AV} {s : Option Sav} {ℓ : Locs} {Φ : AV → Store → Prop} {cc : Cx}
theorem lr_end (S : LrS h₀ σ dl tl ul aw wes W ds ts us) (L : LrL ℓ m dl tl ul aw fl sva) (E : Ext (fun _ => False) σ σ') (zf : σ fl = none) (hf : FoundAt σ' fl l1 l2 fs) (hs : SavedAt σ' sva s) (hm : ∀ s',s = some s' → s'.m = m) (hz : fs.length ≤ 300)
    (φ : LrPost σ (fs ++ (ds.filter (missQ W)).map .miss ++ (ds.filter (modf m W (stOf s))).map .chg) Φ) : Ss (cx w mg mb h₀ stk) (lrF d) ℓ σ' (lrBody 7) (fun r _ σ' => Φ (retv r) σ') := by
  have go : ∀ (σ₁ : Store) (ℓ : Locs) (st : Addr) (ses : Es),LrL ℓ m dl tl ul aw fl sva → ℓ "states" = some (.ref st) → Ext (fun _ => False) σ σ₁ → FoundAt σ₁ fl l1 l2 fs → σ₁ st = some (.dict ses) → (∀ p,ses.get p = (stOf s p).map (sv m)) → Ss (cx w mg mb h₀ stk) (lrF d) ℓ σ₁ (lrBody 8) (fun r _ σ' => Φ (retv r) σ') := by
    intro σ₁ ℓ st ses L lst E hf hst hses
    have nfs : st ≠ fl := by rintro rfl; rw [hf.fl] at hst; cases hst
    have bd : ∀ (f : Str → Bool) (i : Nat),((ds.take i).filter f).length ≤ 60 := fun f i => Nat.le_trans (List.length_filter_le _ _) (Nat.le_trans (List.length_take_le' _ _) S.zd)
    refine Jb (Qu rfl (J1 (Jl (by rfl) L.deps ⟨dl,strsA ds,rfl,.inl (E.get S.dl id),Jx _ _ _,
      fun i ℓ σ₂ => LrL ℓ m dl tl ul aw fl sva ∧ ℓ "states" = some (.ref st) ∧ Ext (fun _ => False) σ σ₂ ∧ FoundAt σ₂ fl l1 l2 (fs ++ ((ds.take i).filter (missQ W)).map .miss) ∧ σ₂ st = some (.dict ses),
      ⟨L,lst,E,by rw [List.take_zero]; simpa using hf,hst⟩,fun _ _ _ h => .inl (h.2.2.1.get S.dl id),?_,?_⟩)))
    · rintro i v ℓ σ₂ hv ⟨L,lst,E,hf,hst⟩
      obtain ⟨p,rfl,hp⟩ := Yo hv
      have tk := Ze (f := missQ W) hp
      have b1 := bd (missQ W) i
      refine Je (by rfl) ?_
      replace L := L.set (x := "path") (v := .str p) (by decide)
      refine Jb (Jj (Jf (Ja (by rfl) (by rfl) (Ja (by rfl) L.world (Q7 (E.get S.aw id) ⟨_,rfl,?_⟩)))))
      rw [S.wd.has p]
      cases hWp : W p with
      | some e =>
        refine Jc (Jc ⟨L,lst,E,?_,hst⟩)
        rw [tk,if_neg (by unfold missQ; rw [hWp]; simp),List.append_nil]; exact hf
      | none =>
        refine Jb (J0 (Jk (Ja (by rfl) L.found ⟨_,Qd (.inl hf.fl) PySem.F.slot_list_append PySem.F.type_list_append,cok,Jq (Jg (Ja (by rfl) (by rfl) ⟨by simp,Qe hf.fl (by simp; omega) ?_⟩))⟩)))
        refine Jc (Jc ⟨L,lst,E.new zf,?_,(Store.set_ne nfs).trans hst⟩)
        rw [tk,if_pos (by unfold missQ; rw [hWp]; rfl)]
        have := hf.push (f := .miss p) rfl
        rw [show fs ++ ((ds.take i).filter (missQ W)).map Fi.miss ++ [Fi.miss p] = fs ++ ((ds.take i).filter (missQ W) ++ [p]).map .miss by simp] at this
        exact this
    · rintro ℓ σ₂ ⟨L,lst,E,hf,hst⟩
      rw [show (strsA ds).length = ds.length by simp,List.take_length] at hf
      have b0 := bd (missQ W) ds.length
      rw [List.take_length] at b0
      refine Jb (Qu rfl (J1 (Jl (by rfl) L.deps ⟨dl,strsA ds,rfl,.inl (E.get S.dl id),Jx _ _ _,
        fun i ℓ σ₂ => LrL ℓ m dl tl ul aw fl sva ∧ ℓ "states" = some (.ref st) ∧ Ext (fun _ => False) σ σ₂ ∧ FoundAt σ₂ fl l1 l2 (fs ++ (ds.filter (missQ W)).map .miss ++ ((ds.take i).filter (modf m W (stOf s))).map .chg) ∧ σ₂ st = some (.dict ses),
        ⟨L,lst,E,by rw [List.take_zero]; simpa using hf,hst⟩,fun _ _ _ h => .inl (h.2.2.1.get S.dl id),?_,?_⟩)))
      · rintro i v ℓ σ₂ hv ⟨L,lst,E,hf,hst⟩
        obtain ⟨p,rfl,hp⟩ := Yo hv
        have tk := Ze (f := modf m W (stOf s)) hp
        have b1 := bd (modf m W (stOf s)) i
        refine Je (by rfl) ?_
        replace L := L.set (x := "path") (v := .str p) (by decide)
        have no : modf m W (stOf s) p = false → (fun ℓ σ₂ => LrL ℓ m dl tl ul aw fl sva ∧ ℓ "states" = some (.ref st) ∧ Ext (fun _ => False) σ σ₂ ∧ FoundAt σ₂ fl l1 l2 (fs ++ (ds.filter (missQ W)).map .miss ++ ((ds.take (i + 1)).filter (modf m W (stOf s))).map .chg) ∧ σ₂ st = some (.dict ses)) (ℓ.set "path" (.str p)) σ₂ := fun h => by
          refine ⟨L,lst,E,?_,hst⟩
          rw [tk,if_neg (by rw [h]; simp),List.append_nil]; exact hf
        have yes : modf m W (stOf s) p = true → (fun ℓ σ₂ => LrL ℓ m dl tl ul aw fl sva ∧ ℓ "states" = some (.ref st) ∧ Ext (fun _ => False) σ σ₂ ∧ FoundAt σ₂ fl l1 l2 (fs ++ (ds.filter (missQ W)).map .miss ++ ((ds.take (i + 1)).filter (modf m W (stOf s))).map .chg) ∧ σ₂ st = some (.dict ses)) (ℓ.set "path" (.str p))
            (σ₂.set fl (.list ((fs ++ (ds.filter (missQ W)).map Fi.miss ++ ((ds.take i).filter (modf m W (stOf s))).map Fi.chg).map (fiA l1 l2) ++ [fiA l1 l2 (.chg p)]))) := fun h => by
          refine ⟨L,lst,E.new zf,?_,(Store.set_ne nfs).trans hst⟩
          rw [tk,if_pos h]
          have := hf.push (f := .chg p) rfl
          rw [show fs ++ (ds.filter (missQ W)).map Fi.miss ++ ((ds.take i).filter (modf m W (stOf s))).map Fi.chg ++ [Fi.chg p] = fs ++ (ds.filter (missQ W)).map .miss ++ ((ds.take i).filter (modf m W (stOf s)) ++ [p]).map .chg by simp] at this
          exact this
        refine Jb (Jj (Qy ?_))
        refine Jf (Ja (by rfl) (by rfl) (Ja (by rfl) L.world (op_in (E.get S.aw id) ⟨_,rfl,?_⟩)))
        rw [S.wd.has p]
        cases hWp : W p with
        | none => exact Jc (Jc (no (by unfold modf; rw [hWp])))
        | some e =>
          have hwp : wes.get p = some e.av := by rw [S.wd p,hWp]; rfl
          refine Ug ?_
          refine Jf (Ja (by rfl) (by rfl) (Ja (by rfl) lst (Q7 hst ⟨_,rfl,?_⟩)))
          rw [Es.has_get,hses p]
          cases hSp : stOf s p with
          | none =>
            refine Jb (J0 (Jk (Ja (by rfl) L.found ⟨_,Qd (.inl hf.fl) PySem.F.slot_list_append PySem.F.type_list_append,cok,Jq (Jg (Ja (by rfl) (by rfl) ⟨by simp,Qe hf.fl (by simp; omega) ?_⟩))⟩)))
            exact Jc (Jc (yes (by unfold modf; rw [hWp,hSp]; rfl)))
          | some s' =>
            have hsp : ses.get p = some (sv m s') := by rw [hses p,hSp]; rfl
            refine Jy (Ju (Qf (v := .ref Ud) (av := .val (.ref Ud)) (by rfl) (by kernel_rfl) (fun _ _ => .val _) ⟨_,rfl,.inl (by kernel_rfl),Ja (by rfl) L.cn (Jp (Ja (by rfl) lst (Ja (by rfl) (by rfl) (Qa (fun _ _ => rfl) hst hsp (Jp (Ja (by rfl) L.world (Ja (by rfl) (by rfl) (Qa (fun _ _ => rfl) (E.get S.aw id) hwp (Ca.cw (law_modified (J4 ?_)))))))))))⟩))
            cases hz' : modified m e (some s') with
            | true =>
              refine Jb (J0 (Jk (Ja (by rfl) L.found ⟨_,Qd (.inl hf.fl) PySem.F.slot_list_append PySem.F.type_list_append,cok,Jq (Jg (Ja (by rfl) (by rfl) ⟨by simp,Qe hf.fl (by simp; omega) ?_⟩))⟩)))
              exact Jc (Jc (yes (by unfold modf; rw [hWp,hSp]; exact hz')))
            | false => exact Jc (Jc (no (by unfold modf; rw [hWp,hSp]; exact hz')))
      · rintro ℓ σ₂ ⟨L,lst,E,hf,hst⟩
        rw [show (strsA ds).length = ds.length by simp,List.take_length] at hf
        exact Jb (Jm (Ja (by rfl) L.found (φ σ₂ fl l1 l2 E zf hf)))
  refine Jb (Jd (Qo (Jf (Jl (by rfl) L.saved (Jz (Qv ⟨_,rfl,?_⟩))))))
  cases s with
  | none =>
    obtain rfl : sva = .none := hs
    refine Qn fun st hst => Je (by rfl) ?_
    exact go _ _ st [] (L.set (by decide)) (by rfl) (E.alloc hst) (hf.mono (Ext.refl.alloc hst)) (Store.set_same _ _ _) fun _ => rfl
  | some s' =>
    obtain ⟨sl,st,ses,rfl,h1,h2,h3,h4⟩ := hs
    refine Jp (Jl (by rfl) L.saved (Ji (Jo (v := .ref st) (fun _ _ => rfl) (by decide) (by decide) (by rfl) (Je (by rfl) ?_))))
    refine go _ _ st ses (L.set (by decide)) (by rfl) E hf h2 fun p => ?_
    rw [h4 p,hm s' rfl]; rfl
end

theorem LrL.none {ℓ : Locs} {m : Bool} {dl tl ul aw fl : Addr} {sva v : AV} (L : LrL ℓ m dl tl ul aw fl sva) : LrL (ℓ.set "saved" v) m dl tl ul aw fl v :=
  ⟨(Locs.set_ne (by decide)).trans L.deps,(Locs.set_ne (by decide)).trans L.targets,(Locs.set_ne (by decide)).trans L.upto,(Locs.set_ne (by decide)).trans L.found,Locs.set_same _ _ _,(Locs.set_ne (by decide)).trans L.world,(Locs.set_ne (by decide)).trans L.cn⟩
section
variable {w : World} {mg mb : Str → Option Value} {h₀ : Heap} {stk : List Env} {σ σ' : Store} {d : Nat} {hf : Bool} {m : Bool} {dl tl ul aw fl l1 l2 : Addr} {wes : Es} {W : Str → Option We} {ds ts : List Str} {us : List (Option Bool)} {fs : List Fi} {sva : AV} {s : Option Sav} {ℓ : Locs} {Φ : AV → Store → Prop} {cc : Cx}
theorem lr_oth (S : LrS h₀ σ dl tl ul aw wes W ds ts us) (L : LrL ℓ m dl tl ul aw fl sva) (E : Ext (fun _ => False) σ σ') (zf : σ fl = none) (hf : FoundAt σ' fl l1 l2 fs) (hs : SavedAt σ sva s) (hm : ∀ s',s = some s' → s'.m = m) (hz : fs.length ≤ 290) (hno : fs.any isOth = false)
    (nd : ds.Nodup) (hok : ∀ s',s = some s' → s'.deps.Nodup ∧ s'.deps.length ≤ 60 ∧ ∀ p ∈ s'.deps,PyData.strOk p = true)
    (φ : LrPost σ (fs ++ othOf ds s ++ (ds.filter (missQ W)).map .miss ++ (ds.filter (modf m W (stOf s))).map .chg) Φ) : Ss (cx w mg mb h₀ stk) (lrF d) ℓ σ' (lrBody 6) (fun r _ σ' => Φ (retv r) σ') := by
  have skip : othOf ds s = [] → ∀ {σ₁ : Store},Ext (fun _ => False) σ' σ₁ → Ss (cx w mg mb h₀ stk) (lrF d) ℓ σ₁ (lrBody 7) (fun r _ σ' => Φ (retv r) σ') := by
    intro e σ₁ E₁
    rw [e,List.append_nil] at φ
    exact lr_end S L (E.trans E₁ fun _ h => h.elim) zf (hf.mono E₁) (hs.mono (E.trans E₁ fun _ h => h.elim)) hm (by omega) φ
  refine Jb (Jj (Qy ?_))
  refine Jf (Jl (by rfl) L.saved (Jz (Yk ⟨_,rfl,?_⟩)))
  cases s with
  | none =>
    obtain rfl : sva = .none := hs
    exact Jc (skip rfl .refl)
  | some s =>
    have hs' := hs
    obtain ⟨sl,st,ses,rfl,h1,h2,h3,h4⟩ := hs.mono E
    obtain ⟨nds,hzs,oks⟩ := hok s rfl
    have n0 : ∀ {σ₁ : Store},Ext (fun _ => False) σ' σ₁ → σ₁ sl = some (.list (strsA s.deps)) := fun E => E.get h1 id
    refine Jf (Jp (Jl (by rfl) L.saved (Ji (Jo (v := .ref sl) (fun _ _ => rfl) (by decide) (by decide) (by rfl) ?_))))
    refine J6 ⟨by simp,fun b1 hb1 => Zq (ss := s.deps) (ts := []) (.inl (Store.set_old h1 hb1)) (.inl (Store.set_same _ _ _)) oks (by simp) ⟨_,rfl,?_⟩⟩
    have E₁ : Ext (fun _ => False) σ' (σ'.set b1 (.list [])) := Ext.refl.alloc hb1
    generalize σ'.set b1 (.list []) = σ₁ at E₁
    by_cases he : s.deps = []
    · rw [show (!decide (s.deps = [])) = false by simp [he]]
      exact Jc (skip (by unfold othOf; simp only [he,true_or,if_true]) E₁)
    rw [show (!decide (s.deps = [])) = true by simp [he]]
    refine Jf (Ju (Jt (by rfl) (by kernel_rfl) Yp ⟨_,rfl,cok,Jp (Jl (by rfl) L.saved (Ji (Jo (v := .ref sl) (fun _ _ => rfl) (by decide) (by decide) (by rfl) (Zi (.inl (n0 E₁)) (by omega) fun a2 A2 ha2 hp2 hs2 => ?_))))⟩))
    obtain rfl := Y5 hp2 hs2
    have E₂ := E₁.alloc ha2 (o := .list (strsA (srt s.deps)))
    have h2a := Store.set_same σ₁ a2 (.list (strsA (srt s.deps)))
    generalize σ₁.set a2 (.list (strsA (srt s.deps))) = σ₂ at E₂ h2a
    have dl₂ : σ₂ dl = some (.list (strsA ds)) := E₂.get (E.get S.dl id) id
    refine Ju (Jt (by rfl) (by kernel_rfl) Yp ⟨_,rfl,cok,Jl (by rfl) L.deps (Zi (.inl dl₂) (by have := S.zd; omega) fun a3 A3 ha3 hp3 hs3 => ?_)⟩)
    obtain rfl := Y5 hp3 hs3
    have E₃ := E₂.alloc ha3 (o := .list (strsA (srt ds)))
    have h3a := Store.set_same σ₂ a3 (.list (strsA (srt ds)))
    have h2b := Store.set_old (o := .list (strsA (srt ds))) h2a ha3
    generalize σ₂.set a3 (.list (strsA (srt ds))) = σ₃ at E₃ h3a h2b
    clear E₁ E₂ h2a ha2 ha3 hp2 hs2 hp3 hs3 hb1 dl₂
    refine Zq (ss := srt s.deps) (ts := srt ds) (.inl h2b) (.inl h3a) (fun p hp => oks p (srt_mem.mp hp)) (fun p hp => S.okd p (srt_mem.mp hp)) ⟨_,rfl,?_⟩
    by_cases hsm : sameSet s.deps ds = true
    · rw [show (!decide (srt s.deps = srt ds)) = false by rw [decide_eq_true ((srt_eq_iff nds nd).mpr hsm)]; rfl]
      exact Jc (skip (by unfold othOf; simp only [hsm,or_true,if_true]) E₃)
    rw [show (!decide (srt s.deps = srt ds)) = true by rw [decide_eq_false (fun h => hsm ((srt_eq_iff nds nd).mp h))]; rfl]
    have ho : othOf ds (some s) = [.oth (srt (minus ds s.deps)) (srt (minus s.deps ds))] := by unfold othOf; simp only [he,hsm]; simp
    have dl₃ : σ₃ dl = some (.list (strsA ds)) := E₃.get (E.get S.dl id) id
    refine Jb (J0 (Jk (Ja (by rfl) L.found ⟨_,Qd (.inl (E₃.get hf.fl id)) PySem.F.slot_list_append PySem.F.type_list_append,cok,Jq (Jg (Jq ?_))⟩)))
    refine Ju (Jt (by rfl) (by kernel_rfl) Yp ⟨_,rfl,cok,Yz rfl (Qh (by kernel_rfl)) (J1 (Jl (by rfl) L.deps ⟨dl,strsA ds,rfl,.inl dl₃,Jx _ _ _,gq fun p => !s.deps.any (· == p),by have := S.zd; simp; omega,fun σ' le => .inl ((le _ (by rw [dl₃]; simp)).trans dl₃),fun v hv σ' hle => ?_,fun a4 ha4 => ?_⟩))⟩)
    · obtain ⟨p,hp,rfl⟩ := List.mem_map.mp hv
      have h1' : σ' sl = some (.list (strsA s.deps)) := (hle sl (by rw [n0 E₃]; simp)).trans (n0 E₃)
      refine Je (by rfl) ⟨rfl,fun x u h => ?_,?_⟩
      · rw [Locs.set_ne]
        · exact h
        · rintro rfl; cases h
      · refine Jf (Ja (by rfl) (by rfl) (Jp (Jl (by rfl) L.saved (Ji (Jo (v := .ref sl) (fun _ _ => rfl) (by decide) (by decide) (by rfl) (Qj (.inl h1') ⟨_,rfl,?_⟩))))))
        cases hz' : (!s.deps.any (· == p)) with
        | true => exact ⟨rfl,Ja (by rfl) (by rfl) ⟨rfl,gq_t hz'⟩⟩
        | false => exact ⟨rfl,gq_f hz'⟩
    rw [Hx,show ds.filter (fun p => !s.deps.any (· == p)) = minus ds s.deps from rfl]
    refine Zi (ss := minus ds s.deps) (.inl (Store.set_same _ _ _)) (Nat.lt_of_le_of_lt (List.length_filter_le _ _) (by have := S.zd; omega)) fun a5 A5 ha5 hp5 hs5 => ?_
    obtain rfl := Y5 hp5 hs5
    have E₅ := (E₃.alloc ha4 (o := .list (strsA (minus ds s.deps)))).alloc ha5 (o := .list (strsA (srt (minus ds s.deps))))
    have h5a := Store.set_same (σ₃.set a4 (.list (strsA (minus ds s.deps)))) a5 (.list (strsA (srt (minus ds s.deps))))
    generalize (σ₃.set a4 (.list (strsA (minus ds s.deps)))).set a5 (.list (strsA (srt (minus ds s.deps)))) = σ₅ at E₅ h5a
    have dl₅ : σ₅ dl = some (.list (strsA ds)) := E₅.get (E.get S.dl id) id
    refine Ju (Jt (by rfl) (by kernel_rfl) Yp ⟨_,rfl,cok,Yz rfl (Qh (by kernel_rfl)) (J1 (Jp (Jl (by rfl) L.saved (Ji (Jo (v := .ref sl) (fun _ _ => rfl) (by decide) (by decide) (by rfl) ⟨sl,strsA s.deps,rfl,.inl (n0 E₅),Jx _ _ _,gq fun p => !ds.any (· == p),by simp; omega,fun σ' le => .inl ((le _ (by rw [n0 E₅]; simp)).trans (n0 E₅)),fun v hv σ' hle => ?_,fun a6 ha6 => ?_⟩)))))⟩)
    · obtain ⟨p,hp,rfl⟩ := List.mem_map.mp hv
      have h1' : σ' dl = some (.list (strsA ds)) := (hle dl (by rw [dl₅]; simp)).trans dl₅
      refine Je (by rfl) ⟨rfl,fun x u h => ?_,?_⟩
      · rw [Locs.set_ne]
        · exact h
        · rintro rfl; cases h
      · refine Jf (Ja (by rfl) (by rfl) (Jl (by rfl) L.deps (Qj (.inl h1') ⟨_,rfl,?_⟩)))
        cases hz' : (!ds.any (· == p)) with
        | true => exact ⟨rfl,Ja (by rfl) (by rfl) ⟨rfl,gq_t hz'⟩⟩
        | false => exact ⟨rfl,gq_f hz'⟩
    rw [Hx,show s.deps.filter (fun p => !ds.any (· == p)) = minus s.deps ds from rfl]
    refine Zi (ss := minus s.deps ds) (.inl (Store.set_same _ _ _)) (Nat.lt_of_le_of_lt (List.length_filter_le _ _) (by omega)) fun a7 A7 ha7 hp7 hs7 => ?_
    obtain rfl := Y5 hp7 hs7
    have E₇ := (E₅.alloc ha6 (o := .list (strsA (minus s.deps ds)))).alloc ha7 (o := .list (strsA (srt (minus s.deps ds))))
    have h7a := Store.set_same (σ₅.set a6 (.list (strsA (minus s.deps ds)))) a7 (.list (strsA (srt (minus s.deps ds))))
    have h5b : ((σ₅.set a6 (.list (strsA (minus s.deps ds)))).set a7 (.list (strsA (srt (minus s.deps ds))))) a5 = _ := Store.set_old (Store.set_old h5a ha6) ha7
    generalize (σ₅.set a6 (.list (strsA (minus s.deps ds)))).set a7 (.list (strsA (srt (minus s.deps ds)))) = σ₇ at E₇ h7a h5b
    have hf₇ := E₇.get hf.fl id
    have zf' : σ' fl ≠ none := by rw [hf.fl]; simp
    have n5 : a5 ≠ fl := by rintro rfl; exact zf' ((E₃.alloc ha4 (o := .list (strsA (minus ds s.deps)))).back ha5)
    have n7 : a7 ≠ fl := by rintro rfl; exact zf' ((E₅.alloc ha6 (o := .list (strsA (minus s.deps ds)))).back ha7)
    refine ⟨by simp,by simp,Qe hf₇ (by simp; omega) ?_⟩
    rw [ho] at φ
    have E₈ := (E.trans E₇ fun _ h => h.elim).new (a := fl) (o := .list (fs.map (fiA l1 l2) ++ [.tup [.str "other_file_dep",.tup [.ref a5,.ref a7]]])) zf
    refine Jc (lr_end (l1 := a5) (l2 := a7) (fs := fs ++ [.oth (srt (minus ds s.deps)) (srt (minus s.deps ds))]) S L E₈ zf ⟨?_,fun x y hxy => ?_⟩ (hs'.mono E₈) hm (by simp; omega) φ)
    · rw [Store.set_same,List.map_append,fiA_no hno (l1 := a5) (l2 := a7) (k1 := l1) (k2 := l2)]; rfl
    · rcases List.mem_append.mp hxy with h | h
      · exact absurd (List.any_eq_false.mp hno _ h) (by simp [isOth])
      · rw [List.mem_singleton] at h
        cases h
        exact ⟨(Store.set_ne n5).trans h5b,(Store.set_ne n7).trans h7a⟩
end

noncomputable def gn : AV → Option AV
  | .none => none
  | v => some v
theorem gn_ubs (us : List (Option Bool)) : (us.map utV).filterMap gn = ubs us := by
  induction us with
  | nil => rfl
  | cons u r ih =>
    cases u with
    | none => rw [List.map_cons,List.filterMap_cons_none rfl,ih]; rfl
    | some b => rw [List.map_cons,List.filterMap_cons_some (f := gn) (b := AV.bool b) rfl,ih]; rfl
theorem ubs_bools (us : List (Option Bool)) : ∃ bs : List Bool,ubs us = bs.map AV.bool ∧ bs.length ≤ us.length := by
  induction us with
  | nil => exact ⟨[],rfl,Nat.le_refl _⟩
  | cons u r ih =>
    obtain ⟨bs,h,hl⟩ := ih
    cases u with
    | none => exact ⟨bs,by rw [show ubs (none :: r) = ubs r from rfl]; exact h,by simp; omega⟩
    | some b => exact ⟨b :: bs,by rw [show ubs (some b :: r) = .bool b :: ubs r from rfl,h]; rfl,by simp; omega⟩
theorem dt_bools {c : Cx} {σ : Store} : ∀ bs : List Bool,DtAll c σ (bs.map AV.bool) (bs.map PyData.bool)
  | [] => .nil
  | b :: r => .cons (.bool b) (dt_bools r)
theorem shaped_bools (bs : List Bool) : SeqAt.shaped (.list (bs.map .bool)) = true := by
  have h1 : ∀ bs : List Bool,PyData.canLayAll0 (bs.map PyData.bool) = true := by
    intro bs; induction bs with
    | nil => rfl
    | cons b r ih => simp [PyData.canLayAll0,PyData.canLay0,ih]
  have h2 : ∀ bs : List Bool,PyData.depthAll (bs.map PyData.bool) = 0 := by
    intro bs; induction bs with
    | nil => rfl
    | cons b r ih => simp [PyData.depthAll,PyData.depth,ih]
  simp [SeqAt.shaped,PyData.canLay0,PyData.depth,h1,h2]
section
variable {w : World} {mg mb : Str → Option Value} {h₀ : Heap} {stk : List Env} {σ σ' : Store} {d : Nat} {hf : Bool} {m : Bool} {dl tl ul aw fl l1 l2 : Addr} {wes : Es} {W : Str → Option We} {ds ts : List Str} {us : List (Option Bool)} {fs : List Fi} {sva : AV} {s : Option Sav} {ℓ : Locs} {Φ : AV → Store → Prop} {cc : Cx}
structure SavOk (s : Option Sav) : Prop where
  ok : ∀ s',s = some s' → s'.deps.Nodup ∧ s'.deps.length ≤ 60 ∧ ∀ p ∈ s'.deps,PyData.strOk p = true
theorem lr_chk (S : LrS h₀ σ dl tl ul aw wes W ds ts us) (L : LrL ℓ m dl tl ul aw fl sva) (E : Ext (fun _ => False) σ σ') (zf : σ fl = none) (hf : FoundAt σ' fl l1 l2 fs) (hs : SavedAt σ sva s) (hz : fs.length ≤ 280) (hno : fs.any isOth = false)
    (nd : ds.Nodup) (hok : SavOk s)
    (φ : LrPost σ (fs ++ chkOf m s ++ othOf ds (effOf m s) ++ (ds.filter (missQ W)).map .miss ++ (chgOf m W ds s).map .chg) Φ) : Ss (cx w mg mb h₀ stk) (lrF d) ℓ σ' (lrBody 5) (fun r _ σ' => Φ (retv r) σ') := by
  refine Jb (Jj (Qy ?_))
  refine Jf (Jl (by rfl) L.saved (Jz (Yk ⟨_,rfl,?_⟩)))
  cases s with
  | none =>
    obtain rfl : sva = .none := hs
    rw [show chkOf m none = [] from rfl,List.append_nil] at φ
    exact Jc (lr_oth (s := none) S L E zf hf rfl (fun _ h => by cases h) (by omega) hno nd (fun _ h => by cases h) φ)
  | some s =>
    have hs' := hs
    obtain ⟨sl,st,ses,rfl,h1,h2,h3,h4⟩ := hs.mono E
    refine Jf (Jp (Jl (by rfl) L.saved (Ji (Jo (v := .str (cnm s.m)) (fun _ _ => rfl) (by decide) (by decide) (by rfl) (Ja (by rfl) L.cn (Ye ⟨_,rfl,?_⟩))))))
    by_cases hm : s.m = m
    · rw [show (cnm s.m != cnm m) = false by rw [hm]; simp]
      have e1 : chkOf m (some s) = [] := by unfold chkOf; simp only [hm,if_true]
      have e2 : effOf m (some s) = some s := by unfold effOf; simp only [Option.bind_some,hm,if_true]
      rw [e1,List.append_nil,e2] at φ
      unfold chgOf at φ
      rw [e2] at φ
      exact Jc (lr_oth S L E zf hf hs' (fun _ h => by cases h; exact hm) (by omega) hno nd hok.ok φ)
    · have hcn : cnm s.m ≠ cnm m := by
        revert hm; generalize s.m = a; generalize m = b
        cases a <;> cases b <;> simp <;> decide
      rw [show (cnm s.m != cnm m) = true by simp [hcn]]
      have e1 : chkOf m (some s) = [.chk (cnm s.m) (cnm m)] := by unfold chkOf; simp only [hm,if_false]
      have e2 : effOf m (some s) = none := by unfold effOf; simp only [Option.bind_some,hm,if_false]
      refine Jb (J0 (Jk (Ja (by rfl) L.found ⟨_,Qd (.inl hf.fl) PySem.F.slot_list_append PySem.F.type_list_append,cok,Jq (Jg (Jq (Jp (Jl (by rfl) L.saved (Ji (Jo (v := .str (cnm s.m)) (fun _ _ => rfl) (by decide) (by decide) (by rfl) (Ja (by rfl) L.cn ⟨by simp,by simp,Qe hf.fl (by simp; omega) ?_⟩)))))))⟩)))
      refine Jb (Jd (Jz (Hw (by rfl) (by rfl) ?_)))
      rw [e1,e2] at φ
      unfold chgOf at φ
      rw [e2] at φ
      refine Jc (lr_oth (l1 := l1) (l2 := l2) (s := none) (fs := fs ++ [Fi.chk (cnm s.m) (cnm m)]) S L.none (E.new zf) zf (hf.push (f := Fi.chk (cnm s.m) (cnm m)) rfl) rfl (fun _ h => by cases h) (by simp; omega) (by simp [hno,isOth]) nd (fun _ h => by cases h) φ)
theorem lr_tgt (S : LrS h₀ σ dl tl ul aw wes W ds ts us) (L : LrL ℓ m dl tl ul aw fl sva) (E : Ext (fun _ => False) σ σ') (zf : σ fl = none) (hf : FoundAt σ' fl l1 l2 fs) (hs : SavedAt σ sva s) (hz : fs.length ≤ 200) (hno : fs.any isOth = false)
    (nd : ds.Nodup) (hok : SavOk s)
    (φ : LrPost σ (fs ++ (ts.filter (missQ W)).map .tgt ++ chkOf m s ++ othOf ds (effOf m s) ++ (ds.filter (missQ W)).map .miss ++ (chgOf m W ds s).map .chg) Φ) : Ss (cx w mg mb h₀ stk) (lrF d) ℓ σ' (lrBody 4) (fun r _ σ' => Φ (retv r) σ') := by
  have bd : ∀ (f : Str → Bool) (i : Nat),((ts.take i).filter f).length ≤ 60 := fun f i => Nat.le_trans (List.length_filter_le _ _) (Nat.le_trans (List.length_take_le' _ _) S.zt)
  refine Jb (Qu rfl (J1 (Ja (by rfl) L.targets ⟨tl,strsA ts,rfl,.inl (E.get S.tl id),Jx _ _ _,
    fun i ℓ σ₂ => LrL ℓ m dl tl ul aw fl sva ∧ Ext (fun _ => False) σ σ₂ ∧ FoundAt σ₂ fl l1 l2 (fs ++ ((ts.take i).filter (missQ W)).map .tgt),
    ⟨L,E,by rw [List.take_zero]; simpa using hf⟩,fun _ _ _ h => .inl (h.2.1.get S.tl id),?_,?_⟩)))
  · rintro i v ℓ σ₂ hv ⟨L,E,hf⟩
    obtain ⟨p,rfl,hp⟩ := Yo hv
    have tk := Ze (f := missQ W) hp
    have b1 := bd (missQ W) i
    refine Je (by rfl) ?_
    replace L := L.set (x := "path") (v := .str p) (by decide)
    refine Jb (Jj (Jf (Ja (by rfl) (by rfl) (Ja (by rfl) L.world (Q7 (E.get S.aw id) ⟨_,rfl,?_⟩)))))
    rw [S.wd.has p]
    cases hWp : W p with
    | some e =>
      refine Jc (Jc ⟨L,E,?_⟩)
      rw [tk,if_neg (by unfold missQ; rw [hWp]; simp),List.append_nil]; exact hf
    | none =>
      refine Jb (J0 (Jk (Ja (by rfl) L.found ⟨_,Qd (.inl hf.fl) PySem.F.slot_list_append PySem.F.type_list_append,cok,Jq (Jg (Ja (by rfl) (by rfl) ⟨by simp,Qe hf.fl (by simp; omega) ?_⟩))⟩)))
      refine Jc (Jc ⟨L,E.new zf,?_⟩)
      rw [tk,if_pos (by unfold missQ; rw [hWp]; rfl)]
      have := hf.push (f := .tgt p) rfl
      rw [show fs ++ ((ts.take i).filter (missQ W)).map Fi.tgt ++ [Fi.tgt p] = fs ++ ((ts.take i).filter (missQ W) ++ [p]).map .tgt by simp] at this
      exact this
  · rintro ℓ σ₂ ⟨L,E,hf⟩
    rw [show (strsA ts).length = ts.length by simp,List.take_length] at hf
    have b0 := bd (missQ W) ts.length
    rw [List.take_length] at b0
    refine lr_chk S L E zf hf hs (by simp; omega) ?_ nd hok φ
    rw [List.any_append,hno,List.any_map]
    simp [List.any_eq_false,isOth]
theorem lr_no (S : LrS h₀ σ dl tl ul aw wes W ds ts us) (L : LrL ℓ m dl tl ul aw fl sva) (E : Ext (fun _ => False) σ σ') (zf : σ fl = none) (hf : FoundAt σ' fl l1 l2 fs) (hs : SavedAt σ sva s) (hz : fs.length ≤ 190) (hno : fs.any isOth = false)
    (nd : ds.Nodup) (hok : SavOk s)
    (φ : LrPost σ (fs ++ (if noDep us ds = true then [.no] else []) ++ (ts.filter (missQ W)).map .tgt ++ chkOf m s ++ othOf ds (effOf m s) ++ (ds.filter (missQ W)).map .miss ++ (chgOf m W ds s).map .chg) Φ) : Ss (cx w mg mb h₀ stk) (lrF d) ℓ σ' (lrBody 3) (fun r _ σ' => Φ (retv r) σ') := by
  have skip : noDep us ds = false → ∀ {σ₁ : Store},Ext (fun _ => False) σ' σ₁ → Ss (cx w mg mb h₀ stk) (lrF d) ℓ σ₁ (lrBody 4) (fun r _ σ' => Φ (retv r) σ') := by
    intro e σ₁ E₁
    rw [if_neg (by rw [e]; simp),List.append_nil] at φ
    exact lr_tgt S L (E.trans E₁ fun _ h => h.elim) zf (hf.mono E₁) hs (by omega) hno nd hok φ
  refine Jb (Jj (Qy ?_))
  refine Jf (Jl (by rfl) L.deps ?_)
  have dl' : σ' dl = some (.list (strsA ds)) := E.get S.dl id
  refine J6 ⟨by simp,fun b1 hb1 => op_eq_strs (ss := ds) (ts := []) (.inl (Store.set_old dl' hb1)) (.inl (Store.set_same _ _ _)) S.okd (by simp) ⟨_,rfl,?_⟩⟩
  have E₁ : Ext (fun _ => False) σ' (σ'.set b1 (.list [])) := Ext.refl.alloc hb1
  generalize σ'.set b1 (.list []) = σ₁ at E₁
  by_cases hd : ds = []
  · rw [show decide (ds = []) = true by simp [hd]]
    have hub := ubs_len us
    have hzu := S.zu
    refine Jf (Yz rfl (Qh (by kernel_rfl)) (J1 (Ja (by rfl) L.upto ⟨ul,us.map utV,rfl,S.ul.is,Jx _ _ _,gn,by simp; omega,fun _ _ => S.ul.is,fun v hv σ' hle => ?_,fun a2 ha2 => ?_⟩)))
    · obtain ⟨u,hu,rfl⟩ := List.mem_map.mp hv
      refine Je (by rfl) ⟨rfl,fun x u h => ?_,?_⟩
      · rw [Locs.set_ne]
        · exact h
        · rintro rfl; cases h
      · refine Jf (Ja (by rfl) (by rfl) (Jz (Yk ⟨_,rfl,?_⟩)))
        cases u with
        | none => exact ⟨rfl,rfl⟩
        | some b => exact ⟨rfl,Ja (by rfl) (by rfl) ⟨rfl,rfl⟩⟩
    rw [gn_ubs]
    obtain ⟨bs,hbs,hbl⟩ := ubs_bools us
    have hub2 := ubs_empty us
    rw [hbs] at hub2 ⊢
    refine J6 ⟨by simp,fun b2 hb2 => op_eq_data (da := .list (bs.map .bool)) (db := .list []) (.list (.inl (Store.set_old (Store.set_same _ _ _) hb2)) (dt_bools bs)) (.list (.inl (Store.set_same _ _ _)) .nil) (shaped_bools bs) rfl ⟨_,rfl,?_⟩⟩
    have E₂ : Ext (fun _ => False) σ' ((σ₁.set a2 (.list (bs.map .bool))).set b2 (.list [])) := (E₁.alloc ha2).alloc hb2
    generalize (σ₁.set a2 (.list (bs.map .bool))).set b2 (.list []) = σ₂ at E₂
    have nde : noDep us ds = (bs.map AV.bool).isEmpty := by unfold noDep; rw [hub2,hd]; rfl
    cases bs with
    | cons b r => exact Jc (skip nde E₂)
    | nil =>
      have nde' : noDep us ds = true := nde
      rw [if_pos nde'] at φ
      have hf₂ := hf.mono E₂
      refine Jb (J0 (Jk (Ja (by rfl) L.found ⟨_,Qd (.inl hf₂.fl) PySem.F.slot_list_append PySem.F.type_list_append,cok,Jq (Jg (Qw ⟨by simp,Qe hf₂.fl (by simp; omega) ?_⟩))⟩)))
      exact Jc (lr_tgt (l1 := l1) (l2 := l2) (fs := fs ++ [Fi.no]) S L ((E.trans E₂ fun _ h => h.elim).new zf) zf (hf₂.push (f := Fi.no) rfl) hs (by simp; omega) (by simp [hno,isOth]) nd hok φ)
  · rw [show decide (ds = []) = false by simp [hd]]
    exact Jc (skip (by unfold noDep; cases ds with | nil => exact absurd rfl hd | cons _ _ => rfl) E₁)
end

section
variable {w : World} {mg mb : Str → Option Value} {h₀ : Heap} {stk : List Env} {σ σ' : Store} {d : Nat} {hf : Bool} {m : Bool} {dl tl ul aw fl l1 l2 : Addr} {wes : Es} {W : Str → Option We} {ds ts : List Str} {us : List (Option Bool)} {fs : List Fi} {sva : AV} {s : Option Sav} {ℓ : Locs} {Φ : AV → Store → Prop} {cc : Cx}
theorem law_reasons (S : LrS h₀ σ dl tl ul aw wes W ds ts us) (hs : SavedAt σ sva s) (nd : ds.Nodup) (hok : SavOk s) (φ : LrPost σ (found m us ds ts W s) Φ) :
    Ca (cx w mg mb h₀ stk) (d + 2) true σ (.val (.ref Q4)) [.tup [.ref dl,.ref tl,.ref ul],sva,.ref aw,.str (cnm m)] [] Φ := by
  refine J3 (isD__law_reasons w.params) (ab := [("parts",.tup [.ref dl,.ref tl,.ref ul]),("saved",sva),("world",.ref aw),("checker_name",.str (cnm m))]) (bin4 fun _ _ _ _ _ => BindsTo.of_eq rfl) (by kernel_rfl) fun stk' => ?_
  refine Jb (Jd (Ja (by rfl) (by rfl) (Qk rfl (vs := [.ref dl,.ref tl,.ref ul]) (by rfl) (Hw (by rfl) (by rfl) (Je (by rfl) (Je (by rfl) ?_))))))
  refine Jb (Jd (J6 ⟨by simp,fun fl zf => Je (by rfl) ?_⟩))
  have L0 : LrL (((((bindA [("parts",.tup [.ref dl,.ref tl,.ref ul]),("saved",sva),("world",.ref aw),("checker_name",.str (cnm m))] fun _ => none).set "deps" (.ref dl)).set "targets" (.ref tl)).set "uptodate" (.ref ul)).set "found" (.ref fl)) m dl tl ul aw fl sva := ⟨by rfl,by rfl,by rfl,by rfl,by rfl,by rfl,by rfl⟩
  have hzu := S.zu
  refine Jb (Qu rfl (J1 (Ja (by rfl) L0.upto ⟨ul,us.map utV,rfl,S.ul.is,Jx _ _ _,
    fun i ℓ σ₂ => LrL ℓ m dl tl ul aw fl sva ∧ Ext (fun _ => False) σ σ₂ ∧ FoundAt σ₂ fl 0 0 (List.replicate (nFalse (us.take i)) .up),
    ⟨L0,Ext.refl.alloc zf,⟨by rw [List.take_zero]; exact Store.set_same _ _ _,fun x y h => by rw [List.take_zero] at h; cases h⟩⟩,fun _ _ _ _ => S.ul.is,?_,?_⟩)))
  · rintro i v ℓ σ₂ hv ⟨L,E,hf⟩
    obtain ⟨u,rfl,hu⟩ := map_at hv
    have sn := nFalse_step hu
    have hnl : nFalse (us.take i) ≤ 60 := by
      unfold nFalse
      exact Nat.le_trans (List.length_filter_le _ _) (Nat.le_trans (List.length_take_le' _ _) hzu)
    refine Je (by rfl) ?_
    replace L := L.set (x := "one") (v := utV u) (by decide)
    refine Jb (Jj (Jf (Ja (by rfl) (by rfl) (Qw (op_is_false (utV_plain u) ⟨_,rfl,?_⟩)))))
    by_cases h : u = some false
    · subst h
      refine Jb (J0 (Jk (Ja (by rfl) L.found ⟨_,Qd (.inl hf.fl) PySem.F.slot_list_append PySem.F.type_list_append,cok,Jq (Jg (Jq (Qw (Jz (Jz ⟨by simp,by simp,Qe hf.fl (by simp; omega) ?_⟩)))))⟩)))
      refine Jc (Jc ⟨L,E.new zf,?_⟩)
      rw [sn,if_pos rfl,List.replicate_succ']
      exact hf.push (f := Fi.up) rfl
    · have e : isFalse (utV u) = false := by
        cases u with
        | none => rfl
        | some b => cases b with
          | true => rfl
          | false => exact absurd rfl h
      rw [e]
      refine Jc (Jc ⟨L,E,?_⟩)
      rw [sn,if_neg h]; exact hf
  · rintro ℓ σ₂ ⟨L,E,hf⟩
    rw [show (us.map utV).length = us.length by simp,List.take_length] at hf
    refine lr_no S L E zf hf hs ?_ ?_ nd hok φ
    · rw [List.length_replicate]
      unfold nFalse
      exact Nat.le_trans (List.length_filter_le _ _) (by omega)
    · rw [List.any_eq_false]
      intro x hx
      rw [List.eq_of_mem_replicate hx]
      simp [isOth]
end

noncomputable abbrev Dl := List (Str × PyData)
noncomputable def hasD (D : Dl) (k : Str) : Bool := D.any fun kv => decide (kv.1 = k)
noncomputable def getD1 (D : Dl) (k : Str) : Option PyData := (D.find? fun kv => decide (kv.1 = k)).map (·.2)
noncomputable def putD (D : Dl) (k : Str) (x : PyData) : Dl := if hasD D k = true then D.map (fun kv => if kv.1 = k then (kv.1,x) else kv) else D ++ [(k,x)]
noncomputable def addD (D : Dl) (k : Str) (x : PyData) : Dl := match getD1 D k with
  | some (.list xs) => putD D k (.list (xs ++ [x]))
  | _ => putD D k (.list [x])
noncomputable def stepD (D : Dl) : Fi → Dl
  | .up => addD D "uptodate_false" upD
  | .no => putD D "has_no_dependencies" (.bool true)
  | .tgt p => addD D "missing_target" (.str p)
  | .chk a b => putD D "checker_changed" (.tuple [.str a,.str b])
  | .oth x y => putD (putD D "added_file_dep" (.list (strD x))) "removed_file_dep" (.list (strD y))
  | .miss p => addD D "missing_file_dep" (.str p)
  | .chg p => addD D "changed_file_dep" (.str p)
noncomputable def foldD (fs : List Fi) : Dl := fs.foldl stepD []
theorem DtKv.hasD {c : Cx} {σ : Store} {k : Str} : ∀ {es : Es} {D : Dl},DtKv c σ es D → es.has k = hasD D k
  | _,_,.nil => rfl
  | _,_,.cons _ r => by
    have := r.hasD (k := k)
    unfold Es.has Mine.hasD at this ⊢
    rw [List.any_cons,List.any_cons,this]
theorem DtKv.map {c : Cx} {σ : Store} {k : Str} {v : AV} {x : PyData} (d : Dt c σ v x) : ∀ {es : Es} {D : Dl},DtKv c σ es D → DtKv c σ (es.map fun kv => if kv.1 = k then (kv.1,v) else kv) (D.map fun kv => if kv.1 = k then (kv.1,x) else kv)
  | _,_,.nil => .nil
  | _,_,.cons (k := k') a r => by
    rw [List.map_cons,List.map_cons]
    by_cases e : k' = k
    · simp only [e,if_true]; exact .cons d (r.map d)
    · simp only [e,if_false]; exact .cons a (r.map d)
theorem DtKv.put {c : Cx} {σ : Store} {es : Es} {D : Dl} {k : Str} {v : AV} {x : PyData} (h : DtKv c σ es D) (d : Dt c σ v x) : DtKv c σ (es.put k v) (putD D k x) := by
  unfold Es.put putD
  rw [h.hasD]
  split
  · exact h.map d
  · exact h.append (.cons d .nil)
theorem DtKv.at {c : Cx} {σ : Store} {k : Str} {v : AV} : ∀ {es : Es} {D : Dl},DtKv c σ es D → es.get k = some v → ∃ x,getD1 D k = some x ∧ Dt c σ v x
  | _,_,.nil,e => by cases e
  | _,_,.cons (k := k') a r,e => by
    unfold Es.get at e
    unfold getD1
    rw [List.find?_cons] at e ⊢
    by_cases q : k' = k
    · simp only [q,decide_true,Option.map_some,Option.some.injEq] at e ⊢
      subst e; exact ⟨_,rfl,a⟩
    · simp only [q,decide_false] at e ⊢
      exact r.at e
theorem DtKv.miss {c : Cx} {σ : Store} {k : Str} : ∀ {es : Es} {D : Dl},DtKv c σ es D → es.get k = none → getD1 D k = none
  | _,_,.nil,_ => rfl
  | _,_,.cons (k := k') a r,e => by
    unfold Es.get at e
    unfold getD1
    rw [List.find?_cons] at e ⊢
    by_cases q : k' = k
    · simp only [q,decide_true,Option.map_some] at e; cases e
    · simp only [q,decide_false] at e ⊢
      exact r.miss e
noncomputable def words4 : List Str := ["uptodate_false","missing_target","missing_file_dep","changed_file_dep"]
noncomputable def ListW (D : Dl) (n : Nat) : Prop := ∀ k ∈ words4,∀ kv ∈ D,kv.1 = k → ∃ xs,kv.2 = PyData.list xs ∧ xs.length ≤ n
theorem ListW.up {D : Dl} {n : Nat} (h : ListW D n) : ListW D (n + 1) := fun k hk kv hm e => by
  obtain ⟨xs,h1,h2⟩ := h k hk kv hm e
  exact ⟨xs,h1,by omega⟩
theorem ListW.get {D : Dl} {n : Nat} (h : ListW D n) {k : Str} (hk : k ∈ words4) {x : PyData} (e : getD1 D k = some x) : ∃ xs,x = PyData.list xs ∧ xs.length ≤ n := by
  unfold getD1 at e
  cases hf : D.find? (fun kv => decide (kv.1 = k)) with
  | none => rw [hf] at e; cases e
  | some kv =>
    rw [hf] at e; cases e
    have h1 := List.find?_some hf
    exact h k hk kv (List.mem_of_find?_eq_some hf) (by simpa using h1)
theorem ListW.put {D : Dl} {n : Nat} (h : ListW D n) {k : Str} {x : PyData} (hx : k ∈ words4 → ∃ xs,x = PyData.list xs ∧ xs.length ≤ n) : ListW (putD D k x) n := by
  intro k' hk' kv hm e
  unfold putD at hm
  split at hm
  · obtain ⟨kv',hm',rfl⟩ := List.mem_map.mp hm
    by_cases q : kv'.1 = k
    · simp only [q,if_true] at e ⊢
      exact hx (by rw [e]; exact hk')
    · simp only [q,if_false] at e ⊢
      exact h k' hk' kv' hm' e
  · rcases List.mem_append.mp hm with hm | hm
    · exact h k' hk' kv hm e
    · rw [List.mem_singleton] at hm
      subst hm
      exact hx (by rw [show k = k' from e]; exact hk')
theorem DtAll.len {c : Cx} {σ : Store} : ∀ {vs : List AV} {xs : List PyData},DtAll c σ vs xs → vs.length = xs.length
  | _,_,.nil => rfl
  | _,_,.cons _ r => by rw [List.length_cons,List.length_cons,r.len]
theorem DtAll.app {c : Cx} {σ : Store} : ∀ {vs ws : List AV} {xs ys : List PyData},DtAll c σ vs xs → DtAll c σ ws ys → DtAll c σ (vs ++ ws) (xs ++ ys)
  | _,_,_,_,.nil,s => s
  | _,_,_,_,.cons a r,s => .cons a (r.app s)
/-! ## the fold of what was found -/
noncomputable def noKey (D : Dl) (k : Str) : Prop := ∀ kv ∈ D,kv.1 ≠ k
theorem noKey.has {D : Dl} {k : Str} (h : noKey D k) : hasD D k = false := by
  unfold hasD
  rw [List.any_eq_false]
  intro kv hm
  simpa using h kv hm
theorem noKey.get {D : Dl} {k : Str} (h : noKey D k) : getD1 D k = none := by
  unfold getD1
  rw [List.find?_eq_none.mpr fun kv hm => by simpa using h kv hm]
  rfl
theorem noKey.append {D D' : Dl} {k : Str} (h : noKey D k) (h' : noKey D' k) : noKey (D ++ D') k := fun kv hm => by
  rcases List.mem_append.mp hm with hm | hm
  · exact h kv hm
  · exact h' kv hm
theorem put_new {D : Dl} {k : Str} {x : PyData} (h : noKey D k) : putD D k x = D ++ [(k,x)] := by
  unfold putD; rw [h.has]; rfl
theorem put_last {D : Dl} {k : Str} {x y : PyData} (h : noKey D k) : putD (D ++ [(k,x)]) k y = D ++ [(k,y)] := by
  unfold putD
  rw [if_pos (by unfold hasD; simp),List.map_append]
  congr 1
  · have : D.map (fun kv => if kv.1 = k then (kv.1,y) else kv) = D.map id := List.map_congr_left fun kv hm => by rw [if_neg (h kv hm)]; rfl
    rw [this,List.map_id]
  · simp
theorem get_last {D : Dl} {k : Str} {x : PyData} (h : noKey D k) : getD1 (D ++ [(k,x)]) k = some x := by
  unfold getD1
  rw [List.find?_append,List.find?_eq_none.mpr fun kv hm => by simpa using h kv hm]
  simp
theorem fold_more {α : Type} (mk : α → Fi) (k : Str) (dd : α → PyData) (hs : ∀ D a,stepD D (mk a) = addD D k (dd a)) {D : Dl} (h : noKey D k) : ∀ (r : List α) (ys : List PyData),(r.map mk).foldl stepD (D ++ [(k,.list ys)]) = D ++ [(k,.list (ys ++ r.map dd))]
  | [],ys => by simp
  | a :: r,ys => by
    rw [List.map_cons,List.foldl_cons,hs]
    unfold addD
    rw [get_last h]
    simp only
    rw [put_last h,fold_more mk k dd hs h r]
    simp
theorem fold_seg {α : Type} (mk : α → Fi) (k : Str) (dd : α → PyData) (hs : ∀ D a,stepD D (mk a) = addD D k (dd a)) {D : Dl} (h : noKey D k) (xs : List α) : (xs.map mk).foldl stepD D = D ++ segD k (xs.map dd) := by
  cases xs with
  | nil => simp [segD]
  | cons a r =>
    rw [List.map_cons,List.foldl_cons,hs]
    unfold addD
    rw [h.get]
    simp only
    rw [put_new h,fold_more mk k dd hs h r]
    unfold segD
    rw [if_neg (by simp)]
    simp
theorem Qm {k k' : Str} {xs : List PyData} (h : k' ≠ k) : noKey (segD k' xs) k := by
  unfold segD
  split
  · intro kv hm; cases hm
  · intro kv hm
    rw [List.mem_singleton] at hm; subst hm; exact h
theorem Ue {us : List (Option Bool)} {ds : List Str} {k : Str} (h : "has_no_dependencies" ≠ k) : noKey (noD us ds) k := by
  unfold noD
  split
  · intro kv hm
    rw [List.mem_singleton] at hm; subst hm; exact h
  · intro kv hm; cases hm
theorem noKey_chk {m : Bool} {s : Option Sav} {k : Str} (h : "checker_changed" ≠ k) : noKey (chkD m s) k := by
  cases s with
  | none => intro kv hm; cases hm
  | some s =>
    unfold chkD
    simp only
    split
    · intro kv hm; cases hm
    · intro kv hm
      rw [List.mem_singleton] at hm; subst hm; exact h
theorem noKey_oth {ds : List Str} {s : Option Sav} {k : Str} (h : "added_file_dep" ≠ k) (h' : "removed_file_dep" ≠ k) : noKey (othD ds s) k := by
  cases s with
  | none => intro kv hm; cases hm
  | some s =>
    unfold othD
    simp only
    split
    · intro kv hm; cases hm
    · intro kv hm
      rcases List.mem_cons.mp hm with rfl | hm
      · exact h
      · rw [List.mem_singleton] at hm; subst hm; exact h'
theorem fold_found (m : Bool) (us : List (Option Bool)) (ds ts : List Str) (W : Str → Option We) (s : Option Sav) : foldD (found m us ds ts W s) = logOf m us ds ts W s := by
  unfold foldD found logOf
  have nil : ∀ k,noKey [] k := fun k kv hm => by cases hm
  simp only [List.foldl_append]
  have e1 : (List.replicate (nFalse us) Fi.up).foldl stepD [] = segD "uptodate_false" (List.replicate (nFalse us) upD) := by
    have := fold_seg (fun _ : Unit => Fi.up) "uptodate_false" (fun _ => upD) (fun _ _ => rfl) (nil _) (List.replicate (nFalse us) ())
    simpa using this
  rw [e1]
  have e2 : (if noDep us ds = true then [Fi.no] else []).foldl stepD (segD "uptodate_false" (List.replicate (nFalse us) upD)) = segD "uptodate_false" (List.replicate (nFalse us) upD) ++ noD us ds := by
    unfold noD
    split
    · exact put_new (Qm (by decide))
    · simp
  rw [e2]
  have k3 : noKey (segD "uptodate_false" (List.replicate (nFalse us) upD) ++ noD us ds) "missing_target" := (Qm (by decide)).append (Ue (by decide))
  rw [fold_seg Fi.tgt "missing_target" PyData.str (fun _ _ => rfl) k3]
  have e4 : ∀ D,noKey D "checker_changed" → (chkOf m s).foldl stepD D = D ++ chkD m s := by
    intro D hD
    cases s with
    | none => simp [chkOf,chkD]
    | some s =>
      unfold chkOf chkD
      simp only
      split
      · simp
      · exact put_new hD
  rw [e4 _ (((Qm (by decide)).append (Ue (by decide))).append (Qm (by decide)))]
  have e5 : ∀ D,noKey D "added_file_dep" → noKey D "removed_file_dep" → (othOf ds (effOf m s)).foldl stepD D = D ++ othD ds (effOf m s) := by
    intro D h1 h2
    cases effOf m s with
    | none => simp [othOf,othD]
    | some s =>
      unfold othOf othD
      simp only
      split
      · simp
      · show putD (putD D _ _) _ _ = _
        rw [put_new h1,put_new (h2.append (fun kv hm => by rw [List.mem_singleton] at hm; subst hm; show ("added_file_dep" : Str) ≠ "removed_file_dep"; decide))]
        simp [strD]
  rw [e5 _ ((((Qm (by decide)).append (Ue (by decide))).append (Qm (by decide))).append (noKey_chk (by decide))) ((((Qm (by decide)).append (Ue (by decide))).append (Qm (by decide))).append (noKey_chk (by decide)))]
  rw [fold_seg Fi.miss "missing_file_dep" PyData.str (fun _ _ => rfl) (((((Qm (by decide)).append (Ue (by decide))).append (Qm (by decide))).append (noKey_chk (by decide))).append (noKey_oth (by decide) (by decide)))]
  rw [fold_seg Fi.chg "changed_file_dep" PyData.str (fun _ _ => rfl) ((((((Qm (by decide)).append (Ue (by decide))).append (Qm (by decide))).append (noKey_chk (by decide))).append (noKey_oth (by decide) (by decide))).append (Qm (by decide)))]
  rfl

noncomputable def forB : Stmt → List Stmt | .For _ _ b _ _ => b | _ => []
noncomputable def elseB : Stmt → List Stmt | .If _ _ b _ => b | _ => []
section
variable {w : World} {mg mb : Str → Option Value} {h₀ : Heap} {stk : List Env} {σ σ' : Store} {d : Nat} {hf : Bool} {fl l1 l2 : Addr} {fs : List Fi} {ℓ : Locs} {Φ : AV → Store → Prop} {cc : Cx}
theorem ListIs.to {c c' : Cx} {σ : Store} {l : Addr} {vs : List AV} (h : c.h₀ = c'.h₀) (i : ListIs c σ l vs) : ListIs c' σ l vs := by
  unfold ListIs KeepB at i ⊢
  rw [← h]; exact i
theorem law_log (hcc : cc.h₀ = h₀) (hfd : FoundAt σ fl l1 l2 fs) (hz : fs.length ≤ 300) (φ : ∀ σ' lg es,Ext (fun _ => False) σ σ' → σ lg = none → σ' lg = some (.dict es) → DtKv cc σ' es (foldD fs) → Φ (.ref lg) σ') :
    Ca (cx w mg mb h₀ stk) (d + 1) true σ (.val (.ref a_law_log)) [.ref fl] [] Φ := by
  refine J3 (isD__law_log w.params) (ab := [("found",.ref fl)]) (bin1 fun _ _ => BindsTo.of_eq rfl) (by kernel_rfl) fun stk' => ?_
  refine Jb (Jd (Qn fun lg zl => Je (by rfl) ?_))
  refine Jb (Qu rfl (J1 (Ja (by rfl) (by rfl) ⟨fl,fs.map (fiA l1 l2),rfl,.inl (Store.set_old hfd.fl zl),.inr ⟨⟨_,_,_,rfl⟩,fun v hv => by obtain ⟨x,_,rfl⟩ := List.mem_map.mp hv; cases x <;> exact ⟨_,rfl⟩⟩,
    fun i ℓ σ₂ => ℓ "log" = some (.ref lg) ∧ Ext (fun _ => False) σ σ₂ ∧ ∃ es : Es,σ₂ lg = some (.dict es) ∧ DtKv cc σ₂ es (foldD (fs.take i)) ∧ ListW (foldD (fs.take i)) i ∧ List.length es ≤ 2 * i,
    ⟨by rfl,Ext.refl.alloc zl,[],Store.set_same _ _ _,.nil,fun _ _ kv hm => (by cases hm),Nat.le_refl _⟩,fun _ _ _ h => .inl (h.2.1.get hfd.fl id),?_,?_⟩)))
  · rintro i v ℓ σ₂ hv ⟨ll,E,es,hlg,hes,hW,hlen⟩
    obtain ⟨x,rfl,hx⟩ := map_at hv
    have hi : i < fs.length := by
      rcases Nat.lt_or_ge i fs.length with h | h
      · exact h
      · rw [List.getElem?_eq_none h] at hx; cases hx
    have hm : x ∈ fs := List.mem_of_getElem? hx
    have st : foldD (fs.take (i + 1)) = stepD (foldD (fs.take i)) x := by
      unfold foldD
      rw [List.take_add_one,hx,List.foldl_append]; rfl
    have lk : ∀ o,LK σ₂ (σ₂.set lg o) := fun o l vs e => (Store.set_ne (by rintro rfl; rw [hlg] at e; cases e)).trans e
    have fin : ∀ {ℓ' : Locs} {σ₃ : Store} {k : Str} {v : AV} {y : PyData},ℓ' "log" = some (.ref lg) → Ext (fun _ => False) σ σ₃ → σ₃ lg = some (.dict es) → LK σ₂ σ₃ → Dt cc σ₃ v y → stepD (foldD (fs.take i)) x = putD (foldD (fs.take i)) k y → (k ∈ words4 → ∃ xs,y = PyData.list xs ∧ xs.length ≤ i + 1) →
        (fun ℓ σ₂ => ℓ "log" = some (.ref lg) ∧ Ext (fun _ => False) σ σ₂ ∧ ∃ es : Es,σ₂ lg = some (.dict es) ∧ DtKv cc σ₂ es (foldD (fs.take (i + 1))) ∧ ListW (foldD (fs.take (i + 1))) (i + 1) ∧ List.length es ≤ 2 * (i + 1)) ℓ' (σ₃.set lg (.dict (es.put k v))) := by
      intro ℓ' σ₃ k v y ll' E₃ hlg₃ lk₃ hd hst hy
      have lk4 : LK σ₃ (σ₃.set lg (.dict (es.put k v))) := fun l vs e => (Store.set_ne (by rintro rfl; rw [hlg₃] at e; cases e)).trans e
      refine ⟨ll',E₃.new zl,es.put k v,Store.set_same _ _ _,?_,?_,?_⟩
      · rw [st,hst]; exact (hes.mono (lk₃.trans lk4)).put (hd.mono lk4)
      · rw [st,hst]; exact hW.up.put hy
      · have := Es.put_len es k v; omega
    have addc : ∀ {ℓ' : Locs} (wd : Str) (wv : AV) (y : PyData),ℓ' "log" = some (.ref lg) → ℓ' "word" = some (.str wd) → ℓ' "what" = some wv → Dt cc σ₂ wv y → wd ∈ words4 → stepD (foldD (fs.take i)) x = addD (foldD (fs.take i)) wd y →
        Ss ((cx w mg mb h₀ stk).on stk') ⟨(Str.ofString "_law_log") ++ ".<locals>.",Mine.fs [22],some a_law_log,.ref 616,d,true⟩ ℓ' σ₂ (elseB (nth (elseB (nth (forB (nth (subB (fS [22])) 1)) 0)) 0)) (fun r ℓ σ₂ => match r with | .next => ℓ "log" = some (.ref lg) ∧ Ext (fun _ => False) σ σ₂ ∧ ∃ es : Es,σ₂ lg = some (.dict es) ∧ DtKv cc σ₂ es (foldD (fs.take (i + 1))) ∧ ListW (foldD (fs.take (i + 1))) (i + 1) ∧ List.length es ≤ 2 * (i + 1) | _ => False) := by
      intro ℓ' wd wv y ll lw lv hd hwd hst
      cases hg : es.get wd with
      | none =>
        refine Jb (Jd (Qo (Jf (Ja (by rfl) lw (Ja (by rfl) ll (op_in hlg ⟨_,rfl,?_⟩))))))
        rw [show es.has wd = false by rw [Es.has_get,hg]; rfl]
        refine J6 (Ja (by rfl) lv ⟨by simp,fun a ha => Qt (Ja (by rfl) ll (Ja (by rfl) lw (J5 (Store.set_old hlg ha) (by omega) ?_)))⟩)
        have lk1 : LK σ₂ (σ₂.set a (.list [wv])) := fun l vs e => Store.set_old e ha
        refine Jc (fin (k := wd) (v := .ref a) (y := .list [y]) ll (E.alloc ha) (Store.set_old hlg ha) lk1 (.list (.inl (Store.set_same _ _ _)) (.cons (hd.mono lk1) .nil)) ?_ fun _ => ⟨_,rfl,by simp⟩)
        rw [hst]; unfold addD; rw [hes.miss hg]
      | some v0 =>
        obtain ⟨x0,hx0,hd0⟩ := hes.at hg
        obtain ⟨xs,rfl,hxl⟩ := hW.get hwd hx0
        cases hd0 with
        | @list l vs _ il dl =>
          have hvl := dl.len
          refine Jb (Jd (Qo (Jf (Ja (by rfl) lw (Ja (by rfl) ll (op_in hlg ⟨_,rfl,?_⟩))))))
          rw [show es.has wd = true by rw [Es.has_get,hg]; rfl]
          refine J8 (Jp (Ja (by rfl) ll (Ja (by rfl) lw (Qa (fun _ _ => rfl) hlg hg ?_))))
          refine J6 (Ja (by rfl) lv ⟨by simp,fun b hb => op_add_list (vs := vs) (ws := [wv]) ((ListIs.to (c' := (cx w mg mb h₀ stk).on stk') hcc il).imp (fun e => Store.set_old e hb) id) (.inl (Store.set_same _ _ _)) (by simp; omega) fun a ha => Qt (Ja (by rfl) ll (Ja (by rfl) lw (J5 (Store.set_old (Store.set_old hlg hb) ha) (by omega) ?_)))⟩)
          have lk1 : LK σ₂ ((σ₂.set b (.list [wv])).set a (.list (vs ++ [wv]))) := fun l vs e => Store.set_old (Store.set_old e hb) ha
          refine Jc (fin (k := wd) (v := .ref a) (y := .list (xs ++ [y])) ll ((E.alloc hb).alloc ha) (Store.set_old (Store.set_old hlg hb) ha) lk1 (.list (.inl (Store.set_same _ _ _)) ((dl.mono lk1).app (.cons (hd.mono lk1) .nil))) ?_ fun _ => ⟨_,rfl,by simp; omega⟩)
          rw [hst]; unfold addD; rw [hx0]
    cases x with
    | oth X Y =>
      obtain ⟨h1,h2⟩ := hfd.oth X Y hm
      refine Qk rfl (vs := [.str "other_file_dep",.tup [.ref l1,.ref l2]]) (by rfl) (Je (by rfl) (Je (by rfl) ?_))
      refine Jb (Jj (Jf (Ja (by rfl) (by rfl) (Jg (Ql ⟨_,rfl,?_⟩)))))
      refine Jb (Jd (Ja (by rfl) (by rfl) (Qk rfl (vs := [.ref l1,.ref l2]) (by rfl) (Qt (Ja (by rfl) ll (Jg (J5 hlg (by omega) ?_)))))))
      refine Qt (Ja (by rfl) ll (Jg (J5 (Store.set_same _ _ _) (by have := Es.put_len es "added_file_dep" (.ref l1); omega) ?_)))
      have e1 : Dt cc σ₂ (.ref l1) (.list (strD X)) := .list (.inl (E.get h1 id)) (Qp X)
      have e2 : Dt cc σ₂ (.ref l2) (.list (strD Y)) := .list (.inl (E.get h2 id)) (Qp Y)
      refine Jc (Jc ⟨ll,(E.new zl).new zl,_,Store.set_same _ _ _,?_,?_,?_⟩)
      · rw [st]
        have lkk : LK σ₂ ((σ₂.set lg (.dict (es.put "added_file_dep" (.ref l1)))).set lg (.dict ((es.put "added_file_dep" (.ref l1)).put "removed_file_dep" (.ref l2)))) := by
          rw [Store.set_set]; exact lk _
        exact ((hes.mono lkk).put (e1.mono lkk)).put (e2.mono lkk)
      · rw [st]
        exact (hW.up.put fun h => absurd h (by decide)).put fun h => absurd h (by decide)
      · have := Es.put_len es "added_file_dep" (.ref l1)
        have := Es.put_len (es.put "added_file_dep" (.ref l1)) "removed_file_dep" (.ref l2)
        omega
    | no =>
      refine Qk rfl (vs := [.str "has_no_dependencies",.bool true]) (by rfl) (Je (by rfl) (Je (by rfl) ?_))
      refine Jb (Jj (Jf (Ja (by rfl) (by rfl) (Jg (Ql ⟨_,rfl,?_⟩)))))
      refine Jb (Jj (Jf (Ja (by rfl) (by rfl) (Jq (Jg (Jg ⟨by simp,Yu (ss := ["has_no_dependencies","checker_changed"]) (by decide +kernel) (by decide +kernel) ⟨_,rfl,?_⟩⟩))))))
      refine Jb (Jd (Ja (by rfl) (by rfl) (Qt (Ja (by rfl) ll (Ja (by rfl) (by rfl) (J5 hlg (by omega) ?_))))))
      exact Jc (Jc (Jc (fin (k := "has_no_dependencies") (v := .bool true) (y := .bool true) ll E hlg (fun _ _ e => e) (.bool true) rfl fun h => absurd h (by decide))))
    | chk a b =>
      refine Qk rfl (vs := [.str "checker_changed",.tup [.str a,.str b]]) (by rfl) (Je (by rfl) (Je (by rfl) ?_))
      refine Jb (Jj (Jf (Ja (by rfl) (by rfl) (Jg (Ql ⟨_,rfl,?_⟩)))))
      refine Jb (Jj (Jf (Ja (by rfl) (by rfl) (Jq (Jg (Jg ⟨by simp,Yu (ss := ["has_no_dependencies","checker_changed"]) (by decide +kernel) (by decide +kernel) ⟨_,rfl,?_⟩⟩))))))
      refine Jb (Jd (Ja (by rfl) (by rfl) (Qt (Ja (by rfl) ll (Ja (by rfl) (by rfl) (J5 hlg (by omega) ?_))))))
      exact Jc (Jc (Jc (fin (k := "checker_changed") (v := .tup [.str a,.str b]) (y := .tuple [.str a,.str b]) ll E hlg (fun _ _ e => e) (.tup (.cons (.str a) (.cons (.str b) .nil))) rfl fun h => absurd h (by decide))))
    | up =>
      refine Qk rfl (vs := [.str "uptodate_false",.tup [.bool false,.none,.none]]) (by rfl) (Je (by rfl) (Je (by rfl) ?_))
      refine Jb (Jj (Jf (Ja (by rfl) (by rfl) (Jg (Ql ⟨_,rfl,?_⟩)))))
      refine Jb (Jj (Jf (Ja (by rfl) (by rfl) (Jq (Jg (Jg ⟨by simp,Yu (ss := ["has_no_dependencies","checker_changed"]) (by decide +kernel) (by decide +kernel) ⟨_,rfl,?_⟩⟩))))))
      exact (addc (ℓ' := (ℓ.set "word" (.str "uptodate_false")).set "what" (.tup [.bool false,.none,.none])) "uptodate_false" (.tup [.bool false,.none,.none]) upD ll (by rfl) (by rfl) (.tup (.cons (.bool false) (.cons .none (.cons .none .nil)))) (by decide) rfl).mono fun r ℓ' σ' h => by
        cases r with
        | next => exact Jc (Jc h)
        | _ => exact h.elim
    | tgt p =>
      refine Qk rfl (vs := [.str "missing_target",.str p]) (by rfl) (Je (by rfl) (Je (by rfl) ?_))
      refine Jb (Jj (Jf (Ja (by rfl) (by rfl) (Jg (Ql ⟨_,rfl,?_⟩)))))
      refine Jb (Jj (Jf (Ja (by rfl) (by rfl) (Jq (Jg (Jg ⟨by simp,Yu (ss := ["has_no_dependencies","checker_changed"]) (by decide +kernel) (by decide +kernel) ⟨_,rfl,?_⟩⟩))))))
      exact (addc (ℓ' := (ℓ.set "word" (.str "missing_target")).set "what" (.str p)) "missing_target" (.str p) (.str p) ll (by rfl) (by rfl) (.str p) (by decide) rfl).mono fun r ℓ' σ' h => by
        cases r with
        | next => exact Jc (Jc h)
        | _ => exact h.elim
    | miss p =>
      refine Qk rfl (vs := [.str "missing_file_dep",.str p]) (by rfl) (Je (by rfl) (Je (by rfl) ?_))
      refine Jb (Jj (Jf (Ja (by rfl) (by rfl) (Jg (Ql ⟨_,rfl,?_⟩)))))
      refine Jb (Jj (Jf (Ja (by rfl) (by rfl) (Jq (Jg (Jg ⟨by simp,Yu (ss := ["has_no_dependencies","checker_changed"]) (by decide +kernel) (by decide +kernel) ⟨_,rfl,?_⟩⟩))))))
      exact (addc (ℓ' := (ℓ.set "word" (.str "missing_file_dep")).set "what" (.str p)) "missing_file_dep" (.str p) (.str p) ll (by rfl) (by rfl) (.str p) (by decide) rfl).mono fun r ℓ' σ' h => by
        cases r with
        | next => exact Jc (Jc h)
        | _ => exact h.elim
    | chg p =>
      refine Qk rfl (vs := [.str "changed_file_dep",.str p]) (by rfl) (Je (by rfl) (Je (by rfl) ?_))
      refine Jb (Jj (Jf (Ja (by rfl) (by rfl) (Jg (Ql ⟨_,rfl,?_⟩)))))
      refine Jb (Jj (Jf (Ja (by rfl) (by rfl) (Jq (Jg (Jg ⟨by simp,Yu (ss := ["has_no_dependencies","checker_changed"]) (by decide +kernel) (by decide +kernel) ⟨_,rfl,?_⟩⟩))))))
      exact (addc (ℓ' := (ℓ.set "word" (.str "changed_file_dep")).set "what" (.str p)) "changed_file_dep" (.str p) (.str p) ll (by rfl) (by rfl) (.str p) (by decide) rfl).mono fun r ℓ' σ' h => by
        cases r with
        | next => exact Jc (Jc h)
        | _ => exact h.elim
  · rintro ℓ σ₂ ⟨ll,E,es,hlg,hes,_,_⟩
    rw [show (fs.map (fiA l1 l2)).length = fs.length by simp,List.take_length] at hes
    exact Jb (Jm (Ja (by rfl) ll (φ σ₂ lg es E zl hlg hes)))
end

noncomputable def hasW (fs : List Fi) (x : Str) : Bool := (fs.map Fi.word).any (· == x)
noncomputable def chgP : Fi → Option Str
  | .chg p => some p
  | _ => none
noncomputable def chgs (fs : List Fi) : List Str := fs.filterMap chgP
noncomputable def firstOf (fs : List Fi) (ds : List Str) : Str × List Str :=
  if (hasW fs "uptodate_false" || hasW fs "has_no_dependencies") = true then ("run",[])
  else if (hasW fs "missing_target" || hasW fs "checker_changed") = true then ("run",ds)
  else if hasW fs "missing_file_dep" = true then ("error",[])
  else (if fs = [] then "up-to-date" else "run",chgs fs)
noncomputable def g0 : AV → Option AV
  | .tup (v :: _) => some v
  | _ => none
theorem g0_words (l1 l2 : Addr) (fs : List Fi) : (fs.map (fiA l1 l2)).filterMap g0 = strsA (fs.map Fi.word) := by
  induction fs with
  | nil => rfl
  | cons x r ih =>
    rw [List.map_cons,List.filterMap_cons_some (f := g0) (b := .str x.word) (by cases x <;> rfl),ih]; rfl
noncomputable def gc : AV → Option AV
  | .tup [.str w,v] => if (w == ("changed_file_dep" : Str)) = true then some v else none
  | _ => none
theorem gc_chgs (l1 l2 : Addr) (fs : List Fi) : (fs.map (fiA l1 l2)).filterMap gc = strsA (chgs fs) := by
  unfold chgs
  induction fs with
  | nil => rfl
  | cons x r ih =>
    cases x with
    | chg p => rw [List.map_cons,List.filterMap_cons_some (f := gc) (b := .str p) (by rfl),List.filterMap_cons_some (f := chgP) (b := p) rfl,ih]; rfl
    | _ => rw [List.map_cons,List.filterMap_cons_none (f := gc) (by rfl),List.filterMap_cons_none (f := chgP) rfl,ih]
theorem Zl (l1 l2 : Addr) (x : Fi) : ∃ v,fiA l1 l2 x = .tup [.str x.word,v] := by cases x <;> exact ⟨_,rfl⟩
theorem words_ok (fs : List Fi) : ∀ p ∈ fs.map Fi.word,PyData.strOk p = true := by
  intro p hp
  obtain ⟨x,_,rfl⟩ := List.mem_map.mp hp
  cases x with
  | up => exact (by decide +kernel : PyData.strOk ("uptodate_false" : Str) = true)
  | no => exact (by decide +kernel : PyData.strOk ("has_no_dependencies" : Str) = true)
  | tgt p => exact (by decide +kernel : PyData.strOk ("missing_target" : Str) = true)
  | chk a b => exact (by decide +kernel : PyData.strOk ("checker_changed" : Str) = true)
  | oth a b => exact (by decide +kernel : PyData.strOk ("other_file_dep" : Str) = true)
  | miss p => exact (by decide +kernel : PyData.strOk ("missing_file_dep" : Str) = true)
  | chg p => exact (by decide +kernel : PyData.strOk ("changed_file_dep" : Str) = true)
section
variable {w : World} {mg mb : Str → Option Value} {h₀ : Heap} {stk : List Env} {σ σ' : Store} {d : Nat} {hf : Bool} {fl l1 l2 dl tl ul aw : Addr} {fs : List Fi} {ds : List Str} {ℓ : Locs} {Φ : AV → Store → Prop} {cc : Cx}
theorem law_first (hfd : FoundAt σ fl l1 l2 fs) (hdl : σ dl = some (.list (strsA ds))) (hz : fs.length ≤ 300) (φ : ∀ σ' l,Ext (fun _ => False) σ σ' → σ' l = some (.list (strsA (firstOf fs ds).2)) → Φ (.tup [.str (firstOf fs ds).1,.ref l]) σ') :
    Ca (cx w mg mb h₀ stk) (d + 1) true σ (.val (.ref a_law_first)) [.tup [.ref dl,.ref tl,.ref ul],.ref fl] [] Φ := by
  refine J3 (isD__law_first w.params) (ab := [("parts",.tup [.ref dl,.ref tl,.ref ul]),("found",.ref fl)]) (bin2 fun _ _ _ => BindsTo.of_eq rfl) (by kernel_rfl) fun stk' => ?_
  refine Jb (Jd (Jp (Ja (by rfl) (by rfl) (Ji (Jo (v := .ref dl) (fun _ _ => rfl) (by decide) (by decide) (by rfl) (Je (by rfl) ?_))))))
  refine Jb (Qr rfl (Qh (by kernel_rfl)) (by rfl) (J1 (Ja (by rfl) (by rfl) ⟨fl,fs.map (fiA l1 l2),rfl,.inl hfd.fl,Jx _ _ _,g0,by simp; omega,fun σ' le => .inl ((le _ (by rw [hfd.fl]; simp)).trans hfd.fl),fun v hv σ' hle => ?_,fun wl hwl => ?_⟩)))
  · obtain ⟨x,_,rfl⟩ := List.mem_map.mp hv
    obtain ⟨u,hu⟩ := Zl l1 l2 x
    rw [hu]
    refine Je (by rfl) ⟨rfl,fun y u h => ?_,?_⟩
    · rw [Locs.set_ne]
      · exact h
      · rintro rfl; cases h
    · exact ⟨rfl,Jp (Ja (by rfl) (by rfl) (Ji (Jo (v := .str x.word) (fun _ _ => rfl) (by decide) (by decide) (by rfl) ⟨rfl,rfl⟩)))⟩
  rw [g0_words]
  have E₁ : Ext (fun _ => False) σ (σ.set wl (.list (strsA (fs.map Fi.word)))) := Ext.refl.alloc hwl
  have hw₁ := Store.set_same σ wl (.list (strsA (fs.map Fi.word)))
  generalize σ.set wl (.list (strsA (fs.map Fi.word))) = σ₁ at E₁ hw₁
  have hd₁ := E₁.get hdl id
  have hf₁ := hfd.mono E₁
  refine Jb (Jj (Ug ?_))
  refine Jf (Jg (Ja (by rfl) (by rfl) (Q5 (.inl hw₁) ⟨_,rfl,?_⟩)))
  cases h1 : (fs.map Fi.word).any (· == "uptodate_false") with
  | true =>
    refine Jb (Jm (Jq (Jg (J6 ⟨by simp,fun b hb => ⟨by simp,?_⟩⟩))))
    have e : firstOf fs ds = (("run" : Str),[]) := by unfold firstOf; rw [if_pos (by unfold hasW; rw [h1]; rfl)]
    rw [e] at φ
    exact φ _ b (E₁.alloc hb) (Store.set_same _ _ _)
  | false =>
  refine Jf (Jg (Ja (by rfl) (by rfl) (Q5 (.inl hw₁) ⟨_,rfl,?_⟩)))
  cases h2 : (fs.map Fi.word).any (· == "has_no_dependencies") with
  | true =>
    refine Jb (Jm (Jq (Jg (J6 ⟨by simp,fun b hb => ⟨by simp,?_⟩⟩))))
    have e : firstOf fs ds = (("run" : Str),[]) := by unfold firstOf; rw [if_pos (by unfold hasW; rw [h1,h2]; rfl)]
    rw [e] at φ
    exact φ _ b (E₁.alloc hb) (Store.set_same _ _ _)
  | false =>
  refine Jc ?_
  have n12 : ¬ (hasW fs "uptodate_false" || hasW fs "has_no_dependencies") = true := by unfold hasW; rw [h1,h2]; simp
  refine Jb (Jj (Ug ?_))
  refine Jf (Jg (Ja (by rfl) (by rfl) (Q5 (.inl hw₁) ⟨_,rfl,?_⟩)))
  cases h3 : (fs.map Fi.word).any (· == "missing_target") with
  | true =>
    have e : firstOf fs ds = (("run" : Str),ds) := by unfold firstOf; rw [if_neg n12,if_pos (by unfold hasW; rw [h3]; rfl)]
    rw [e] at φ
    exact Jb (Jm (Jq (Jg (Ja (by rfl) (by rfl) ⟨by simp,φ _ dl E₁ hd₁⟩))))
  | false =>
  refine Jf (Jg (Ja (by rfl) (by rfl) (Q5 (.inl hw₁) ⟨_,rfl,?_⟩)))
  cases h4 : (fs.map Fi.word).any (· == "checker_changed") with
  | true =>
    have e : firstOf fs ds = (("run" : Str),ds) := by unfold firstOf; rw [if_neg n12,if_pos (by unfold hasW; rw [h3,h4]; rfl)]
    rw [e] at φ
    exact Jb (Jm (Jq (Jg (Ja (by rfl) (by rfl) ⟨by simp,φ _ dl E₁ hd₁⟩))))
  | false =>
  refine Jc ?_
  have n34 : ¬ (hasW fs "missing_target" || hasW fs "checker_changed") = true := by unfold hasW; rw [h3,h4]; simp
  refine Jb (Jj (Jf (Jg (Ja (by rfl) (by rfl) (Q5 (.inl hw₁) ⟨_,rfl,?_⟩)))))
  cases h5 : (fs.map Fi.word).any (· == "missing_file_dep") with
  | true =>
    refine Jb (Jm (Jq (Jg (J6 ⟨by simp,fun b hb => ⟨by simp,?_⟩⟩))))
    have e : firstOf fs ds = (("error" : Str),[]) := by unfold firstOf; rw [if_neg n12,if_neg n34,if_pos (by unfold hasW; rw [h5])]
    rw [e] at φ
    exact φ _ b (E₁.alloc hb) (Store.set_same _ _ _)
  | false =>
  refine Jc ?_
  have e : firstOf fs ds = ((if fs = [] then ("up-to-date" : Str) else ("run" : Str)),chgs fs) := by unfold firstOf; rw [if_neg n12,if_neg n34,if_neg (by unfold hasW; rw [h5]; simp)]
  rw [e] at φ
  refine Jb (Jm (Jq (Qo (Jf (Ja (by rfl) (by rfl) (J6 ⟨by simp,fun b hb => Zq (ss := fs.map Fi.word) (ts := []) (.inl (Store.set_old hw₁ hb)) (.inl (Store.set_same _ _ _)) (words_ok fs) (by simp) ⟨_,rfl,?_⟩⟩))))))
  have E₂ := E₁.alloc hb (o := .list [])
  generalize σ₁.set b (.list []) = σ₂ at E₂
  have hf₂ := hfd.mono E₂
  have comp : ∀ {s : Str},s = (if fs = [] then ("up-to-date" : Str) else ("run" : Str)) → ∀ a2,σ₂ a2 = none → Φ (.tup [.str s,.ref a2]) (σ₂.set a2 (.list (strsA (chgs fs)))) := fun h a2 ha2 => by
    rw [h]; exact φ _ a2 (E₂.alloc ha2) (Store.set_same _ _ _)
  by_cases he : fs = []
  · rw [show (!decide (fs.map Fi.word = [])) = false by simp [he]]
    refine Jg (Yz rfl (Qh (by kernel_rfl)) (J1 (Ja (by rfl) (by rfl) ⟨fl,fs.map (fiA l1 l2),rfl,.inl hf₂.fl,.inr ⟨⟨_,_,_,rfl⟩,fun v hv => by obtain ⟨x,_,rfl⟩ := List.mem_map.mp hv; obtain ⟨u,hu⟩ := Zl l1 l2 x; exact ⟨_,hu⟩⟩,gc,by simp; omega,fun σ' le => .inl ((le _ (by rw [hf₂.fl]; simp)).trans hf₂.fl),fun v hv σ' hle => ?_,fun a2 ha2 => ?_⟩)))
    · obtain ⟨x,hx,_⟩ := List.mem_map.mp hv
      rw [he] at hx; cases hx
    · rw [gc_chgs]; exact ⟨by simp,comp (by rw [if_pos he]) a2 ha2⟩
  · rw [show (!decide (fs.map Fi.word = [])) = true by simp [he]]
    refine Jg (Yz rfl (Qh (by kernel_rfl)) (J1 (Ja (by rfl) (by rfl) ⟨fl,fs.map (fiA l1 l2),rfl,.inl hf₂.fl,.inr ⟨⟨_,_,_,rfl⟩,fun v hv => by obtain ⟨x,_,rfl⟩ := List.mem_map.mp hv; obtain ⟨u,hu⟩ := Zl l1 l2 x; exact ⟨_,hu⟩⟩,gc,by simp; omega,fun σ' le => .inl ((le _ (by rw [hf₂.fl]; simp)).trans hf₂.fl),fun v hv σ' hle => ?_,fun a2 ha2 => ?_⟩)))
    · obtain ⟨x,hx,rfl⟩ := List.mem_map.mp hv
      obtain ⟨u,hu⟩ := Zl l1 l2 x
      rw [hu]
      refine Qk rfl (vs := [.str x.word,u]) (by rfl) (Je (by rfl) (Je (by rfl) ⟨rfl,fun y u h => ?_,?_⟩))
      · rw [Locs.set_ne,Locs.set_ne]
        · exact h
        · rintro rfl; cases h
        · rintro rfl; cases h
      · refine Jf (Ja (by rfl) (by rfl) (Jg (Ql ⟨_,rfl,?_⟩)))
        cases hz' : (x.word == ("changed_file_dep" : Str)) with
        | true => exact ⟨rfl,Ja (by rfl) (by rfl) ⟨rfl,by show (if (x.word == ("changed_file_dep" : Str)) = true then some u else none) = _; rw [hz']; rfl⟩⟩
        | false => exact ⟨rfl,by show (if (x.word == ("changed_file_dep" : Str)) = true then some u else none) = _; rw [hz']; rfl⟩
    · rw [gc_chgs]; exact ⟨by simp,comp (by rw [if_neg he]) a2 ha2⟩
end

noncomputable def newSt (m : Bool) (W : Str → Option We) (s : Option Sav) (ds : List Str) (p : Str) : Option We := if p ∈ ds then upS m W (stOf s) p else stOf s p
noncomputable def nOf (s : Option Sav) : Nat := (s.map Sav.n).getD 0
section
variable {w : World} {mg mb : Str → Option Value} {h₀ : Heap} {stk : List Env} {σ σ' : Store} {d : Nat} {hf : Bool} {m : Bool} {dl tl ul aw : Addr} {wes : Es} {W : Str → Option We} {ds : List Str} {sva : AV} {s : Option Sav} {ℓ : Locs} {Φ : AV → Store → Prop} {cc : Cx}
theorem law_saved (hs : SavedAt σ sva s) (hm : ∀ s',s = some s' → s'.m = m) (hn : nOf s ≤ 400) (hdl : σ dl = some (.list (strsA ds))) (nd : ds.Nodup) (zd : ds.length ≤ 60) (haw : σ aw = some (.dict wes)) (wd : Wd wes W) (al : ∀ p ∈ ds,(W p).isSome = true)
    (φ : ∀ σ' sl st,Ext (fun _ => False) σ σ' → SavedAt σ' (.tup [.str (cnm m),.ref sl,.ref st]) (some ⟨m,ds,newSt m W s ds,nOf s + ds.length⟩) → σ sl = none → σ st = none → Φ (.tup [.str (cnm m),.ref sl,.ref st]) σ') :
    Ca (cx w mg mb h₀ stk) (d + 1) true σ (.val (.ref Ge)) [sva,.ref dl,.ref aw,.str (cnm m)] [] Φ := by
  refine J3 (isD__law_saved w.params) (ab := [("saved",sva),("deps",.ref dl),("world",.ref aw),("checker_name",.str (cnm m))]) (bin4 fun _ _ _ _ _ => BindsTo.of_eq rfl) (by kernel_rfl) fun stk' => ?_
  have go : ∀ (st : Addr) (ses : Es) (ℓ : Locs),σ st = none → ℓ "deps" = some (.ref dl) → ℓ "world" = some (.ref aw) → ℓ "checker_name" = some (.str (cnm m)) → ℓ "states" = some (.ref st) → List.length ses ≤ nOf s → (∀ p,ses.get p = (stOf s p).map (sv m)) →
      Ss ((cx w mg mb h₀ stk).on stk') ⟨(Str.ofString "_law_saved") ++ ".<locals>.",Mine.fs [24],some Ge,.ref 628,d,true⟩ ℓ (σ.set st (.dict ses)) (Mine.tl (subB (fS [24]))) (fun r _ σ' => Φ (retv r) σ') := by
    intro st ses ℓ zst l1 l2 l3 l4 hlen hses
    have ndl : ∀ o,(σ.set st o) dl = some (.list (strsA ds)) := fun o => Store.set_old hdl zst
    have naw : ∀ o,(σ.set st o) aw = some (.dict wes) := fun o => Store.set_old haw zst
    refine Jb (Qu rfl (J1 (Ja (by rfl) l1 ⟨dl,strsA ds,rfl,.inl (ndl _),Jx _ _ _,
      fun i ℓ σ₂ => ℓ "deps" = some (.ref dl) ∧ ℓ "world" = some (.ref aw) ∧ ℓ "checker_name" = some (.str (cnm m)) ∧ ℓ "states" = some (.ref st) ∧ ∃ se : Es,σ₂ = σ.set st (.dict se) ∧ List.length se ≤ nOf s + i ∧ ∀ p,se.get p = (newSt m W s (ds.take i) p).map (sv m),
      ⟨l1,l2,l3,l4,ses,rfl,by omega,fun p => by rw [hses p,List.take_zero]; unfold newSt; rw [if_neg (by simp)]⟩,fun _ _ _ h => by obtain ⟨_,_,_,_,se,rfl,_⟩ := h; exact .inl (ndl _),?_,?_⟩)))
    · rintro i v ℓ _ hv ⟨l1,l2,l3,l4,se,rfl,hlen,hse⟩
      obtain ⟨p,rfl,hp⟩ := Yo hv
      have hi : i < ds.length := by
        rcases Nat.lt_or_ge i ds.length with h | h
        · exact h
        · rw [List.getElem?_eq_none h] at hp; cases hp
      have hm' : p ∈ ds := List.mem_of_getElem? hp
      have hnt : p ∉ ds.take i := V5 nd hp
      obtain ⟨e,he⟩ := Option.isSome_iff_exists.mp (al p hm')
      have hwp : wes.get p = some (.tup [.int e.ts,.int e.sz,.str e.tx]) := by rw [wd p,he]; rfl
      have cur : se.get p = (stOf s p).map (sv m) := by rw [hse p]; unfold newSt; rw [if_neg hnt]
      have hst : (σ.set st (.dict se)) st = some (.dict se) := Store.set_same _ _ _
      have stepP : ∀ q,newSt m W s (ds.take (i + 1)) q = if q = p then upS m W (stOf s) p else newSt m W s (ds.take i) q := fun q => by
        unfold newSt
        rw [List.take_add_one,hp]
        by_cases hq : q = p
        · subst hq; simp
        · simp [hq]
      have up : ∀ {ℓ' : Locs},ℓ' "deps" = some (.ref dl) → ℓ' "world" = some (.ref aw) → ℓ' "checker_name" = some (.str (cnm m)) → ℓ' "states" = some (.ref st) → upS m W (stOf s) p = some e →
          (fun ℓ σ₂ => ℓ "deps" = some (.ref dl) ∧ ℓ "world" = some (.ref aw) ∧ ℓ "checker_name" = some (.str (cnm m)) ∧ ℓ "states" = some (.ref st) ∧ ∃ se : Es,σ₂ = σ.set st (.dict se) ∧ List.length se ≤ nOf s + (i + 1) ∧ ∀ p,se.get p = (newSt m W s (ds.take (i + 1)) p).map (sv m)) ℓ' ((σ.set st (.dict se)).set st (.dict (se.put p (sv m e)))) := fun a1 a2 a3 a4 hu => by
        refine ⟨a1,a2,a3,a4,_,Store.set_set,by have := Es.put_len se p (sv m e); omega,fun q => ?_⟩
        rw [Es.get_put,stepP]
        split
        · rw [hu]; rfl
        · exact hse q
      refine Je (by rfl) ?_
      refine Jb (Jj (Jf (Ja (by rfl) l3 (Jg (Ql ⟨_,rfl,?_⟩)))))
      cases m with
      | false =>
        rw [show (cnm false == ("TimestampChecker" : Str)) = true by rfl]
        refine Jb (Jd (Jp (Jp (Ja (by rfl) l2 (Ja (by rfl) (by rfl) (Qa (fun _ _ => rfl) (naw _) hwp (Ji (Jo (v := .int e.ts) (fun _ _ => rfl) (by decide) (by decide) (by rfl) (Qt (Ja (by rfl) l4 (Ja (by rfl) (by rfl) (J5 hst (by omega) ?_))))))))))))
        exact Jc (Jc (up l1 l2 l3 l4 (by unfold upS; rw [he]; simp)))
      | true =>
        rw [show (cnm true == ("TimestampChecker" : Str)) = false by rfl]
        refine Jb (Jj (Ug ?_))
        refine Jf (Ja (by rfl) (by rfl) (Ja (by rfl) l4 (Q7 hst ⟨_,rfl,?_⟩)))
        rw [Es.has_get,cur]
        cases hS : stOf s p with
        | none =>
          refine Jb (Jd (Jp (Ja (by rfl) l2 (Ja (by rfl) (by rfl) (Qa (fun _ _ => rfl) (naw _) hwp (Qt (Ja (by rfl) l4 (Ja (by rfl) (by rfl) (J5 hst (by omega) ?_)))))))))
          exact Jc (Jc (Jc (up l1 l2 l3 l4 (by unfold upS; rw [he,hS]; simp))))
        | some s' =>
          have cur' : se.get p = some (.tup [.int s'.ts,.int s'.sz,.str s'.tx]) := by rw [cur,hS]; rfl
          refine Jf (Jp (Jp (Ja (by rfl) l4 (Ja (by rfl) (by rfl) (Qa (fun _ _ => rfl) hst cur' (Ji (Jo (v := .int s'.ts) (fun _ _ => rfl) (by decide) (by decide) (by rfl) ?_)))))))
          refine Jp (Jp (Ja (by rfl) l2 (Ja (by rfl) (by rfl) (Qa (fun _ _ => rfl) (naw _) hwp (Ji (Jo (v := .int e.ts) (fun _ _ => rfl) (by decide) (by decide) (by rfl) (Yd ⟨_,rfl,?_⟩)))))))
          by_cases hts : s'.ts = e.ts
          · rw [show (s'.ts != e.ts) = false by simp [hts]]
            refine Jc (Jc (Jc ⟨l1,l2,l3,l4,se,rfl,by omega,fun q => ?_⟩))
            rw [stepP,hse q]
            split
            · rename_i hq
              subst hq
              have : upS true W (stOf s) q = some s' := by unfold upS; rw [he,hS]; simp [hts]
              rw [this]; unfold newSt; rw [if_neg hnt,hS]
            · rfl
          · rw [show (s'.ts != e.ts) = true by simp [hts]]
            refine Jb (Jd (Jp (Ja (by rfl) l2 (Ja (by rfl) (by rfl) (Qa (fun _ _ => rfl) (naw _) hwp (Qt (Ja (by rfl) l4 (Ja (by rfl) (by rfl) (J5 hst (by omega) ?_)))))))))
            exact Jc (Jc (Jc (up l1 l2 l3 l4 (by unfold upS; rw [he,hS]; simp [hts]))))
    · rintro ℓ _ ⟨l1,l2,l3,l4,se,rfl,hlen,hse⟩
      rw [show (strsA ds).length = ds.length by simp] at hlen hse
      rw [List.take_length] at hse
      refine Jb (Jm (Jq (Ja (by rfl) l3 (Ju (Jt (by rfl) (by kernel_rfl) Zj ⟨_,rfl,Q8,Ja (by rfl) l1 (cw_list (.inl (ndl _)) (by simp; omega) fun sl hsl => Ja (by rfl) l4 ⟨by simp,?_⟩)⟩)))))
      exact φ _ sl st ((Ext.refl.alloc zst).alloc hsl) ⟨sl,st,se,rfl,Store.set_same _ _ _,Store.set_old (Store.set_same _ _ _) hsl,hlen,hse⟩ ((Ext.refl (F := fun _ => False) |>.alloc zst (o := .dict se)).back hsl) zst
  refine Jb (Jd (Qo (Jf (Ja (by rfl) (by rfl) (Jz (Qv ⟨_,rfl,?_⟩))))))
  cases s with
  | none =>
    obtain rfl : sva = .none := hs
    exact Qn fun st hst => Je (by rfl) (go st [] _ hst (by rfl) (by rfl) (by rfl) (by rfl) (Nat.zero_le _) fun _ => rfl)
  | some s' =>
    obtain ⟨sl,st,ses,rfl,h1,h2,h3,h4⟩ := hs
    refine Ju (Jt (by rfl) (by kernel_rfl) glob_dict ⟨_,rfl,Q8,Jp (Ja (by rfl) (by rfl) (Ji (Jo (v := .ref st) (fun _ _ => rfl) (by decide) (by decide) (by rfl) (cw_dict_copy h2 (by have : nOf (some s') = s'.n := rfl; omega) fun st' hst' => Je (by rfl) ?_))))⟩)
    exact go st' ses _ hst' (by rfl) (by rfl) (by rfl) (by rfl) h3 fun p => by rw [h4 p,hm s' rfl]; rfl
end

theorem hasW_app (a b : List Fi) (x : Str) : hasW (a ++ b) x = (hasW a x || hasW b x) := by
  unfold hasW; rw [List.map_append,List.any_append]
theorem hasW_map {α : Type} (mk : α → Fi) (wd : Str) (h : ∀ a,(mk a).word = wd) (l : List α) (x : Str) : hasW (l.map mk) x = (!l.isEmpty && wd == x) := by
  unfold hasW
  induction l with
  | nil => rfl
  | cons a r ih =>
    rw [List.map_cons,List.map_cons,List.any_cons,ih,h]
    cases r <;> simp
theorem hasW_up (n : Nat) (x : Str) : hasW (List.replicate n .up) x = (decide (n ≠ 0) && ("uptodate_false" : Str) == x) := by
  have := hasW_map (fun _ : Unit => Fi.up) "uptodate_false" (fun _ => rfl) (List.replicate n ()) x
  rw [List.map_replicate] at this
  rw [this]
  cases n <;> simp [List.replicate_succ]
theorem hasW_no (b : Bool) (x : Str) : hasW (if b = true then [.no] else []) x = (b && ("has_no_dependencies" : Str) == x) := by
  cases b <;> simp [hasW,Fi.word]
theorem hasW_chk (m : Bool) (s : Option Sav) (x : Str) : hasW (chkOf m s) x = (!(chkOf m s).isEmpty && ("checker_changed" : Str) == x) := by
  cases s with
  | none => rfl
  | some s => unfold chkOf; simp only; split <;> simp [hasW,Fi.word]
theorem hasW_oth (ds : List Str) (s : Option Sav) (x : Str) : hasW (othOf ds s) x = (!(othOf ds s).isEmpty && ("other_file_dep" : Str) == x) := by
  cases s with
  | none => rfl
  | some s => unfold othOf; simp only; split <;> simp [hasW,Fi.word]
section
variable (m : Bool) (us : List (Option Bool)) (ds ts : List Str) (W : Str → Option We) (s : Option Sav)
theorem Y6 (x : Str) : hasW (found m us ds ts W s) x = ((decide (nFalse us ≠ 0) && ("uptodate_false" : Str) == x) || (noDep us ds && ("has_no_dependencies" : Str) == x) || (!(ts.filter (missQ W)).isEmpty && ("missing_target" : Str) == x) || (!(chkOf m s).isEmpty && ("checker_changed" : Str) == x) ||
    (!(othOf ds (effOf m s)).isEmpty && ("other_file_dep" : Str) == x) || (!(ds.filter (missQ W)).isEmpty && ("missing_file_dep" : Str) == x) || (!(chgOf m W ds s).isEmpty && ("changed_file_dep" : Str) == x)) := by
  unfold found
  simp only [hasW_app,hasW_up,hasW_no,hasW_chk,hasW_oth,hasW_map Fi.tgt "missing_target" (fun _ => rfl),hasW_map Fi.miss "missing_file_dep" (fun _ => rfl),hasW_map Fi.chg "changed_file_dep" (fun _ => rfl)]
theorem w_up : hasW (found m us ds ts W s) "uptodate_false" = decide (nFalse us ≠ 0) := by
  rw [Y6,show (("uptodate_false" : Str) == "uptodate_false") = true by decide,show (("has_no_dependencies" : Str) == "uptodate_false") = false by decide,show (("missing_target" : Str) == "uptodate_false") = false by decide,show (("checker_changed" : Str) == "uptodate_false") = false by decide,show (("other_file_dep" : Str) == "uptodate_false") = false by decide,show (("missing_file_dep" : Str) == "uptodate_false") = false by decide,show (("changed_file_dep" : Str) == "uptodate_false") = false by decide]
  simp only [Bool.and_false,Bool.and_true,Bool.or_false,Bool.false_or]
theorem w_no : hasW (found m us ds ts W s) "has_no_dependencies" = noDep us ds := by
  rw [Y6,show (("uptodate_false" : Str) == "has_no_dependencies") = false by decide,show (("has_no_dependencies" : Str) == "has_no_dependencies") = true by decide,show (("missing_target" : Str) == "has_no_dependencies") = false by decide,show (("checker_changed" : Str) == "has_no_dependencies") = false by decide,show (("other_file_dep" : Str) == "has_no_dependencies") = false by decide,show (("missing_file_dep" : Str) == "has_no_dependencies") = false by decide,show (("changed_file_dep" : Str) == "has_no_dependencies") = false by decide]
  simp only [Bool.and_false,Bool.and_true,Bool.or_false,Bool.false_or]
theorem w_tgt : hasW (found m us ds ts W s) "missing_target" = !(ts.filter (missQ W)).isEmpty := by
  rw [Y6,show (("uptodate_false" : Str) == "missing_target") = false by decide,show (("has_no_dependencies" : Str) == "missing_target") = false by decide,show (("missing_target" : Str) == "missing_target") = true by decide,show (("checker_changed" : Str) == "missing_target") = false by decide,show (("other_file_dep" : Str) == "missing_target") = false by decide,show (("missing_file_dep" : Str) == "missing_target") = false by decide,show (("changed_file_dep" : Str) == "missing_target") = false by decide]
  simp only [Bool.and_false,Bool.and_true,Bool.or_false,Bool.false_or]
theorem w_chk : hasW (found m us ds ts W s) "checker_changed" = !(chkOf m s).isEmpty := by
  rw [Y6,show (("uptodate_false" : Str) == "checker_changed") = false by decide,show (("has_no_dependencies" : Str) == "checker_changed") = false by decide,show (("missing_target" : Str) == "checker_changed") = false by decide,show (("checker_changed" : Str) == "checker_changed") = true by decide,show (("other_file_dep" : Str) == "checker_changed") = false by decide,show (("missing_file_dep" : Str) == "checker_changed") = false by decide,show (("changed_file_dep" : Str) == "checker_changed") = false by decide]
  simp only [Bool.and_false,Bool.and_true,Bool.or_false,Bool.false_or]
theorem w_miss : hasW (found m us ds ts W s) "missing_file_dep" = !(ds.filter (missQ W)).isEmpty := by
  rw [Y6,show (("uptodate_false" : Str) == "missing_file_dep") = false by decide,show (("has_no_dependencies" : Str) == "missing_file_dep") = false by decide,show (("missing_target" : Str) == "missing_file_dep") = false by decide,show (("checker_changed" : Str) == "missing_file_dep") = false by decide,show (("other_file_dep" : Str) == "missing_file_dep") = false by decide,show (("missing_file_dep" : Str) == "missing_file_dep") = true by decide,show (("changed_file_dep" : Str) == "missing_file_dep") = false by decide]
  simp only [Bool.and_false,Bool.and_true,Bool.or_false,Bool.false_or]
theorem w_chg : hasW (found m us ds ts W s) "changed_file_dep" = !(chgOf m W ds s).isEmpty := by
  rw [Y6,show (("uptodate_false" : Str) == "changed_file_dep") = false by decide,show (("has_no_dependencies" : Str) == "changed_file_dep") = false by decide,show (("missing_target" : Str) == "changed_file_dep") = false by decide,show (("checker_changed" : Str) == "changed_file_dep") = false by decide,show (("other_file_dep" : Str) == "changed_file_dep") = false by decide,show (("missing_file_dep" : Str) == "changed_file_dep") = false by decide,show (("changed_file_dep" : Str) == "changed_file_dep") = true by decide]
  simp only [Bool.and_false,Bool.and_true,Bool.or_false,Bool.false_or]
theorem chgs_none {α : Type} (mk : α → Fi) (h : ∀ a,chgP (mk a) = none) (l : List α) : (l.map mk).filterMap chgP = [] := by
  induction l with
  | nil => rfl
  | cons a r ih => rw [List.map_cons,List.filterMap_cons_none (h a),ih]
theorem chgs_found : chgs (found m us ds ts W s) = chgOf m W ds s := by
  unfold chgs found
  have e1 : (List.replicate (nFalse us) Fi.up).filterMap chgP = [] := by
    have := chgs_none (fun _ : Unit => Fi.up) (fun _ => rfl) (List.replicate (nFalse us) ())
    rwa [List.map_replicate] at this
  have e2 : (if noDep us ds = true then [Fi.no] else []).filterMap chgP = [] := by split <;> rfl
  have e4 : (chkOf m s).filterMap chgP = [] := by
    cases s with
    | none => rfl
    | some s => unfold chkOf; simp only; split <;> rfl
  have e5 : (othOf ds (effOf m s)).filterMap chgP = [] := by
    cases effOf m s with
    | none => rfl
    | some s => unfold othOf; simp only; split <;> rfl
  have e7 : ∀ l : List Str,(l.map Fi.chg).filterMap chgP = l := fun l => by
    induction l with
    | nil => rfl
    | cons a r ih => rw [List.map_cons,List.filterMap_cons_some (f := chgP) (b := a) rfl,ih]
  simp only [List.filterMap_append,e1,e2,e4,e5,chgs_none Fi.tgt (fun _ => rfl),chgs_none Fi.miss (fun _ => rfl),e7,List.nil_append]
theorem found_nil : (found m us ds ts W s = []) ↔ (nFalse us = 0 ∧ noDep us ds = false ∧ ts.filter (missQ W) = [] ∧ chkOf m s = [] ∧ othOf ds (effOf m s) = []) ∧ ds.filter (missQ W) = [] ∧ chgOf m W ds s = [] := by
  unfold found
  simp only [List.append_eq_nil_iff,List.map_eq_nil_iff,List.replicate_eq_nil_iff]
  have : ((if noDep us ds = true then [Fi.no] else []) = []) ↔ noDep us ds = false := by cases noDep us ds <;> simp
  rw [this]
  constructor
  · rintro ⟨⟨⟨⟨⟨⟨a,b⟩,c⟩,d⟩,e⟩,f⟩,g⟩; exact ⟨⟨a,b,c,d,e⟩,f,g⟩
  · rintro ⟨⟨a,b,c,d,e⟩,f,g⟩; exact ⟨⟨⟨⟨⟨⟨a,b⟩,c⟩,d⟩,e⟩,f⟩,g⟩
/-- without the log: what it tells is what the law tells -/
theorem first_out : firstOf (found m us ds ts W s) ds = (outOf false m us ds ts W s).1 := by
  unfold firstOf outOf
  rw [w_up,w_no,w_tgt,w_chk,w_miss,chgs_found]
  by_cases a : nFalse us = 0
  · by_cases b : noDep us ds = true
    · simp [a,b]
    · have b' : noDep us ds = false := by simpa using b
      by_cases c : ts.filter (missQ W) = []
      · by_cases d : chkOf m s = []
        · simp only [a,b',c,d,List.isEmpty_nil]
          unfold tailOf
          by_cases f : ds.filter (missQ W) = []
          · have hf := found_nil m us ds ts W s
            unfold stHead
            by_cases g : chgOf m W ds s = []
            · by_cases e : othOf ds (effOf m s) = []
              · simp [f,g,e,a,b',c,d,hf]
              · simp [f,g,e,a,b',c,d,hf]
            · simp [f,g,hf]
          · have f' : (ds.filter (missQ W)).isEmpty = false := by cases h : ds.filter (missQ W) with | nil => exact absurd h f | cons _ _ => rfl
            simp [f,f']
        · have d' : (chkOf m s).isEmpty = false := by cases h : chkOf m s with | nil => exact absurd h d | cons _ _ => rfl
          simp [a,b',c,d,d']
      · have c' : (ts.filter (missQ W)).isEmpty = false := by cases h : ts.filter (missQ W) with | nil => exact absurd h c | cons _ _ => rfl
        simp [a,b',c,c']
  · simp [a]
theorem err_out0 : (outOf false m us ds ts W s).2.2 = ((outOf false m us ds ts W s).1.1 == ("error" : Str)) := by
  have r : (("run" : Str) == "error") = false := by decide
  have u : (("up-to-date" : Str) == "error") = false := by decide
  have e : (("error" : Str) == "error") = true := by decide
  unfold outOf
  split
  · exact r.symm
  · split
    · exact r.symm
    · split
      · exact r.symm
      · split
        · exact r.symm
        · unfold tailOf
          cases h : ds.filter (missQ W) with
          | nil =>
            rw [if_neg (by simp)]
            by_cases g : chgOf m W ds s = []
            · simp only [g,ne_eq,not_true_eq_false,if_false]
              unfold stHead
              split
              · exact u.symm
              · exact r.symm
            · simp only [g,ne_eq,not_false_eq_true,if_true]
              exact r.symm
          | cons p q =>
            rw [if_pos (by simp)]
            exact e.symm
/-- with the log -/
theorem log_out : (outOf true m us ds ts W s) = (tailOf true (stHead m us ds ts W s) [] (ds.filter (missQ W)) (chgOf m W ds s),!(chkOf m s).isEmpty,!(ds.filter (missQ W)).isEmpty) := by
  unfold outOf; simp
end

noncomputable def allK : List Str := ["uptodate_false","has_no_dependencies","missing_target","checker_changed","added_file_dep","removed_file_dep","missing_file_dep","changed_file_dep"]
theorem seg_sub (k : Str) (xs : List PyData) : ((segD k xs).map (·.1)).Sublist [k] := by
  unfold segD; split
  · exact List.nil_sublist _
  · exact List.Sublist.refl _
section
variable (m : Bool) (us : List (Option Bool)) (ds ts : List Str) (W : Str → Option We) (s : Option Sav)
theorem log_nodup : ((logOf m us ds ts W s).map (·.1)).Nodup := by
  have h : ((logOf m us ds ts W s).map (·.1)).Sublist allK := by
    unfold logOf
    simp only [List.map_append]
    have e : allK = (((((([("uptodate_false" : Str)] ++ [("has_no_dependencies" : Str)]) ++ [("missing_target" : Str)]) ++ [("checker_changed" : Str)]) ++ [("added_file_dep" : Str),("removed_file_dep" : Str)]) ++ [("missing_file_dep" : Str)]) ++ [("changed_file_dep" : Str)]) := rfl
    rw [e]
    refine ((((((seg_sub _ _).append ?_).append (seg_sub _ _)).append ?_).append ?_).append (seg_sub _ _)).append (seg_sub _ _)
    · unfold noD; split
      · exact List.Sublist.refl _
      · exact List.nil_sublist _
    · cases s with
      | none => exact List.nil_sublist _
      | some s => unfold chkD; simp only; split
                  · exact List.nil_sublist _
                  · exact List.Sublist.refl _
    · cases effOf m s with
      | none => exact List.nil_sublist _
      | some s => unfold othD; simp only; split
                  · exact List.nil_sublist _
                  · exact List.Sublist.refl _
  exact h.nodup (by decide)
theorem shaped_upD : ∀ n : Nat,SeqAt.shaped (.list (List.replicate n upD)) = true := by
  intro n
  have h1 : ∀ n : Nat,PyData.canLayAll0 (List.replicate n upD) = true := by
    intro n; induction n with
    | zero => rfl
    | succ n ih => rw [List.replicate_succ]; simp [PyData.canLayAll0,PyData.canLay0,upD] at ih ⊢; exact ih
  have h2 : ∀ n : Nat,PyData.depthAll (List.replicate n upD) ≤ 1 := by
    intro n; induction n with
    | zero => simp [PyData.depthAll]
    | succ n ih => rw [List.replicate_succ]; simp [PyData.depthAll,PyData.depth,upD] at ih ⊢; omega
  have := h2 n
  simp [SeqAt.shaped,PyData.canLay0,PyData.depth,h1]
  omega
theorem log_shaped (hd : ∀ p ∈ ds,PyData.strOk p = true) (ht : ∀ p ∈ ts,PyData.strOk p = true) (hok : SavOk s) : ∀ k x,(k,x) ∈ logOf m us ds ts W s → SeqAt.shaped x = true := by
  intro k x hx
  have seg : ∀ {k' : Str} {l : List Str},(∀ p ∈ l,PyData.strOk p = true) → (k,x) ∈ segD k' (strD l) → SeqAt.shaped x = true := fun hl hm => by
    unfold segD at hm; split at hm
    · cases hm
    · rw [List.mem_singleton] at hm; cases hm; exact Q9 hl
  unfold logOf at hx
  simp only [List.mem_append] at hx
  rcases hx with (((((hx | hx) | hx) | hx) | hx) | hx) | hx
  · unfold segD at hx; split at hx
    · cases hx
    · rw [List.mem_singleton] at hx; cases hx; exact shaped_upD _
  · unfold noD at hx; split at hx
    · rw [List.mem_singleton] at hx; cases hx; rfl
    · cases hx
  · exact seg (fun p hp => ht p (List.mem_filter.mp hp).1) hx
  · cases s with
    | none => cases hx
    | some s =>
      unfold chkD at hx; simp only at hx; split at hx
      · cases hx
      · rw [List.mem_singleton] at hx; cases hx
        generalize s.m = a
        cases a <;> cases m <;> decide +kernel
  · cases h : effOf m s with
    | none => rw [h] at hx; cases hx
    | some s' =>
      rw [h] at hx
      have hs : s = some s' := by
        cases s with
        | none => cases h
        | some s0 => unfold effOf at h; simp only [Option.bind_some] at h; split at h
                     · cases h; rfl
                     · cases h
      obtain ⟨_,_,hos⟩ := hok.ok s' hs
      unfold othD at hx; simp only at hx; split at hx
      · cases hx
      · rcases List.mem_cons.mp hx with hx | hx
        · cases hx; exact Q9 fun p hp => hd p (List.mem_filter.mp (srt_mem.mp hp)).1
        · rw [List.mem_singleton] at hx; cases hx; exact Q9 fun p hp => hos p (List.mem_filter.mp (srt_mem.mp hp)).1
  · exact seg (fun p hp => hd p (List.mem_filter.mp hp).1) hx
  · exact seg (fun p hp => hd p (List.mem_filter.mp hp).1) hx
theorem found_len (h1 : us.length ≤ 60) (h2 : ds.length ≤ 60) (h3 : ts.length ≤ 60) : (found m us ds ts W s).length ≤ 290 := by
  unfold found
  simp only [List.length_append,List.length_map,List.length_replicate]
  have a1 : nFalse us ≤ us.length := List.length_filter_le _ _
  have a2 := List.length_filter_le (missQ W) ts
  have a3 := List.length_filter_le (missQ W) ds
  have a4 : (chgOf m W ds s).length ≤ ds.length := List.length_filter_le _ _
  have a5 : (if noDep us ds = true then [Fi.no] else []).length ≤ 1 := by split <;> simp
  have a6 : (chkOf m s).length ≤ 1 := by
    cases s with
    | none => simp [chkOf]
    | some s => unfold chkOf; simp only; split <;> simp
  have a7 : (othOf ds (effOf m s)).length ≤ 1 := by
    cases effOf m s with
    | none => simp [othOf]
    | some s => unfold othOf; simp only; split <;> simp
  omega
end
theorem FoundAt.lk {σ σ' : Store} {fl l1 l2 : Addr} {fs : List Fi} (h : FoundAt σ fl l1 l2 fs) (k : LK σ σ') : FoundAt σ' fl l1 l2 fs :=
  ⟨k _ _ h.fl,fun x y hm => ⟨k _ _ (h.oth x y hm).1,k _ _ (h.oth x y hm).2⟩⟩
noncomputable def Xn (n : Nm) (y : Addr) : Prop := y = n.tdx ∨ y = n.a
structure Rnd (h₀ : Heap) (σ : Store) (m : Bool) (n : Nm) (k : Tk) (wes : Es) (ds ts : List Str) (us : List (Option Bool)) (D : Db) (N : Nat) (F : Addr → Prop) (dl tl ul : Addr) (W : Str → Option We) (s : Option Sav) (sva : AV) : Prop where
  R : Rd σ m n k wes ds ts us
  hD : DbAt σ n.a D N F
  O : Out F σ (bs n k)
  hF : ∀ b,F b → σ b ≠ none
  hN : N ≤ 900
  S : LrS h₀ σ dl tl ul n.aw wes W ds ts us
  okt : ∀ p ∈ ts,PyData.strOk p = true
  sv : SavedAt σ sva s
  svF : ∀ s',s = some s' → ∀ sl st,sva = .tup [.str (cnm s'.m),.ref sl,.ref st] → (¬ F sl ∧ sl ≠ n.tdx) ∧ (¬ F st ∧ st ≠ n.tdx)
  H : Held D k.nm ds s
  ok : SavOk s
  nd : ds.Nodup
  len : ∀ p ∈ ds,p.length ≤ 100
section
variable {h₀ : Heap} {σ σ' : Store} {m : Bool} {n : Nm} {k : Tk} {wes : Es} {ds ts : List Str} {us : List (Option Bool)} {D D' : Db} {N : Nat} {F : Addr → Prop} {dl tl ul : Addr} {W : Str → Option We} {s : Option Sav} {sva : AV}
theorem Rnd.lk (Q : Rnd h₀ σ m n k wes ds ts us D N F dl tl ul W s sva) (E : Ext (Xn n) σ σ') : LK σ σ' := E.lk fun l vs f e => by
  rcases f with f | f
  · rw [f,Q.R.t.hdx] at e; cases e
  · obtain ⟨_,des,hda,_⟩ := Q.hD
    rw [f,hda] at e; cases e
theorem Rnd.own (Q : Rnd h₀ σ m n k wes ds ts us D N F dl tl ul W s sva) : F n.a := Q.hD.own
/-- a status was asked -/
theorem Rnd.asked {c : Addr} {s' : Option Sav} {sva' : AV} (Q : Rnd h₀ σ m n k wes ds ts us D N F dl tl ul W s sva) (E : Ext (Xn n) σ σ') (R' : Rd σ' m n { k with dc := .ref c } wes ds ts us) (hD' : DbAt σ' n.a D' N F) (h : (s' = s ∧ sva' = sva ∧ D' = D) ∨ (s' = none ∧ sva' = .none ∧ D' = rmD D k.nm)) :
    Rnd h₀ σ' m n { k with dc := .ref c } wes ds ts us D' N F dl tl ul W s' sva' := by
  have lk := Q.lk E
  have naw : ¬ Xn n n.aw := by
    rintro (f | f)
    · exact Q.R.ne f
    · exact (Q.O n.aw (by simp [bs])).2 (by rw [f]; exact Q.own)
  have svm : SavedAt σ' sva s := Q.sv.ext E fun s' hs sl st e => by
    obtain ⟨⟨a1,a2⟩,b1,b2⟩ := Q.svF s' hs sl st e
    exact ⟨by rintro (f | f); exact a2 f; exact a1 (by rw [f]; exact Q.own),by rintro (f | f); exact b2 f; exact b1 (by rw [f]; exact Q.own)⟩
  refine ⟨R',hD',fun b hb => ⟨E.live b (Q.O b hb).1,(Q.O b hb).2⟩,fun b hb => E.live b (Q.hF b hb),Q.hN,⟨lk _ _ Q.S.dl,lk _ _ Q.S.tl,Q.S.ul,E.get Q.S.aw naw,Q.S.wd,Q.S.zd,Q.S.zt,Q.S.zu,Q.S.okd⟩,Q.okt,?_,?_,?_,?_,Q.nd,Q.len⟩
  · rcases h with ⟨rfl,rfl,_⟩ | ⟨rfl,rfl,_⟩
    · exact svm
    · rfl
  · rcases h with ⟨rfl,rfl,_⟩ | ⟨rfl,rfl,_⟩
    · exact Q.svF
    · intro s' h; cases h
  · rcases h with ⟨rfl,rfl,rfl⟩ | ⟨rfl,rfl,rfl⟩
    · exact Q.H
    · exact ⟨Zk _ _ _,Zk _ _ _,fun p _ => Zk _ _ _,fun s h => by cases h⟩
  · rcases h with ⟨rfl,_,_⟩ | ⟨rfl,_,_⟩
    · exact Q.ok
    · exact ⟨fun s h => by cases h⟩
theorem Rnd.ext (Q : Rnd h₀ σ m n k wes ds ts us D N F dl tl ul W s sva) (E : Ext (fun _ => False) σ σ') : Rnd h₀ σ' m n k wes ds ts us D N F dl tl ul W s sva :=
  ⟨Q.R.keep fun b hb => E.keep b (Q.O b hb).1 id,Q.hD.keep fun b fb hb => E.keep b hb id,fun b hb => ⟨E.live b (Q.O b hb).1,(Q.O b hb).2⟩,fun b hb => E.live b (Q.hF b hb),Q.hN,⟨E.get Q.S.dl id,E.get Q.S.tl id,Q.S.ul,E.get Q.S.aw id,Q.S.wd,Q.S.zd,Q.S.zt,Q.S.zu,Q.S.okd⟩,Q.okt,Q.sv.mono E,Q.svF,Q.H,Q.ok,Q.nd,Q.len⟩
end

section
variable {w : World} {mg mb : Str → Option Value} {h₀ : Heap} {stk : List Env} {σ σ' : Store} {d : Nat} {hf : Bool} {m : Bool} {n : Nm} {k : Tk} {wes : Es} {ds ts : List Str} {us : List (Option Bool)} {D D' : Db} {N : Nat} {F : Addr → Prop} {dl tl ul : Addr} {W : Str → Option We} {s : Option Sav} {sva : AV} {Φ : AV → Store → Prop} {ℓ : Locs}
noncomputable def LwPost (b : Bool) (σ : Store) (m : Bool) (n : Nm) (k : Tk) (wes : Es) (ds ts : List Str) (us : List (Option Bool)) (D : Db) (N : Nat) (F : Addr → Prop) (W : Str → Option We) (s : Option Sav) (sva : AV) (Φ : AV → Store → Prop) : Prop :=
  ∀ σ' c,Rd σ' m n { k with dc := .ref c } wes ds ts us → DbAt σ' n.a (if (outOf b m us ds ts W s).2.1 = true then rmD D k.nm else D) N F → Ext (Xn n) σ σ' → Φ (.tup [.bool true,if (outOf b m us ds ts W s).2.1 = true then .none else sva]) σ'
noncomputable def lwBody (k : Nat) : List Stmt := go k (subB (fS [25])) where
  go : Nat → List Stmt → List Stmt
  | 0,l => l
  | n + 1,l => go n (Mine.tl l)
noncomputable abbrev lwF (d : Nat) : Fn := ⟨(Str.ofString "_law_with_log") ++ ".<locals>.",fs [25],some Y2,.ref 633,d + 4,true⟩
structure LwL (ℓ : Locs) (m : Bool) (n : Nm) (dl tl ul : Addr) (sva : AV) : Prop where
  man : ℓ "manager" = some (.ref n.x)
  task : ℓ "task" = some (.ref n.tx)
  parts : ℓ "parts" = some (.tup [.ref dl,.ref tl,.ref ul])
  saved : ℓ "saved" = some sva
  world : ℓ "world" = some (.ref n.aw)
  cn : ℓ "checker_name" = some (.str (cnm m))
theorem LwL.set (L : LwL ℓ m n dl tl ul sva) {x : Str} {v : AV} (h : x ∉ (["manager","task","parts","saved","world","checker_name"] : List Str)) : LwL (ℓ.set x v) m n dl tl ul sva := by
  simp only [List.mem_cons,List.not_mem_nil,or_false,not_or] at h
  obtain ⟨h1,h2,h3,h4,h5,h6⟩ := h
  exact ⟨(Locs.set_ne (Ne.symm h1)).trans L.man,(Locs.set_ne (Ne.symm h2)).trans L.task,(Locs.set_ne (Ne.symm h3)).trans L.parts,(Locs.set_ne (Ne.symm h4)).trans L.saved,(Locs.set_ne (Ne.symm h5)).trans L.world,(Locs.set_ne (Ne.symm h6)).trans L.cn⟩
theorem law_with_log (Q : Rnd h₀ σ m n k wes ds ts us D N F dl tl ul W s sva) (φ : LwPost true σ m n k wes ds ts us D N F W s sva Φ) :
    Ca (cx w mg mb h₀ stk) (d + 5) true σ (.val (.ref Y2)) [.ref n.x,.ref n.tx,.tup [.ref dl,.ref tl,.ref ul],sva,.ref n.aw,.str (cnm m)] [] Φ := by
  refine J3 (isD__law_with_log w.params) (ab := [("manager",.ref n.x),("task",.ref n.tx),("parts",.tup [.ref dl,.ref tl,.ref ul]),("saved",sva),("world",.ref n.aw),("checker_name",.str (cnm m))]) (bin6 fun _ _ _ _ _ _ _ => BindsTo.of_eq rfl) (by kernel_rfl) fun stk' => ?_
  have L : LwL (bindA [("manager",.ref n.x),("task",.ref n.tx),("parts",.tup [.ref dl,.ref tl,.ref ul]),("saved",sva),("world",.ref n.aw),("checker_name",.str (cnm m))] fun _ => none) m n dl tl ul sva := ⟨by rfl,by rfl,by rfl,by rfl,by rfl,by rfl⟩
  generalize bindA [("manager",.ref n.x),("task",.ref n.tx),("parts",.tup [.ref dl,.ref tl,.ref ul]),("saved",sva),("world",.ref n.aw),("checker_name",.str (cnm m))] (fun _ => none) = ℓ at L ⊢
  have fle := found_len m us ds ts W s Q.S.zu Q.S.zd Q.S.zt
  refine Jb (Jd (Ju (Qf (v := .ref Q4) (av := .val (.ref Q4)) (by rfl) (by kernel_rfl) (fun _ _ => .val _) ⟨_,rfl,.inl (by kernel_rfl),Ja (by rfl) L.parts (Ja (by rfl) L.saved (Ja (by rfl) L.world (Ja (by rfl) L.cn (Ca.cw (law_reasons Q.S Q.sv Q.nd Q.ok fun σ₁ fl l1 l2 E₁ zf hf => Je (by rfl) ?_)))))⟩)))
  replace L := L.set (x := "found") (v := .ref fl) (by decide)
  refine Jb (Qr rfl (Qh (by kernel_rfl)) (by rfl) (J1 (Ja (by rfl) (by rfl) ⟨fl,(found m us ds ts W s).map (fiA l1 l2),rfl,.inl hf.fl,Jx _ _ _,g0,by simp; omega,fun σ' le => .inl ((le _ (by rw [hf.fl]; simp)).trans hf.fl),fun v hv σ' hle => ?_,fun wl hwl => ?_⟩)))
  · obtain ⟨x,_,rfl⟩ := List.mem_map.mp hv
    obtain ⟨u,hu⟩ := Zl l1 l2 x
    rw [hu]
    refine Je (by rfl) ⟨rfl,fun y u h => ?_,?_⟩
    · rw [Locs.set_ne]
      · exact h
      · rintro rfl; cases h
    · exact ⟨rfl,Jp (Ja (by rfl) (by rfl) (Ji (Jo (v := .str x.word) (fun _ _ => rfl) (by decide) (by decide) (by rfl) ⟨rfl,rfl⟩)))⟩
  rw [g0_words]
  replace L := L.set (x := "words") (v := .ref wl) (by decide)
  have E₂ := E₁.alloc hwl (o := .list (strsA ((found m us ds ts W s).map Fi.word)))
  have hf₂ := hf.mono (Ext.refl.alloc hwl (o := .list (strsA ((found m us ds ts W s).map Fi.word))))
  have hw₂ := Store.set_same σ₁ wl (.list (strsA ((found m us ds ts W s).map Fi.word)))
  generalize σ₁.set wl (.list (strsA ((found m us ds ts W s).map Fi.word))) = σ₂ at E₂ hf₂ hw₂
  have Q₂ := Q.ext E₂
  refine Jb (Jd (Jk (Ja (by rfl) L.man (Js (fm := Qq) Q₂.R.d.x Q₂.R.d.dx (by rfl) (by kernel_rfl) ?_))))
  refine Ja (by rfl) L.task (ev_dict (pairs := [(_,_)]) rfl rfl (by simp) (by simp) fun DD hDD => ?_)
  refine Jh (Ja (by rfl) L.task (Jn (Store.set_old Q₂.R.t.hx hDD) (Store.set_old Q₂.R.t.hdx hDD) (by rfl) (by kernel_rfl) (by rfl) ⟨k.nm,rfl,Ja (by rfl) L.task ⟨by simp,Store.set_same _ _ _,Qw ?_⟩⟩))
  have Ed : Ext (fun _ => False) σ₂ ((σ₂.set DD (.dict [])).set DD (.dict [(k.nm,.ref n.tx)])) := (Ext.refl.new hDD).new hDD
  have hf₃ := hf₂.mono Ed
  have hw₃ := Ed.get hw₂ id
  have Q₃ := Q₂.ext Ed
  generalize (σ₂.set DD (.dict [])).set DD (.dict [(k.nm,.ref n.tx)]) = σ₃ at Ed hf₃ hw₃ Q₃
  have E₃ := E₂.trans Ed fun _ h => h.elim
  refine Ca.cw (Dep_status (b := true) (W := W) (cc := (cx w mg mb h₀ stk).on stk') Q₃.R Q₃.hD Q₃.O Q₃.hF Q₃.hN Q₃.S.zd Q₃.S.zt Q₃.S.zu Q₃.nd Q₃.len (fun p _ => Q₃.S.wd p) Q₃.H (.inr rfl) fun r dr rs o σ₄ c er es G her hha hrs hes _ => Je (by rfl) ?_)
  have hr₄ : σ₄ r = some (.inst cDependencyStatus dr) := G.hr
  have hdr₄ : σ₄ dr = some (.dict (dsEs true (outOf true m us ds ts W s).1.1 rs er)) := G.hdr
  have hrs₄ : σ₄ rs = some (.dict es) := hrs
  have R₄ : Rd σ₄ m n { k with dc := .ref c } wes ds ts us := G.R
  have hc₄ : σ₄ c = some (.list (strsA (outOf true m us ds ts W s).1.2)) := G.hc
  have E₄ : Ext (Xn n) σ₃ σ₄ := G.E
  have hD₄ : DbAt σ₄ n.a (if (outOf true m us ds ts W s).2.1 = true then rmD D k.nm else D) N F := G.hD
  have hes₄ := hes rfl
  have lk := Q₃.lk E₄
  have hf₄ := hf₃.lk lk
  have hw₄ := lk _ _ hw₃
  replace L := L.set (x := "told") (v := .ref r) (by decide)
  clear G hes hrs o
  have Ea : Ext (Xn n) σ σ₄ := (E₃.weaken fun _ h => h.elim).trans E₄ fun _ h => .inl h
  have ret : ∀ {ℓ : Locs} {σ₅ : Store},LwL ℓ m n dl tl ul sva → ℓ "words" = some (.ref wl) → Ext (fun _ => False) σ₄ σ₅ → Ss ((cx w mg mb h₀ stk).on stk') (lwF d) ℓ σ₅ (lwBody 6) (fun r _ σ' => Φ (retv r) σ') := by
    intro ℓ σ₅ L lw E₅
    refine Jb (Jm (Jq (Qw (Qo (Jf (Jg (Ja (by rfl) lw (Q5 (.inl (E₅.get hw₄ id)) ⟨_,rfl,?_⟩))))))))
    rw [show ((found m us ds ts W s).map Fi.word).any (· == ("checker_changed" : Str)) = !(chkOf m s).isEmpty from w_chk m us ds ts W s]
    have fin := φ σ₅ c (R₄.keep fun b hb => E₅.keep b (Ea.live b (Q.O b hb).1) id) (hD₄.keep fun b fb hb => E₅.keep b hb id) (Ea.trans E₅ fun _ h => h.elim)
    rw [log_out] at fin
    cases hk : (!(chkOf m s).isEmpty) with
    | true => rw [hk] at fin; exact Jz ⟨by simp,fin⟩
    | false => rw [hk] at fin; exact Ja (by rfl) L.saved ⟨by simp,fin⟩
  have dep : ∀ {ℓ : Locs} {σ₅ : Store},LwL ℓ m n dl tl ul sva → ℓ "words" = some (.ref wl) → ℓ "found" = some (.ref fl) → Ext (fun _ => False) σ₄ σ₅ → Ss ((cx w mg mb h₀ stk).on stk') (lwF d) ℓ σ₅ (lwBody 5) (fun r _ σ' => Φ (retv r) σ') := by
    intro ℓ σ₅ L lw lf E₅
    refine Jb (Jj (Qy ?_))
    refine Jf (Jg (Ja (by rfl) lw (Qj (.inl (E₅.get hw₄ id)) ⟨_,rfl,?_⟩)))
    cases h1 : (!((found m us ds ts W s).map Fi.word).any (· == ("missing_target" : Str))) with
    | false => exact Jc (ret L lw E₅)
    | true =>
    refine Jf (Jg (Ja (by rfl) lw (Qj (.inl (E₅.get hw₄ id)) ⟨_,rfl,?_⟩)))
    cases h2 : (!((found m us ds ts W s).map Fi.word).any (· == ("checker_changed" : Str))) with
    | false => exact Jc (ret L lw E₅)
    | true =>
    have R₅ := R₄.keep fun b hb => E₅.keep b (Ea.live b (Q.O b hb).1) id
    have hf₅ := hf₄.mono E₅
    have hc₅ := E₅.get hc₄ id
    refine Jb (Jj (Jf (Jh (Ja (by rfl) L.task (Jn R₅.t.hx R₅.t.hdx (by rfl) (by kernel_rfl) (by rfl) ?_)))))
    refine Yz rfl (Qh (by kernel_rfl)) (J1 (Ja (by rfl) lf ⟨fl,(found m us ds ts W s).map (fiA l1 l2),rfl,.inl hf₅.fl,.inr ⟨⟨_,_,_,rfl⟩,fun v hv => by obtain ⟨x,_,rfl⟩ := List.mem_map.mp hv; obtain ⟨u,hu⟩ := Zl l1 l2 x; exact ⟨_,hu⟩⟩,gc,by simp; omega,fun σ' le => .inl ((le _ (by rw [hf₅.fl]; simp)).trans hf₅.fl),fun v hv σ' hle => ?_,fun a2 ha2 => ?_⟩))
    · obtain ⟨x,hx,rfl⟩ := List.mem_map.mp hv
      obtain ⟨u,hu⟩ := Zl l1 l2 x
      rw [hu]
      refine Qk rfl (vs := [.str x.word,u]) (by rfl) (Je (by rfl) (Je (by rfl) ⟨rfl,fun y u h => ?_,?_⟩))
      · rw [Locs.set_ne,Locs.set_ne]
        · exact h
        · rintro rfl; cases h
        · rintro rfl; cases h
      · refine Jf (Ja (by rfl) (by rfl) (Jg (Ql ⟨_,rfl,?_⟩)))
        cases hz' : (x.word == ("changed_file_dep" : Str)) with
        | true => exact ⟨rfl,Ja (by rfl) (by rfl) ⟨rfl,by show (if (x.word == ("changed_file_dep" : Str)) = true then some u else none) = _; rw [hz']; rfl⟩⟩
        | false => exact ⟨rfl,by show (if (x.word == ("changed_file_dep" : Str)) = true then some u else none) = _; rw [hz']; rfl⟩
    rw [gc_chgs,chgs_found]
    have cfok : ∀ p ∈ chgOf m W ds s,PyData.strOk p = true := fun p hp => Q.S.okd p (List.mem_filter.mp hp).1
    have e2 : (outOf true m us ds ts W s).1.2 = chgOf m W ds s := by rw [log_out]; unfold tailOf; rw [if_neg (by simp)]
    rw [e2] at hc₅
    refine Zq (ss := chgOf m W ds s) (ts := chgOf m W ds s) (.inl (Store.set_old hc₅ ha2)) (.inl (Store.set_same _ _ _)) cfok cfok ⟨_,rfl,?_⟩
    rw [show (!decide (chgOf m W ds s = chgOf m W ds s)) = false by simp]
    exact Jc (Jc (ret L lw (E₅.alloc ha2)))
  refine Jb (Jj (Ug ?_))
  refine Jf (Jh (Ja (by rfl) (by rfl) (Jn hr₄ hdr₄ (by rfl) (by kernel_rfl) (by rfl) ?_)))
  refine Ju (Qf (v := .ref a_law_log) (av := .val (.ref a_law_log)) (by rfl) (by kernel_rfl) (fun _ _ => .val _) ⟨_,rfl,.inl (by kernel_rfl),Ja (by rfl) (by rfl) (Ca.cw (law_log (cc := (cx w mg mb h₀ stk).on stk') rfl hf₄ (by omega) fun σ₅ lg es' E₅ zl hlg hes' => ?_))⟩)
  rw [fold_found] at hes'
  have lk₅ : LK σ₄ σ₅ := fun l vs e => E₅.get e id
  refine op_ne_dict (E₅.get hrs₄ id) hlg (hes₄.mono lk₅) hes' (log_nodup m us ds ts W s) (log_shaped m us ds ts W s Q.S.okd Q.okt Q.ok) ⟨_,rfl,?_⟩
  refine Jf (Yr (Jk (Ja (by rfl) (by rfl) (Js (fm := Qi) (E₅.get hr₄ id) (E₅.get hdr₄ id) (by rfl) (by kernel_rfl) (Ca.cw (Status_msg (E₅.get hr₄ id) (E₅.get hdr₄ id) hha ?_))))))
  refine Jz (Qv (Yr (Jg (Ja (by rfl) (by rfl) (Qj (.inl (E₅.get hw₄ id)) (X6 (.bool _) (.bool _) rfl rfl ⟨_,rfl,?_⟩))))))
  have wm : ((found m us ds ts W s).map Fi.word).any (· == ("missing_file_dep" : Str)) = !(ds.filter (missQ W)).isEmpty := w_miss m us ds ts W s
  have wc : ((found m us ds ts W s).map Fi.word).any (· == ("changed_file_dep" : Str)) = !(chgOf m W ds s).isEmpty := w_chg m us ds ts W s
  have e3 : (outOf true m us ds ts W s).2.2 = !(ds.filter (missQ W)).isEmpty := by rw [log_out]
  have her' : er.isNone = !(outOf true m us ds ts W s).2.2 := her
  rw [wm,her',e3]
  rw [show (!PyData.eqv (.bool (!!(ds.filter (missQ W)).isEmpty)) (.bool (!!(ds.filter (missQ W)).isEmpty))) = false by generalize (ds.filter (missQ W)).isEmpty = z; cases z <;> rfl]
  refine Jc ?_
  have hst : (outOf true m us ds ts W s).1.1 = if chgOf m W ds s ≠ [] then ("run" : Str) else if ds.filter (missQ W) ≠ [] then ("error" : Str) else stHead m us ds ts W s := by rw [log_out]; unfold tailOf; rw [if_neg (by simp)]
  have body : ∀ {ℓ : Locs},LwL ℓ m n dl tl ul sva → ℓ "words" = some (.ref wl) → ℓ "found" = some (.ref fl) → ℓ "told" = some (.ref r) → (ds.filter (missQ W) = [] ∨ chgOf m W ds s = []) → Ss ((cx w mg mb h₀ stk).on stk') (lwF d) ℓ σ₅ (ifB (nth (lwBody 4) 0)) (SeqK ((cx w mg mb h₀ stk).on stk') (lwF d) (lwBody 5) fun r _ σ' => Φ (retv r) σ') := by
    intro ℓ L lw lf lt hor
    refine Jb (Jj (Jf (Jh (Ja (by rfl) lt (Jn (E₅.get hr₄ id) (E₅.get hdr₄ id) (by rfl) (by kernel_rfl) (by rfl) ?_)))))
    refine Qo (Jf (Jg (Ja (by rfl) lw (Q5 (.inl (E₅.get hw₄ id)) ⟨_,rfl,?_⟩))))
    rw [wm]
    by_cases hm : ds.filter (missQ W) = []
    · rw [show (!(ds.filter (missQ W)).isEmpty) = false by rw [hm]; rfl]
      refine Qo (Jf (Ja (by rfl) lw (J6 ⟨by simp,fun b hb => Zq (ss := (found m us ds ts W s).map Fi.word) (ts := []) (.inl (Store.set_old (E₅.get hw₄ id) hb)) (.inl (Store.set_same _ _ _)) (words_ok _) (by simp) ⟨_,rfl,?_⟩⟩)))
      have fin := dep L lw lf (E₅.alloc hb (o := .list []))
      have fn := found_nil m us ds ts W s
      by_cases he : found m us ds ts W s = []
      · rw [show (!decide ((found m us ds ts W s).map Fi.word = [])) = false by simp [he]]
        refine Jg (Ye ⟨_,rfl,?_⟩)
        obtain ⟨h5,_,hc⟩ := fn.mp he
        have : (outOf true m us ds ts W s).1.1 = "up-to-date" := by
          rw [hst,if_neg (fun h => h hc),if_neg (fun h => h hm)]; unfold stHead; rw [if_pos h5]
        rw [this,show (("up-to-date" : Str) != "up-to-date") = false by decide]
        exact Jc (Jc fin)
      · rw [show (!decide ((found m us ds ts W s).map Fi.word = [])) = true by simp [he]]
        refine Jg (Ye ⟨_,rfl,?_⟩)
        have : (outOf true m us ds ts W s).1.1 = "run" := by
          rw [hst]
          by_cases hc : chgOf m W ds s = []
          · rw [if_neg (fun h => h hc),if_neg (fun h => h hm)]; unfold stHead; rw [if_neg (fun h => he (fn.mpr ⟨h,hm,hc⟩))]
          · rw [if_pos hc]
        rw [this,show (("run" : Str) != "run") = false by decide]
        exact Jc (Jc fin)
    · rw [show (!(ds.filter (missQ W)).isEmpty) = true by cases h : ds.filter (missQ W) with | nil => exact absurd h hm | cons _ _ => rfl]
      have hcf : chgOf m W ds s = [] := hor.resolve_left hm
      refine Jg (Ye ⟨_,rfl,?_⟩)
      have e : (outOf true m us ds ts W s).1.1 = "error" := by rw [hst,if_neg (fun h => h hcf),if_pos hm]
      rw [e,show (("error" : Str) != "error") = false by decide]
      exact Jc (Jc (dep L lw lf E₅))
  refine Jb (Jj (Ug ?_))
  refine Jf (Jg (Ja (by rfl) (by rfl) (Qj (.inl (E₅.get hw₄ id)) ⟨_,rfl,?_⟩)))
  rw [wm]
  by_cases hm : ds.filter (missQ W) = []
  · rw [show (!!(ds.filter (missQ W)).isEmpty) = true by rw [hm]; rfl]
    exact body L (by rfl) (by rfl) (by rfl) (.inl hm)
  · rw [show (!!(ds.filter (missQ W)).isEmpty) = false by cases h : ds.filter (missQ W) with | nil => exact absurd h hm | cons _ _ => rfl]
    refine Jf (Jg (Ja (by rfl) (by rfl) (Qj (.inl (E₅.get hw₄ id)) ⟨_,rfl,?_⟩)))
    rw [wc]
    by_cases hc : chgOf m W ds s = []
    · rw [show (!!(chgOf m W ds s).isEmpty) = true by rw [hc]; rfl]
      exact body L (by rfl) (by rfl) (by rfl) (.inr hc)
    · rw [show (!!(chgOf m W ds s).isEmpty) = false by cases h : chgOf m W ds s with | nil => exact absurd h hc | cons _ _ => rfl]
      exact Jc (dep L (by rfl) (by rfl) E₅)
end

noncomputable def endP (x : Str) : Bool := (["uptodate_false","has_no_dependencies","missing_target"] : List Str).any (· == x)
noncomputable def gE : AV → Option AV
  | .str x => if endP x = true then some (.str x) else none
  | _ => none
theorem gE_strs (l : List Str) : (strsA l).filterMap gE = strsA (l.filter endP) := by
  induction l with
  | nil => rfl
  | cons x r ih =>
    show ((AV.str x) :: strsA r).filterMap gE = _
    rw [List.filter_cons]
    by_cases h : endP x = true
    · rw [List.filterMap_cons_some (f := gE) (b := .str x) (by unfold gE; simp only; rw [if_pos h]),ih,if_pos h]; rfl
    · rw [List.filterMap_cons_none (f := gE) (by unfold gE; simp only; rw [if_neg h]),ih,if_neg h]
theorem end_any (l : List Str) : (l.filter endP).isEmpty = !(l.any (· == ("uptodate_false" : Str)) || l.any (· == ("has_no_dependencies" : Str)) || l.any (· == ("missing_target" : Str))) := by
  induction l with
  | nil => rfl
  | cons x r ih =>
    rw [List.filter_cons]
    have e : endP x = (x == ("uptodate_false" : Str) || x == ("has_no_dependencies" : Str) || x == ("missing_target" : Str)) := by
      unfold endP
      simp only [List.any_cons,List.any_nil,Bool.or_false]
      rw [Bool.beq_comm (a := ("uptodate_false" : Str)),Bool.beq_comm (a := ("has_no_dependencies" : Str)),Bool.beq_comm (a := ("missing_target" : Str)),Bool.or_assoc]
    simp only [List.any_cons]
    by_cases h : endP x = true
    · rw [if_pos h]; rw [e] at h
      cases a : (x == ("uptodate_false" : Str)) <;> cases b : (x == ("has_no_dependencies" : Str)) <;> cases c : (x == ("missing_target" : Str)) <;> simp_all
    · rw [if_neg h,ih]; rw [e] at h
      cases a : (x == ("uptodate_false" : Str)) <;> cases b : (x == ("has_no_dependencies" : Str)) <;> cases c : (x == ("missing_target" : Str)) <;> simp_all
theorem shaped_due {st : Str} {cs : List Str} (h1 : PyData.strOk st = true) (h2 : ∀ p ∈ cs,PyData.strOk p = true) : SeqAt.shaped (.tuple [.str st,.list (cs.map .str)]) = true := by
  unfold SeqAt.shaped
  rw [Bool.and_eq_true]
  refine ⟨by simp only [PyData.canLay0,PyData.canLayAll0,Uh h2,h1,Bool.and_self],decide_eq_true ?_⟩
  simp only [PyData.depth,PyData.depthAll,X7]; omega
theorem firstOf_ok {fs : List Fi} {ds : List Str} (h : ∀ p ∈ ds,PyData.strOk p = true) (h2 : ∀ p ∈ chgs fs,PyData.strOk p = true) : PyData.strOk (firstOf fs ds).1 = true ∧ ∀ p ∈ (firstOf fs ds).2,PyData.strOk p = true := by
  have r : PyData.strOk ("run" : Str) = true := by decide +kernel
  have u : PyData.strOk ("up-to-date" : Str) = true := by decide +kernel
  have e : PyData.strOk ("error" : Str) = true := by decide +kernel
  unfold firstOf
  split
  · exact ⟨r,by simp⟩
  · split
    · exact ⟨r,h⟩
    · split
      · exact ⟨e,by simp⟩
      · refine ⟨?_,h2⟩
        show PyData.strOk (if fs = [] then ("up-to-date" : Str) else ("run" : Str)) = true
        split <;> assumption
section
variable (m : Bool) (us : List (Option Bool)) (ds ts : List Str) (W : Str → Option We) (s : Option Sav)
theorem gone_out0 : (outOf false m us ds ts W s).2.1 = (hasW (found m us ds ts W s) "checker_changed" && (((found m us ds ts W s).map Fi.word).filter endP).isEmpty) := by
  rw [end_any]
  show _ = (_ && !(hasW (found m us ds ts W s) "uptodate_false" || hasW (found m us ds ts W s) "has_no_dependencies" || hasW (found m us ds ts W s) "missing_target"))
  rw [w_up,w_no,w_tgt,w_chk]
  unfold outOf
  by_cases a : nFalse us = 0
  · by_cases b : noDep us ds = true
    · simp [a,b]
    · have b' : noDep us ds = false := by simpa using b
      by_cases c : ts.filter (missQ W) = []
      · by_cases d : chkOf m s = []
        · simp [a,b',c,d]
        · have d' : (chkOf m s).isEmpty = false := by cases h : chkOf m s with | nil => exact absurd h d | cons _ _ => rfl
          simp [a,b',c,d,d']
      · have c' : (ts.filter (missQ W)).isEmpty = false := by cases h : ts.filter (missQ W) with | nil => exact absurd h c | cons _ _ => rfl
        simp [a,b',c,c']
  · simp [a]
end
section
variable {w : World} {mg mb : Str → Option Value} {h₀ : Heap} {stk : List Env} {σ σ' : Store} {d : Nat} {hf : Bool} {m : Bool} {n : Nm} {k : Tk} {wes : Es} {ds ts : List Str} {us : List (Option Bool)} {D D' : Db} {N : Nat} {F : Addr → Prop} {dl tl ul : Addr} {W : Str → Option We} {s : Option Sav} {sva : AV} {Φ : AV → Store → Prop} {ℓ : Locs}
theorem law_without_log (Q : Rnd h₀ σ m n k wes ds ts us D N F dl tl ul W s sva) (φ : LwPost false σ m n k wes ds ts us D N F W s sva Φ) :
    Ca (cx w mg mb h₀ stk) (d + 5) true σ (.val (.ref Y7)) [.ref n.x,.ref n.tx,.tup [.ref dl,.ref tl,.ref ul],sva,.ref n.aw,.str (cnm m)] [] Φ := by
  refine J3 (isD__law_without_log w.params) (ab := [("manager",.ref n.x),("task",.ref n.tx),("parts",.tup [.ref dl,.ref tl,.ref ul]),("saved",sva),("world",.ref n.aw),("checker_name",.str (cnm m))]) (bin6 fun _ _ _ _ _ _ _ => BindsTo.of_eq rfl) (by kernel_rfl) fun stk' => ?_
  have L : LwL (bindA [("manager",.ref n.x),("task",.ref n.tx),("parts",.tup [.ref dl,.ref tl,.ref ul]),("saved",sva),("world",.ref n.aw),("checker_name",.str (cnm m))] fun _ => none) m n dl tl ul sva := ⟨by rfl,by rfl,by rfl,by rfl,by rfl,by rfl⟩
  generalize bindA [("manager",.ref n.x),("task",.ref n.tx),("parts",.tup [.ref dl,.ref tl,.ref ul]),("saved",sva),("world",.ref n.aw),("checker_name",.str (cnm m))] (fun _ => none) = ℓ at L ⊢
  have fle := found_len m us ds ts W s Q.S.zu Q.S.zd Q.S.zt
  refine Jb (Jd (Ju (Qf (v := .ref Q4) (av := .val (.ref Q4)) (by rfl) (by kernel_rfl) (fun _ _ => .val _) ⟨_,rfl,.inl (by kernel_rfl),Ja (by rfl) L.parts (Ja (by rfl) L.saved (Ja (by rfl) L.world (Ja (by rfl) L.cn (Ca.cw (law_reasons Q.S Q.sv Q.nd Q.ok fun σ₁ fl l1 l2 E₁ zf hf => Je (by rfl) ?_)))))⟩)))
  replace L := L.set (x := "found") (v := .ref fl) (by decide)
  refine Jb (Qr rfl (Qh (by kernel_rfl)) (by rfl) (J1 (Ja (by rfl) (by rfl) ⟨fl,(found m us ds ts W s).map (fiA l1 l2),rfl,.inl hf.fl,Jx _ _ _,g0,by simp; omega,fun σ' le => .inl ((le _ (by rw [hf.fl]; simp)).trans hf.fl),fun v hv σ' hle => ?_,fun wl hwl => ?_⟩)))
  · obtain ⟨x,_,rfl⟩ := List.mem_map.mp hv
    obtain ⟨u,hu⟩ := Zl l1 l2 x
    rw [hu]
    refine Je (by rfl) ⟨rfl,fun y u h => ?_,?_⟩
    · rw [Locs.set_ne]
      · exact h
      · rintro rfl; cases h
    · exact ⟨rfl,Jp (Ja (by rfl) (by rfl) (Ji (Jo (v := .str x.word) (fun _ _ => rfl) (by decide) (by decide) (by rfl) ⟨rfl,rfl⟩)))⟩
  rw [g0_words]
  replace L := L.set (x := "words") (v := .ref wl) (by decide)
  have E₂ := E₁.alloc hwl (o := .list (strsA ((found m us ds ts W s).map Fi.word)))
  have hf₂ := hf.mono (Ext.refl.alloc hwl (o := .list (strsA ((found m us ds ts W s).map Fi.word))))
  have hw₂ := Store.set_same σ₁ wl (.list (strsA ((found m us ds ts W s).map Fi.word)))
  generalize σ₁.set wl (.list (strsA ((found m us ds ts W s).map Fi.word))) = σ₂ at E₂ hf₂ hw₂
  refine Jb (Jd (Ju (Qf (v := .ref a_law_first) (av := .val (.ref a_law_first)) (by rfl) (by kernel_rfl) (fun _ _ => .val _) ⟨_,rfl,.inl (by kernel_rfl),Ja (by rfl) L.parts (Ja (by rfl) (by rfl) (Ca.cw (law_first hf₂ (E₂.get Q.S.dl id) (by omega) fun σ₃ dl' Ef hdl' => Je (by rfl) ?_)))⟩)))
  replace L := L.set (x := "due") (v := .tup [.str (firstOf (found m us ds ts W s) ds).1,.ref dl']) (by decide)
  have E₃ := E₂.trans Ef fun _ h => h.elim
  have Q₃ := Q.ext E₃
  have hw₃ := Ef.get hw₂ id
  refine Jb (Jd (Jk (Ja (by rfl) L.man (Js (fm := Qq) Q₃.R.d.x Q₃.R.d.dx (by rfl) (by kernel_rfl) ?_))))
  refine Ja (by rfl) L.task (ev_dict (pairs := [(_,_)]) rfl rfl (by simp) (by simp) fun DD hDD => ?_)
  refine Jh (Ja (by rfl) L.task (Jn (Store.set_old Q₃.R.t.hx hDD) (Store.set_old Q₃.R.t.hdx hDD) (by rfl) (by kernel_rfl) (by rfl) ⟨k.nm,rfl,Ja (by rfl) L.task ⟨by simp,Store.set_same _ _ _,?_⟩⟩))
  have Ed : Ext (fun _ => False) σ₃ ((σ₃.set DD (.dict [])).set DD (.dict [(k.nm,.ref n.tx)])) := (Ext.refl.new hDD).new hDD
  have hdl₄ := Ed.get hdl' id
  have hw₄ := Ed.get hw₃ id
  have Q₄ := Q₃.ext Ed
  generalize (σ₃.set DD (.dict [])).set DD (.dict [(k.nm,.ref n.tx)]) = σ₄ at Ed hdl₄ hw₄ Q₄
  have E₄ := E₃.trans Ed fun _ h => h.elim
  refine Ca.cw (Dep_status (b := false) (W := W) (cc := (cx w mg mb h₀ stk).on stk') Q₄.R Q₄.hD Q₄.O Q₄.hF Q₄.hN Q₄.S.zd Q₄.S.zt Q₄.S.zu Q₄.nd Q₄.len (fun p _ => Q₄.S.wd p) Q₄.H (.inl ⟨rfl,rfl⟩) fun r dr rs o σ₅ c er es G her hha hrs _ hes => Je (by rfl) ?_)
  have hr₅ : σ₅ r = some (.inst cDependencyStatus dr) := G.hr
  have hdr₅ : σ₅ dr = some (.dict (dsEs false (outOf false m us ds ts W s).1.1 rs er)) := G.hdr
  have hrs₅ : σ₅ rs = some (.dict es) := hrs
  have R₅ : Rd σ₅ m n { k with dc := .ref c } wes ds ts us := G.R
  have hc₅ : σ₅ c = some (.list (strsA (outOf false m us ds ts W s).1.2)) := G.hc
  have E₅ : Ext (Xn n) σ₄ σ₅ := G.E
  have hD₅ : DbAt σ₅ n.a (if (outOf false m us ds ts W s).2.1 = true then rmD D k.nm else D) N F := G.hD
  have hes₅ : es = [] := hes rfl
  subst hes₅
  have lk := Q₄.lk E₅
  have hw₅ := lk _ _ hw₄
  have hdl₅ := lk _ _ hdl₄
  replace L := L.set (x := "told") (v := .ref r) (by decide)
  clear G hes hrs o
  have Ea : Ext (Xn n) σ σ₅ := (E₄.weaken fun _ h => h.elim).trans E₅ fun _ h => .inl h
  have eF := first_out m us ds ts W s
  have ok := firstOf_ok (fs := found m us ds ts W s) (ds := ds) Q.S.okd (by rw [chgs_found]; exact fun p hp => Q.S.okd p (List.mem_filter.mp hp).1)
  rw [eF] at ok hdl₅
  refine Jb (Jj (Ug ?_))
  refine Jf (Jq (Jh (Ja (by rfl) (by rfl) (Jn hr₅ hdr₅ (by rfl) (by kernel_rfl) (by rfl) ?_))))
  refine Jh (Ja (by rfl) L.task (Jn R₅.t.hx R₅.t.hdx (by rfl) (by kernel_rfl) (by rfl) ⟨by simp,?_⟩))
  refine Ja (by rfl) (by rfl) ?_
  rw [eF]
  refine X6 (da := .tuple [.str (outOf false m us ds ts W s).1.1,.list ((outOf false m us ds ts W s).1.2.map .str)]) (db := .tuple [.str (outOf false m us ds ts W s).1.1,.list ((outOf false m us ds ts W s).1.2.map .str)]) (.tup (.cons (.str _) (.cons (.list (.inl hc₅) (Qp _)) .nil))) (.tup (.cons (.str _) (.cons (.list (.inl hdl₅) (Qp _)) .nil))) (shaped_due ok.1 ok.2) (shaped_due ok.1 ok.2) ⟨_,rfl,?_⟩
  rw [SeqAt.eqv_refl _ (SeqAt.canLay_of_shaped (shaped_due ok.1 ok.2))]
  refine Jf (Jh (Ja (by rfl) (by rfl) (Jn hr₅ hdr₅ (by rfl) (by kernel_rfl) (by rfl) ?_)))
  refine Qn fun a6 ha6 => ?_
  have E₆ : Ext (fun _ => False) σ₅ (σ₅.set a6 (.dict [])) := Ext.refl.alloc ha6
  refine op_ne_dict (D := []) (Store.set_old hrs₅ ha6) (Store.set_same _ _ _) .nil .nil (by simp) (fun _ _ h => by cases h) ⟨_,rfl,?_⟩
  generalize σ₅.set a6 (.dict []) = σ₆ at E₆
  have hw₆ := E₆.get hw₅ id
  refine Jf (Yr (Jk (Ja (by rfl) (by rfl) (Js (fm := Qi) (E₆.get hr₅ id) (E₆.get hdr₅ id) (by rfl) (by kernel_rfl) (Ca.cw (Status_msg (E₆.get hr₅ id) (E₆.get hdr₅ id) hha ?_))))))
  refine Jz (Qv (Yr (Jp (Ja (by rfl) (by rfl) (Ji (Jo (v := .str (outOf false m us ds ts W s).1.1) (fun _ _ => rfl) (by decide) (by decide) (by rfl) (Jg (Ye (X6 (.bool _) (.bool _) rfl rfl ⟨_,rfl,?_⟩)))))))))
  have her' : er.isNone = !(outOf false m us ds ts W s).2.2 := her
  rw [her',err_out0,show (!PyData.eqv (.bool (!((outOf false m us ds ts W s).1.1 == ("error" : Str)))) (.bool ((outOf false m us ds ts W s).1.1 != ("error" : Str)))) = false by unfold bne; generalize ((outOf false m us ds ts W s).1.1 == ("error" : Str)) = z; cases z <;> rfl]
  refine Jc ?_
  refine Jb (Qr rfl (Qh (by kernel_rfl)) (by rfl) (J1 (Ja (by rfl) (by rfl) ⟨wl,strsA ((found m us ds ts W s).map Fi.word),rfl,.inl hw₆,Jx _ _ _,gE,by simp; omega,fun σ' le => .inl ((le _ (by rw [hw₆]; simp)).trans hw₆),fun v hv σ' hle => ?_,fun nl hnl => ?_⟩)))
  · obtain ⟨x,hx,rfl⟩ := List.mem_map.mp hv
    refine Je (by rfl) ⟨rfl,fun y u h => ?_,?_⟩
    · rw [Locs.set_ne]
      · exact h
      · rintro rfl; cases h
    · refine Jf (Ja (by rfl) (by rfl) (Jq (Jg (Jg (Jg ⟨by simp,Yu (ss := ["uptodate_false","has_no_dependencies","missing_target"]) (by decide +kernel) (words_ok _ _ hx) ⟨_,rfl,?_⟩⟩)))))
      change (if endP x = true then _ else _)
      cases hz' : endP x with
      | true => exact ⟨rfl,Ja (by rfl) (by rfl) ⟨rfl,by show (if endP x = true then some (AV.str x) else none) = _; rw [hz']; rfl⟩⟩
      | false => exact ⟨rfl,by show (if endP x = true then some (AV.str x) else none) = _; rw [hz']; rfl⟩
  rw [gE_strs]
  replace L := L.set (x := "ended") (v := .ref nl) (by decide)
  have E₇ : Ext (fun _ => False) σ₆ (σ₆.set nl (.list (strsA (((found m us ds ts W s).map Fi.word).filter endP)))) := Ext.refl.alloc hnl
  have hn₇ := Store.set_same σ₆ nl (.list (strsA (((found m us ds ts W s).map Fi.word).filter endP)))
  generalize σ₆.set nl (.list (strsA (((found m us ds ts W s).map Fi.word).filter endP))) = σ₇ at E₇ hn₇
  have E₈ := E₆.trans E₇ fun _ h => h.elim
  refine Jb (Jm (Jq (Qw (Qo (Qy ?_)))))
  refine Jf (Jg (Ja (by rfl) (by rfl) (Q5 (.inl (E₇.get hw₆ id)) ⟨_,rfl,?_⟩)))
  have go := gone_out0 m us ds ts W s
  unfold hasW at go
  have fin : ∀ {σ₈ : Store},Ext (fun _ => False) σ₇ σ₈ → Φ (.tup [.bool true,if (outOf false m us ds ts W s).2.1 = true then .none else sva]) σ₈ := fun {σ₈} Ez => by
    have E₉ := E₈.trans Ez fun _ h => h.elim
    exact φ σ₈ c (R₅.keep fun b hb => E₉.keep b (Ea.live b (Q.O b hb).1) id) (hD₅.keep fun b fb hb => E₉.keep b hb id) (Ea.trans E₉ fun _ h => h.elim)
  rw [go] at fin
  cases h1 : ((found m us ds ts W s).map Fi.word).any (· == ("checker_changed" : Str)) with
  | false =>
    rw [h1] at fin
    exact Ja (by rfl) L.saved ⟨by simp,fin Ext.refl⟩
  | true =>
    rw [h1] at fin
    refine Jf (Ja (by rfl) (by rfl) (J6 ⟨by simp,fun b hb => op_eq_strs (ss := ((found m us ds ts W s).map Fi.word).filter endP) (ts := []) (.inl (Store.set_old hn₇ hb)) (.inl (Store.set_same _ _ _)) (fun p hp => words_ok _ p (List.mem_filter.mp hp).1) (by simp) ⟨_,rfl,?_⟩⟩))
    have Ez : Ext (fun _ => False) σ₇ (σ₇.set b (.list [])) := Ext.refl.alloc hb
    have fin := fin Ez
    by_cases he : ((found m us ds ts W s).map Fi.word).filter endP = []
    · rw [show decide (((found m us ds ts W s).map Fi.word).filter endP = []) = true by simp only [he,decide_true]]
      rw [he] at fin
      exact Jz ⟨by simp,fin⟩
    · rw [show decide (((found m us ds ts W s).map Fi.word).filter endP = []) = false by simp only [he,decide_false]]
      rw [show (((found m us ds ts W s).map Fi.word).filter endP).isEmpty = false by cases h : ((found m us ds ts W s).map Fi.word).filter endP with | nil => exact absurd h he | cons _ _ => rfl] at fin
      exact Ja (by rfl) L.saved ⟨by simp,fin⟩
end

theorem DbAt.alive {σ : Store} {a : Addr} {D : Db} {N : Nat} {F : Addr → Prop} (h : DbAt σ a D N F) : DbAt σ a D N (fun b => F b ∧ σ b ≠ none) := by
  obtain ⟨fa,es,hda,hlen,hnone,hsome,hinj⟩ := h
  refine ⟨⟨fa,by rw [hda]; simp⟩,es,hda,hlen,hnone,fun t d hd => ?_,hinj⟩
  obtain ⟨i,h1,h2,h3,h4,h5⟩ := hsome t d hd
  exact ⟨i,h1,⟨h2,by rw [h4]; simp⟩,h3,h4,h5⟩
section
variable {w : World} {mg mb : Str → Option Value} {h₀ : Heap} {stk : List Env} {σ : Store} {d : Nat} {hf : Bool}
theorem new_chk {m : Bool} {aw : Addr} {Φ : AV → Store → Prop} (φ : ∀ σ' x dx,σ' x = some (.inst (Cm m) dx) → σ' dx = some (.dict [("files",.ref aw)]) → σ x = none → σ dx = none → Ext (fun _ => False) σ σ' → Φ (.ref x) σ') :
    Ca (cx w mg mb h₀ stk) (d + 2) hf σ (.val (.ref (Cm m))) [.ref aw] [] Φ := by
  refine Hz (fI := Yb) (by cases m <;> kernel_rfl) (by cases m <;> kernel_rfl) (by kernel_rfl) fun x dx hdx hx ne => ?_
  refine Checker_init (Cm_is m) (Store.set_same _ _ _) ((Store.set_ne ne).trans (Store.set_same _ _ _)) ⟨rfl,?_⟩
  have E : Ext (fun _ => False) σ (((σ.set dx (.dict [])).set x (.inst (Cm m) dx)).set dx (.dict [("files",.ref aw)])) := ((Ext.refl.new hdx).new hx).new hdx
  exact φ _ x dx ((Store.set_ne ne.symm).trans (Store.set_same _ _ _)) (Store.set_same _ _ _) hx hdx E
theorem new_db {a : Addr} {Φ : AV → Store → Prop} (φ : ∀ σ' x dx,σ' x = some (.inst cJsonDB dx) → σ' dx = some (.dict [("_db",.ref a)]) → σ x = none → σ dx = none → Ext (fun _ => False) σ σ' → Φ (.ref x) σ') :
    Ca (cx w mg mb h₀ stk) (d + 2) hf σ (.val (.ref cJsonDB)) [.ref a] [] Φ := by
  refine Hz (fI := aJsonDB___init__) (by kernel_rfl) (by kernel_rfl) (by kernel_rfl) fun x dx hdx hx ne => ?_
  refine JsonDB_init (Store.set_same _ _ _) ((Store.set_ne ne).trans (Store.set_same _ _ _)) (by simp) ⟨rfl,?_⟩
  have E : Ext (fun _ => False) σ (((σ.set dx (.dict [])).set x (.inst cJsonDB dx)).set dx (.dict (Es.put [] "_db" (.ref a)))) := ((Ext.refl.new hdx).new hx).new hdx
  exact φ _ x dx ((Store.set_ne ne.symm).trans (Store.set_same _ _ _)) (Store.set_same _ _ _) hx hdx E
theorem new_dep {y ch : Addr} {Φ : AV → Store → Prop} (φ : ∀ σ' x dx,σ' x = some (.inst cDependency dx) → σ' dx = some (.dict [("_closed",.bool false),("checker",.ref ch),("backend",.ref y)]) → σ x = none → σ dx = none → Ext (fun _ => False) σ σ' → Φ (.ref x) σ') :
    Ca (cx w mg mb h₀ stk) (d + 2) hf σ (.val (.ref cDependency)) [.ref y,.ref ch] [] Φ := by
  refine Hz (fI := V2) (by kernel_rfl) (by kernel_rfl) (by kernel_rfl) fun x dx hdx hx ne => ?_
  refine Dependency_init (Store.set_same _ _ _) ((Store.set_ne ne).trans (Store.set_same _ _ _)) ne.symm ⟨rfl,?_⟩
  have E : Ext (fun _ => False) σ (((σ.set dx (.dict [])).set x (.inst cDependency dx)).set dx (.dict [("_closed",.bool false),("checker",.ref ch),("backend",.ref y)])) := ((Ext.refl.new hdx).new hx).new hdx
  exact φ _ x dx ((Store.set_ne ne.symm).trans (Store.set_same _ _ _)) (Store.set_same _ _ _) hx hdx E
theorem new_task {a0 l t u : Addr} {nm : Str} {deps ts : List Str} {us : List (Option Bool)} {Φ : AV → Store → Prop} (h0 : σ a0 = some (.list []))
    (hn : (!(Builtin.Str.occurrences nm "=" 0 nm.length 1).isEmpty) = false) (hl : σ l = some (.list (strsA deps))) (nd : deps.Nodup) (hz : deps.length ≤ 900) (ht : σ t = some (.list (strsA ts))) (hzt : ts.length ≤ 900) (hu : σ u = some (.list (us.map utV))) (hzu : us.length ≤ 900)
    (φ : ∀ σ' x dx k,TaskAt σ' x dx k deps ts us → k.nm = nm → σ x = none → σ dx = none → (σ k.fl = none ∧ σ k.ul = none ∧ σ k.tl = none) → Ext (fun _ => False) σ σ' → Φ (.ref x) σ') :
    Ca (cx w mg mb h₀ stk) (d + 4) true σ (.val (.ref cTask)) [.str nm,.ref a0] [("file_dep",.ref l),("targets",.ref t),("uptodate",.ref u)] Φ := by
  refine Hz (fI := aTask___init__) (by kernel_rfl) (by kernel_rfl) (by kernel_rfl) fun x dx hdx hx ne => ?_
  have old : ∀ {b : Addr} {o : AO},σ b = some o → ((σ.set dx (.dict [])).set x (.inst cTask dx)) b = some o := fun h => Store.set_old (Store.set_old h hdx) ((Store.set_ne ne.symm).trans hx)
  have Ea : Ext (fun _ => False) σ ((σ.set dx (.dict [])).set x (.inst cTask dx)) := (Ext.refl.new hdx).new hx
  refine Task_init (Store.set_same _ _ _) ((Store.set_ne ne).trans (Store.set_same _ _ _)) ne.symm (old h0) (by simp) hn (old hl) nd hz (old ht) hzt (old hu) hzu fun σ' sl al fl tdl wl cl ga vs ul tl vd hx' hd' hal hfl hul htl hvd fr E => ⟨rfl,?_⟩
  obtain ⟨f1,f2,f3,f4,f5⟩ := fr
  have E' : Ext (fun _ => False) σ σ' := Ea.trans E (by rintro b rfl; exact .inr hdx)
  exact φ σ' x dx ⟨nm,.none,sl,al,.none,fl,tdl,wl,cl,ga,vs,ul,tl,vd,false⟩ ⟨hx',hd',hfl,hul,htl⟩ rfl hx hdx ⟨Ea.back f2,Ea.back f3,Ea.back f4⟩ E'
end
noncomputable def bitI (num : Int) (k : Nat) : Bool := (num.fdiv ((2 : Int) ^ k)).fmod 2 == 1
noncomputable def gD (num : Int) (o : Nat) : AV → Option AV
  | .int k => if bitI num k.toNat = true then (fs6[o + k.toNat]?).map .str else none
  | _ => none
noncomputable def pk4 (b0 b1 b2 b3 : Bool) : List Str := (if b0 then [("f1" : Str)] else []) ++ (if b1 then [("f2" : Str)] else []) ++ (if b2 then [("f3" : Str)] else []) ++ (if b3 then [("f4" : Str)] else [])
noncomputable def pk2 (b0 b1 : Bool) : List Str := (if b0 then [("t1" : Str)] else []) ++ (if b1 then [("t2" : Str)] else [])
theorem gD_int (num : Int) (o k : Nat) : gD num o (.int (k : Nat)) = if bitI num k = true then (fs6[o + k]?).map .str else none := rfl
theorem gD4 (num : Int) : (rangeA 4).filterMap (gD num 0) = strsA (pk4 (bitI num 0) (bitI num 1) (bitI num 2) (bitI num 3)) := by
  show [AV.int (0 : Nat),.int (1 : Nat),.int (2 : Nat),.int (3 : Nat)].filterMap (gD num 0) = _
  simp only [List.filterMap_cons,List.filterMap_nil,gD_int]
  cases bitI num 0 <;> cases bitI num 1 <;> cases bitI num 2 <;> cases bitI num 3 <;> rfl
theorem gD2 (num : Int) : (rangeA 2).filterMap (gD num 4) = strsA (pk2 (bitI num 0) (bitI num 1)) := by
  show [AV.int (0 : Nat),.int (1 : Nat)].filterMap (gD num 4) = _
  simp only [List.filterMap_cons,List.filterMap_nil,gD_int]
  cases bitI num 0 <;> cases bitI num 1 <;> rfl
theorem pk4_ok (a b c d : Bool) : (pk4 a b c d).Nodup ∧ (pk4 a b c d).length ≤ 4 ∧ ∀ p ∈ pk4 a b c d,p ∈ fs6.take 4 := by
  cases a <;> cases b <;> cases c <;> cases d <;> decide
theorem pk2_ok (a b : Bool) : (pk2 a b).length ≤ 2 ∧ ∀ p ∈ pk2 a b,p ∈ fs6 := by
  cases a <;> cases b <;> decide
theorem fs6_ok : ∀ p ∈ fs6,PyData.strOk p = true ∧ p.length ≤ 100 ∧ p ≠ "_values_:" ∧ p ≠ "checker:" ∧ p ≠ "deps:" := by
  intro p hp
  simp only [fs6,List.mem_cons,List.not_mem_nil,or_false] at hp
  rcases hp with rfl | rfl | rfl | rfl | rfl | rfl <;> exact ⟨by decide +kernel,by decide +kernel,by decide +kernel,by decide +kernel,by decide +kernel⟩
noncomputable def nms : List Str := ["t","u"]
theorem tu_at {i : Int} (h0 : 0 ≤ i) (h1 : i < 2) : ∃ ch,(seqIndex? i ("tu" : Str).length).bind (("tu" : Str).cps[·]?) = some ch ∧ ((⟨#[ch]⟩ : Str) = "t" ∨ (⟨#[ch]⟩ : Str) = "u") := by
  have : i = 0 ∨ i = 1 := by omega
  rcases this with rfl | rfl
  · exact ⟨116,by decide,.inl (by decide)⟩
  · exact ⟨117,by decide,.inr (by decide)⟩

noncomputable abbrev fs4 : List Str := fs6.take 4
theorem DS.alive {F F' : Addr → Prop} {σ σ' : Store} (s : DS F F' σ σ') (h : ∀ b,F b → σ b ≠ none) : DS F (fun b => F' b ∧ σ' b ≠ none) σ σ' :=
  ⟨⟨fun b hb => ⟨s.grow.1 b hb,s.live b (h b hb)⟩,fun b hb => s.grow.2 b hb.1⟩,s.keep,s.live⟩
noncomputable def offP (F : Addr → Prop) (kp : Addr) (s : Option Sav) (v : AV) : Prop := ∀ s',s = some s' → ∀ sl st,v = .tup [.str (cnm s'.m),.ref sl,.ref st] → (¬ F sl ∧ sl ≠ kp) ∧ (¬ F st ∧ st ≠ kp)
/-- what stands between the rounds -/
structure Krd (σ : Store) (db kp : Addr) (D : Db) (N : Nat) (F : Addr → Prop) (ks : Str → Option Sav) (kv : Str → AV) (B : Nat) : Prop where
  hD : DbAt σ db D N F
  hF : ∀ b,F b → σ b ≠ none
  hkp : σ kp = some (.dict [("t",kv "t"),("u",kv "u")])
  nk : ¬ F kp
  sv : ∀ nm ∈ nms,SavedAt σ (kv nm) (ks nm)
  off : ∀ nm ∈ nms,offP F kp (ks nm) (kv nm)
  H : ∀ nm ∈ nms,Held D nm fs4 (ks nm)
  ok : ∀ nm ∈ nms,SavOk (ks nm)
  n : ∀ nm ∈ nms,nOf (ks nm) ≤ B
noncomputable def updF {α : Type} (f : Str → α) (nm : Str) (v : α) : Str → α := fun q => if q = nm then v else f q
theorem Yx {α : Type} (f : Str → α) (nm : Str) (v : α) : updF f nm v nm = v := if_pos rfl
theorem Uf {α : Type} (f : Str → α) {nm q : Str} (v : α) (h : q ≠ nm) : updF f nm v q = f q := if_neg h
theorem kp_put {kv : Str → AV} {nm : Str} (v : AV) (h : nm ∈ nms) : Es.put [("t",kv "t"),("u",kv "u")] nm v = ([("t",updF kv nm v "t"),("u",updF kv nm v "u")] : Es) := by
  simp only [nms,List.mem_cons,List.not_mem_nil,or_false] at h
  rcases h with rfl | rfl <;> rfl
theorem kp_get {kv : Str → AV} {nm : Str} (h : nm ∈ nms) : Es.get [("t",kv "t"),("u",kv "u")] nm = some (kv nm) := by
  simp only [nms,List.mem_cons,List.not_mem_nil,or_false] at h
  rcases h with rfl | rfl <;> rfl
noncomputable def RdPost (σ₀ : Store) (db kp : Addr) (N : Nat) (F : Addr → Prop) (B : Nat) (Φ : AV → Store → Prop) : Prop :=
  ∀ σ' D' N' F' ks' kv',Krd σ' db kp D' N' F' ks' kv' (B + 4) → N' ≤ N + 8 → Grow σ₀ F F' → Ext (fun b => F b ∨ b = kp) σ₀ σ' → Φ (.bool true) σ'
theorem SavedAt.put {σ : Store} {v : AV} {s : Option Sav} {F : Addr → Prop} {kp : Addr} {o : AO} (h : SavedAt σ v s) (off : offP F kp s v) : SavedAt (σ.set kp o) v s := by
  cases s with
  | none => exact h
  | some s =>
    obtain ⟨sl,st,ses,e,h1,h2,h3,h4⟩ := h
    obtain ⟨⟨_,n1⟩,_,n2⟩ := off s rfl sl st e
    exact ⟨sl,st,ses,e,(Store.set_ne n1).trans h1,(Store.set_ne n2).trans h2,h3,h4⟩
theorem off_grow {σ : Store} {v : AV} {s : Option Sav} {F F' : Addr → Prop} {kp : Addr} (h : SavedAt σ v s) (off : offP F kp s v) (g : Grow σ F F') : offP F' kp s v := by
  intro s' hs sl st e
  subst hs
  obtain ⟨sl',st',ses,e',h1,h2,_,_⟩ := h
  rw [e] at e'; cases e'
  obtain ⟨⟨a1,a2⟩,b1,b2⟩ := off s' rfl sl st e
  exact ⟨⟨g.not h1 a1,a2⟩,g.not h2 b1,b2⟩
structure Put (σ₀ σ : Store) (db kp : Addr) (D D' : Db) (N N' : Nat) (F F' : Addr → Prop) (nm : Str) (s : Option Sav) (v : AV) (B : Nat) : Prop where
  hD : DbAt σ db D' N' F'
  hF : ∀ b,F' b → σ b ≠ none
  G : Grow σ₀ F F'
  E : Ext F σ₀ σ
  sv : SavedAt σ v s
  off : offP F' kp s v
  H : Held D' nm fs4 s
  ok : SavOk s
  n : nOf s ≤ B + 4
  oth : ∀ t,t ≠ nm → D' t = D t
  N' : N' ≤ N + 8
theorem Held.other {D D' : Db} {nm : Str} {ds : List Str} {s : Option Sav} (h : Held D nm ds s) (e : D' nm = D nm) : Held D' nm ds s := by
  have g : ∀ q,D'.get nm q = D.get nm q := fun q => by unfold Db.get; rw [e]
  exact ⟨(g _).trans h.chk,(g _).trans h.deps,fun p hp => (g p).trans (h.st p hp),h.ok⟩
theorem Krd.put {σ₀ σ : Store} {db kp : Addr} {D D' : Db} {N N' : Nat} {F F' : Addr → Prop} {ks : Str → Option Sav} {kv : Str → AV} {B : Nat} {nm : Str} {s : Option Sav} {v : AV} (K : Krd σ₀ db kp D N F ks kv B) (hn : nm ∈ nms) (P : Put σ₀ σ db kp D D' N N' F F' nm s v B) :
    Krd (σ.set kp (.dict [("t",updF kv nm v "t"),("u",updF kv nm v "u")])) db kp D' N' F' (updF ks nm s) (updF kv nm v) (B + 4) := by
  have nk' : ¬ F' kp := P.G.not K.hkp K.nk
  have svt : ∀ t ∈ nms,t ≠ nm → SavedAt σ (kv t) (ks t) := fun t ht ne => (K.sv t ht).ext P.E fun s' hs sl st e => ⟨(K.off t ht s' hs sl st e).1.1,(K.off t ht s' hs sl st e).2.1⟩
  have offt : ∀ t ∈ nms,offP F' kp (ks t) (kv t) := fun t ht => off_grow (K.sv t ht) (K.off t ht) P.G
  refine ⟨P.hD.keep fun b fb hb => Store.set_ne fun e => nk' (by rw [← e]; exact fb),fun b hb => ?_,Store.set_same _ _ _,nk',fun t ht => ?_,fun t ht => ?_,fun t ht => ?_,fun t ht => ?_,fun t ht => ?_⟩
  · rw [Store.set_ne fun e => nk' (by rw [← e]; exact hb)]; exact P.hF b hb
  · by_cases e : t = nm
    · subst e; rw [Yx,Yx]; exact P.sv.put P.off
    · rw [Uf _ _ e,Uf _ _ e]; exact (svt t ht e).put (offt t ht)
  · by_cases e : t = nm
    · subst e; rw [Yx,Yx]; exact P.off
    · rw [Uf _ _ e,Uf _ _ e]; exact offt t ht
  · by_cases e : t = nm
    · subst e; rw [Yx]; exact P.H
    · rw [Uf _ _ e]; exact (K.H t ht).other (P.oth t e)
  · by_cases e : t = nm
    · subst e; rw [Yx]; exact P.ok
    · rw [Uf _ _ e]; exact K.ok t ht
  · by_cases e : t = nm
    · subst e; rw [Yx]; exact P.n
    · rw [Uf _ _ e]; have := K.n t ht; omega
/-- the state while a round asks -/
structure Tn (h₀ : Heap) (σ₀ σ : Store) (m : Bool) (n : Nm) (nm : Str) (wes : Es) (ds ts : List Str) (us : List (Option Bool)) (D : Db) (N : Nat) (F : Addr → Prop) (dl tl ul : Addr) (W : Str → Option We) (s₀ : Option Sav) (v₀ : AV) (k : Tk) (s : Option Sav) (v : AV) (D' : Db) : Prop where
  Q : Rnd h₀ σ m n k wes ds ts us D' N F dl tl ul W s v
  hnm : k.nm = nm
  eq : (s = s₀ ∧ v = v₀ ∧ D' = D) ∨ (s = none ∧ v = .none ∧ D' = rmD D nm)
  E : Ext F σ₀ σ
  z : σ₀ n.tdx = none
section
variable {h₀ : Heap} {σ₀ σ σ' : Store} {m : Bool} {n : Nm} {nm : Str} {k : Tk} {wes : Es} {ds ts : List Str} {us : List (Option Bool)} {D D' : Db} {N : Nat} {F : Addr → Prop} {dl tl ul : Addr} {W : Str → Option We} {s s₀ : Option Sav} {v v₀ : AV}
theorem rmD_rmD (D : Db) (t : Str) : rmD (rmD D t) t = rmD D t := by
  funext q; unfold rmD; split <;> rfl
theorem Tn.step {c : Addr} {g : Bool} (T : Tn h₀ σ₀ σ m n nm wes ds ts us D N F dl tl ul W s₀ v₀ k s v D') (R' : Rd σ' m n { k with dc := .ref c } wes ds ts us) (hD' : DbAt σ' n.a (if g = true then rmD D' k.nm else D') N F) (E : Ext (Xn n) σ σ') :
    Tn h₀ σ₀ σ' m n nm wes ds ts us D N F dl tl ul W s₀ v₀ { k with dc := .ref c } (if g = true then none else s) (if g = true then .none else v) (if g = true then rmD D' k.nm else D') := by
  have E' : Ext F σ₀ σ' := T.E.trans E fun b hb => by
    rcases hb with rfl | rfl
    · exact .inr T.z
    · exact .inl T.Q.own
  refine ⟨T.Q.asked E R' hD' ?_,T.hnm,?_,E',T.z⟩
  · cases g
    · exact .inl ⟨rfl,rfl,rfl⟩
    · exact .inr ⟨rfl,rfl,rfl⟩
  · cases g
    · exact T.eq
    · refine .inr ⟨rfl,rfl,?_⟩
      show rmD D' k.nm = rmD D nm
      rw [T.hnm]
      rcases T.eq with ⟨_,_,e⟩ | ⟨_,_,e⟩
      · rw [e]
      · rw [e,rmD_rmD]
theorem Tn.held (T : Tn h₀ σ₀ σ m n nm wes ds ts us D N F dl tl ul W s₀ v₀ k s v D') (h : Held D nm fs4 s₀) : Held D' nm fs4 s := by
  rcases T.eq with ⟨rfl,_,rfl⟩ | ⟨rfl,_,rfl⟩
  · exact h
  · exact ⟨Zk _ _ _,Zk _ _ _,fun p _ => Zk _ _ _,fun s h => by cases h⟩
theorem Tn.oth (T : Tn h₀ σ₀ σ m n nm wes ds ts us D N F dl tl ul W s₀ v₀ k s v D') (t : Str) (h : t ≠ nm) : D' t = D t := by
  rcases T.eq with ⟨_,_,rfl⟩ | ⟨_,_,rfl⟩
  · rfl
  · exact if_neg h
theorem Tn.off {kp : Addr} (T : Tn h₀ σ₀ σ m n nm wes ds ts us D N F dl tl ul W s₀ v₀ k s v D') (h : offP F kp s₀ v₀) : offP F kp s v := by
  rcases T.eq with ⟨rfl,rfl,_⟩ | ⟨rfl,_,_⟩
  · exact h
  · intro s' h; cases h
theorem Tn.nle {B : Nat} (T : Tn h₀ σ₀ σ m n nm wes ds ts us D N F dl tl ul W s₀ v₀ k s v D') (h : nOf s₀ ≤ B) : nOf s ≤ B := by
  rcases T.eq with ⟨rfl,_,_⟩ | ⟨rfl,_,_⟩
  · exact h
  · exact Nat.zero_le _
end
/-- what was saved -/
theorem held_saved {D D' : Db} {nm : Str} {m : Bool} {W : Str → Option We} {ds : List Str} {s : Option Sav} {z : Nat} (h : Held D nm fs4 s) (hm : ∀ s',s = some s' → s'.m = m) (nd : ds.Nodup) (zd : ds.length ≤ 60)
    (h1 : D'.get nm "checker:" = some (.str (cnm m))) (h2 : D'.get nm "deps:" = some (.tup (strsA ds))) (h3 : ∀ q : Str,q ≠ "_values_:" → q ≠ "checker:" → q ≠ "deps:" → q ∉ ds → D'.get nm q = D.get nm q)
    (h4 : ∀ p ∈ ds,D'.get nm p = (upS m W (stOf s) p).map (sv m)) : Held D' nm fs4 (some ⟨m,ds,newSt m W s ds,z⟩) := by
  refine ⟨h1,h2,fun p hp => ?_,fun s' e => by cases e; exact ⟨nd,zd⟩⟩
  show D'.get nm p = (newSt m W s ds p).map (sv m)
  unfold newSt
  by_cases e : p ∈ ds
  · rw [if_pos e]; exact h4 p e
  · rw [if_neg e]
    obtain ⟨_,_,k1,k2,k3⟩ := fs6_ok p (List.mem_of_mem_take hp)
    rw [h3 p k1 k2 k3 e,h.st p hp]
    cases s with
    | none => rfl
    | some s' => rw [← hm s' rfl]; rfl
theorem held_ds {D : Db} {nm : Str} {s : Option Sav} {m : Bool} {ds : List Str} (h : Held D nm fs4 s) (hm : ∀ s',s = some s' → s'.m = m) (sub : ∀ p ∈ ds,p ∈ fs4) : ∀ p ∈ ds,D.get nm p = (stOf s p).map (sv m) := fun p hp => by
  rw [h.st p (sub p hp)]
  cases s with
  | none => rfl
  | some s' => rw [← hm s' rfl]; rfl

section
variable {w : World} {mg mb : Str → Option Value} {h₀ : Heap} {stk : List Env} {σ₀ σ : Store} {d : Nat} {hf : Bool} {m : Bool} {n : Nm} {nm : Str} {k : Tk} {wes : Es} {ds ts : List Str} {us : List (Option Bool)} {D D' : Db} {N N' B : Nat} {F F' : Addr → Prop} {db kp dl tl ul : Addr} {W : Str → Option We} {ks : Str → Option Sav} {kv : Str → AV} {s s₀ : Option Sav} {v v₀ : AV} {num : Int} {Φ : AV → Store → Prop} {ℓ : Locs}
noncomputable def rdBody (k : Nat) : List Stmt := lwBody.go k (subB (fS [27]))
noncomputable abbrev rdF (d : Nat) : Fn := ⟨(Str.ofString "_law_round") ++ ".<locals>.",fs [27],some Gf,.ref 643,d + 5,true⟩
structure RdL (ℓ : Locs) (kp : Addr) (num : Int) (m : Bool) (nm : Str) (n : Nm) (dl tl ul : Addr) : Prop where
  kept : ℓ "kept" = some (.ref kp)
  num : ℓ "number" = some (.int num)
  deps : ℓ "deps" = some (.ref dl)
  parts : ℓ "parts" = some (.tup [.ref dl,.ref tl,.ref ul])
  cn : ℓ "checker_name" = some (.str (cnm m))
  name : ℓ "name" = some (.str nm)
  world : ℓ "world" = some (.ref n.aw)
  man : ℓ "manager" = some (.ref n.x)
  task : ℓ "task" = some (.ref n.tx)
theorem RdL.set (L : RdL ℓ kp num m nm n dl tl ul) {x : Str} {v : AV} (h : x ∉ (["kept","number","deps","parts","checker_name","name","world","manager","task"] : List Str)) : RdL (ℓ.set x v) kp num m nm n dl tl ul := by
  simp only [List.mem_cons,List.not_mem_nil,or_false,not_or] at h
  obtain ⟨h1,h2,h3,h4,h5,h6,h7,h8,h9⟩ := h
  exact ⟨(Locs.set_ne (Ne.symm h1)).trans L.kept,(Locs.set_ne (Ne.symm h2)).trans L.num,(Locs.set_ne (Ne.symm h3)).trans L.deps,(Locs.set_ne (Ne.symm h4)).trans L.parts,(Locs.set_ne (Ne.symm h5)).trans L.cn,(Locs.set_ne (Ne.symm h6)).trans L.name,(Locs.set_ne (Ne.symm h7)).trans L.world,(Locs.set_ne (Ne.symm h8)).trans L.man,(Locs.set_ne (Ne.symm h9)).trans L.task⟩
theorem round_put (K : Krd σ₀ db kp D N F ks kv B) (hn : nm ∈ nms) (P : Put σ₀ σ db kp D D' N N' F F' nm s v B) (hk : ℓ "kept" = some (.ref kp)) (hnm : ℓ "name" = some (.str nm)) (hs : ℓ "saved" = some v) (φ : RdPost σ₀ db kp N F B Φ) :
    Ss (cx w mg mb h₀ stk) (rdF d) ℓ σ (rdBody 12) (fun r _ σ' => Φ (retv r) σ') := by
  refine Jb (Jd (Ja (by rfl) hs (Qt (Ja (by rfl) hk (Ja (by rfl) hnm (J5 (P.E.get K.hkp K.nk) (by simp) ?_))))))
  rw [kp_put v hn]
  have E₁ : Ext (fun b => F b ∨ b = kp) σ₀ σ := P.E.weaken fun _ h => Or.inl (Or.inl h)
  have E₂ : ∀ {o : AO},Ext (fun b => b = kp) σ (σ.set kp o) := fun {o} => Ext.refl.own (F := fun b => b = kp) rfl
  exact Jb (Jm (Qw (φ _ D' N' F' _ _ (K.put hn P) P.N' P.G (E₁.trans E₂ fun b h => Or.inl (Or.inr h)))))
theorem round_end (K : Krd σ₀ db kp D N F ks kv B) (hn : nm ∈ nms) (T : Tn h₀ σ₀ σ m n nm wes ds ts us D N F dl tl ul W (ks nm) (kv nm) k s v D') (hm : ∀ s',s = some s' → s'.m = m) (hdb : n.a = db) (zdl : σ₀ dl = none) (sub : ∀ p ∈ ds,p ∈ fs4) (hz : ds.length ≤ 4) (hN : N ≤ 800) (hB : B ≤ 300)
    (L : RdL ℓ kp num m nm n dl tl ul) (hs : ℓ "saved" = some v) (φ : RdPost σ₀ db kp N F B Φ) : Ss (cx w mg mb h₀ stk) (rdF d) ℓ σ (rdBody 11) (fun r _ σ' => Φ (retv r) σ') := by
  subst hdb
  have no : ∀ {σ : Store},∀ b : Addr,(fun _ : Addr => False) b → F b ∨ σ b = none := fun _ h => h.elim
  have nosave : ∀ {σ' : Store},Ext (fun _ => False) σ σ' → Ss (cx w mg mb h₀ stk) (rdF d) ℓ σ' (rdBody 12) (fun r _ σ' => Φ (retv r) σ') := fun E =>
    round_put K hn ⟨T.Q.hD.keep fun b fb hb => E.keep b hb id,fun b hb => E.live b (T.Q.hF b hb),.refl,T.E.trans E no,T.Q.sv.mono E,T.off (K.off nm hn),T.held (K.H nm hn),T.Q.ok,by have := T.nle (K.n nm hn); omega,T.oth,by omega⟩ L.kept L.name hs φ
  refine Jb (Jj (Qy ?_))
  refine Jf (J8 (J8 (Jl (by rfl) L.num (Ji (Qx (by decide) (noPy (by decide)) (Ji (Ys (by decide) (Ji (Yd ⟨_,rfl,?_⟩)))))))))
  cases h1 : ((num.fdiv 4096).fmod 4 != 3) with
  | false => exact Jc (nosave .refl)
  | true =>
  refine Jf (Yz rfl (Qh (by kernel_rfl)) (J1 (Ja (by rfl) L.deps ⟨dl,strsA ds,rfl,.inl T.Q.S.dl,Jx _ _ _,gq (missQ W),by simp; omega,fun σ' le => .inl ((le _ (by rw [T.Q.S.dl]; simp)).trans T.Q.S.dl),fun x hx σ' hle => ?_,fun a2 ha2 => ?_⟩)))
  · obtain ⟨p,hp,rfl⟩ := List.mem_map.mp hx
    have haw : σ' n.aw = some (.dict wes) := (hle _ (by rw [T.Q.S.aw]; simp)).trans T.Q.S.aw
    refine Je (by rfl) ⟨rfl,fun y u h => ?_,?_⟩
    · rw [Locs.set_ne]
      · exact h
      · rintro rfl; cases h
    · refine Jf (Ja (by rfl) (by rfl) (Jl (by rfl) L.world (Q7 haw ⟨_,rfl,?_⟩)))
      rw [T.Q.S.wd.has p,show (!(W p).isSome) = missQ W p by unfold missQ; cases W p <;> rfl]
      cases hz' : missQ W p with
      | true => exact ⟨rfl,Ja (by rfl) (by rfl) ⟨rfl,gq_t hz'⟩⟩
      | false => exact ⟨rfl,gq_f hz'⟩
  rw [Hx]
  have E₁ : Ext (fun _ => False) σ (σ.set a2 (.list (strsA (ds.filter (missQ W))))) := Ext.refl.alloc ha2
  have ha := Store.set_same σ a2 (.list (strsA (ds.filter (missQ W))))
  generalize σ.set a2 (.list (strsA (ds.filter (missQ W)))) = σ₁ at E₁ ha
  refine J6 ⟨by simp,fun b2 hb2 => op_eq_strs (ss := ds.filter (missQ W)) (ts := []) (.inl (Store.set_old ha hb2)) (.inl (Store.set_same _ _ _)) (fun p hp => T.Q.S.okd p (List.mem_filter.mp hp).1) (by simp) ⟨_,rfl,?_⟩⟩
  have E₂ : Ext (fun _ => False) σ (σ₁.set b2 (.list [])) := E₁.alloc hb2
  generalize σ₁.set b2 (.list []) = σ₂ at E₂
  by_cases he : ds.filter (missQ W) = []
  rotate_left
  · rw [show decide (ds.filter (missQ W) = []) = false by simp only [he,decide_false]]
    exact Jc (nosave E₂)
  rw [show decide (ds.filter (missQ W) = []) = true by simp only [he,decide_true]]
  have Q₂ := T.Q.ext E₂
  have al : ∀ p ∈ ds,(W p).isSome = true := fun p hp => by
    have := List.filter_eq_nil_iff.mp he p hp
    unfold missQ at this
    cases h : W p with
    | none => rw [h] at this; exact absurd rfl this
    | some _ => rfl
  have H4 := T.held (K.H nm hn)
  refine Jb (J0 (Jk (Ja (by rfl) L.man (Js (fm := Yv) Q₂.R.d.x Q₂.R.d.dx (by rfl) (by kernel_rfl) (Ja (by rfl) L.task ?_)))))
  refine Ca.cw (Dep_save (W := W) (S := stOf s) Q₂.R Q₂.hD Q₂.O (by omega) (by omega) Q₂.nd (fun p hp => ?_) (fun p hp => ?_) ?_ fun σ₃ D₃ N₃ F₃ hD₃ S₃ hN₃ o₃ g1 g2 g3 g4 => ?_)
  · obtain ⟨_,_,k1,k2,k3⟩ := fs6_ok p (List.mem_of_mem_take (sub p hp)); exact ⟨k1,k2,k3⟩
  · obtain ⟨e,he⟩ := Option.isSome_iff_exists.mp (al p hp)
    exact ⟨e,he,by rw [Q₂.S.wd p,he]; rfl⟩
  · rw [T.hnm]; exact held_ds H4 hm sub
  rw [T.hnm] at o₃ g1 g2 g3 g4
  have S₄ := S₃.alive Q₂.hF
  have hD₄ := hD₃.alive
  have E₃ : Ext F σ₂ σ₃ := ⟨S₃.keep,S₃.live⟩
  have hdl₃ : σ₃ dl = some (.list (strsA ds)) := E₃.get Q₂.S.dl fun f => K.hF dl f zdl
  have haw₃ : σ₃ n.aw = some (.dict wes) := E₃.get Q₂.S.aw (Q₂.O n.aw (by simp [bs])).2
  have sv₃ : SavedAt σ₃ v s := Q₂.sv.ext E₃ fun s' hs sl st e => ⟨(T.off (K.off nm hn) s' hs sl st e).1.1,(T.off (K.off nm hn) s' hs sl st e).2.1⟩
  have nB := T.nle (K.n nm hn)
  refine Jb (Jd (Ju (Qf (v := .ref Ge) (av := .val (.ref Ge)) (by rfl) (by kernel_rfl) (fun _ _ => .val _) ⟨_,rfl,.inl (by kernel_rfl),Ja (by rfl) hs (Ja (by rfl) L.deps (Jl (by rfl) L.world (Ja (by rfl) L.cn (Ca.cw (law_saved sv₃ hm (by omega) hdl₃ Q₂.nd Q₂.S.zd haw₃ Q₂.S.wd al fun σ₅ sl st E₅ sv₅ zl zs => Je (by rfl) ?_)))))⟩)))
  refine Jc (round_put K hn ⟨hD₄.keep fun b fb hb => E₅.keep b hb id,fun b hb => E₅.live b hb.2,⟨S₄.grow.1,fun b hb => (S₄.grow.2 b hb).imp id fun z => T.E.back (E₂.back z)⟩,((T.E.trans E₂ no).trans E₃ fun b h => Or.inl h).trans E₅ no,sv₅,?_,held_saved H4 hm Q₂.nd Q₂.S.zd g1 g2 g3 g4,?_,?_,fun t ht => (o₃ t ht).trans (T.oth t ht),by omega⟩ ((Locs.set_ne (by decide)).trans L.kept) ((Locs.set_ne (by decide)).trans L.name) (by rfl) φ)
  · intro s' hs' sl' st' e
    injection e with e; injection e with _ e; injection e with e1 e; injection e with e2 _; injection e1 with e1; injection e2 with e2
    subst e1 e2
    have kp₃ : σ₃ kp ≠ none := E₃.live kp (E₂.live kp (T.E.live kp (by rw [K.hkp]; simp)))
    exact ⟨⟨fun h => h.2 zl,fun h => kp₃ (by rw [← h]; exact zl)⟩,fun h => h.2 zs,fun h => kp₃ (by rw [← h]; exact zs)⟩
  · exact ⟨fun s' hs' => by cases hs'; exact ⟨Q₂.nd,Q₂.S.zd,Q₂.S.okd⟩⟩
  · show nOf s + ds.length ≤ B + 4; omega
end

theorem pow_ne {i : Nat} : ((2 : Int) ^ i) ≠ 0 := by
  have : (0 : Int) < 2 ^ i := Int.pow_pos (by decide)
  omega
theorem pow_small {i : Nat} (h : i < 4) : ((2 : Int) ^ i) ∈ smalls := by
  match i,h with
  | 0,_ => decide
  | 1,_ => decide
  | 2,_ => decide
  | 3,_ => decide
theorem file_at {i : Nat} (h : i < 6) : ∃ p,fs6[i]? = some p ∧ (strsA fs6)[i]? = some (.str p) := by
  have h' : i < fs6.length := h
  refine ⟨fs6[i],List.getElem?_eq_getElem h',?_⟩
  rw [List.getElem?_map,List.getElem?_eq_getElem h']; rfl
theorem ite_chk {c : Cx} {f : Fn} {ℓ : Locs} {σ : Store} {m : Bool} {aw : Addr} {ea eb : Expr} {Φ : AV → Store → Prop}
    (h : ∀ σ' x dx,σ' x = some (.inst (Cm m) dx) → σ' dx = some (.dict [("files",.ref aw)]) → σ x = none → σ dx = none → Ext (fun _ => False) σ σ' → Φ (.ref x) σ')
    (ha : ∀ Φ : AV → Store → Prop,(∀ σ' x dx,σ' x = some (.inst (Cm false) dx) → σ' dx = some (.dict [("files",.ref aw)]) → σ x = none → σ dx = none → Ext (fun _ => False) σ σ' → Φ (.ref x) σ') → Ev c f ℓ σ ea Φ)
    (hb : ∀ Φ : AV → Store → Prop,(∀ σ' x dx,σ' x = some (.inst (Cm true) dx) → σ' dx = some (.dict [("files",.ref aw)]) → σ x = none → σ dx = none → Ext (fun _ => False) σ σ' → Φ (.ref x) σ') → Ev c f ℓ σ eb Φ) :
    if (cnm m == ("TimestampChecker" : Str)) = true then Ev c f ℓ σ ea Φ else Ev c f ℓ σ eb Φ := by
  cases m with
  | false => rw [if_pos (by decide)]; exact ha Φ h
  | true => rw [if_neg (by decide)]; exact hb Φ h
section
variable {w : World} {mg mb : Str → Option Value} {h₀ : Heap} {stk : List Env} {σ₀ σ : Store} {d : Nat} {hf : Bool} {m : Bool} {n : Nm} {nm : Str} {k : Tk} {wes : Es} {ds ts : List Str} {us : List (Option Bool)} {D D' : Db} {N N' B : Nat} {F F' : Addr → Prop} {db kp dl tl ul : Addr} {W : Str → Option We} {ks : Str → Option Sav} {kv : Str → AV} {s s₀ : Option Sav} {v v₀ : AV} {num : Int} {Φ : AV → Store → Prop} {ℓ : Locs}
theorem round_loop (K : Krd σ₀ db kp D N F ks kv B) (hn : nm ∈ nms) (T : Tn h₀ σ₀ σ m n nm wes ds ts us D N F dl tl ul W (ks nm) (kv nm) k (ks nm) (kv nm) D) (hdb : n.a = db) (zdl : σ₀ dl = none) (sub : ∀ p ∈ ds,p ∈ fs4) (hz : ds.length ≤ 4) (hN : N ≤ 800) (hB : B ≤ 300)
    (L : RdL ℓ kp num m nm n dl tl ul) (hs : ℓ "saved" = some (kv nm)) (φ : RdPost σ₀ db kp N F B Φ) : Ss (cx w mg mb h₀ stk) (rdF d) ℓ σ (rdBody 10) (fun r _ σ' => Φ (retv r) σ') := by
  have tb : 0 ≤ (num.fdiv 16384).fmod 2 ∧ (num.fdiv 16384).fmod 2 < 2 := fmod_at (n := 2) (by decide)
  refine Jb (Qu rfl (itr_range (n := 2) (by rfl) (by kernel_rfl) (by intro _ _; rfl) (Ji ⟨rfl,fun i ℓ σ' => RdL ℓ kp num m nm n dl tl ul ∧ ∃ k s v D',Tn h₀ σ₀ σ' m n nm wes ds ts us D N F dl tl ul W (ks nm) (kv nm) k s v D' ∧ ℓ "saved" = some v ∧ ((num.fdiv 16384).fmod 2 < (i : Int) → ∀ s',s = some s' → s'.m = m),
    ⟨L,k,_,_,_,T,hs,fun h => absurd h (by omega)⟩,fun _ _ _ _ => trivial,?_,?_⟩)))
  · rintro i z ℓ σ₁ hv ⟨L,k,s,v,D',T,hs,hm⟩
    obtain ⟨rfl,hi⟩ := X8 hv
    refine Je (by rfl) ?_
    replace L := L.set (x := "turn") (v := .int i) (by decide)
    refine Jb (Jj (Jf (Ja (by rfl) (by rfl) (J8 (J8 (Jl (by rfl) L.num (Ji (Qx (by decide) (noPy (by decide)) (Ji (Ys (by decide) (Yt ⟨_,rfl,?_⟩))))))))))) 
    by_cases e : (i : Int) = (num.fdiv 16384).fmod 2
    · rw [show ((i : Int) == (num.fdiv 16384).fmod 2) = true by simp [e]]
      refine Jb (Jd (Ju (Qf (v := .ref Y2) (av := .val (.ref Y2)) (by rfl) (by kernel_rfl) (fun _ _ => .val _) ⟨_,rfl,.inl (by kernel_rfl),Ja (by rfl) L.man (Ja (by rfl) L.task (Ja (by rfl) L.parts (Ja (by rfl) ((Locs.set_ne (by decide)).trans hs) (Jl (by rfl) L.world (Ja (by rfl) L.cn (Ca.cw (law_with_log T.Q fun σ₂ c R₂ hD₂ E₂ => Qk rfl (vs := [.bool true,_]) (by rfl) (Je (by rfl) (Je (by rfl) ?_)))))))))⟩)))
      have L₂ := (L.set (x := "fine") (v := .bool true) (by decide)).set (x := "saved") (v := if (outOf true m us ds ts W s).2.1 = true then .none else v) (by decide)
      refine Jc (Jb (Jj (Hy (Jy (Ja (by rfl) (by rfl) (J4 ?_))))))
      refine Jc (Jc ⟨L₂,_,_,_,_,T.step R₂ hD₂ E₂,by rfl,fun _ s' hs' => ?_⟩)
      rw [log_out] at hs'
      cases s with
      | none => cases h : (!(chkOf m (none : Option Sav)).isEmpty) <;> rw [h] at hs' <;> cases hs'
      | some s1 =>
        by_cases q : s1.m = m
        · have : chkOf m (some s1) = [] := by unfold chkOf; exact if_pos q
          rw [this] at hs'
          cases hs'; exact q
        · have : chkOf m (some s1) = [.chk (cnm s1.m) (cnm m)] := by unfold chkOf; exact if_neg q
          rw [this] at hs'; cases hs'
    · rw [show ((i : Int) == (num.fdiv 16384).fmod 2) = false by simp [e]]
      refine Jb (Jd (Ju (Qf (v := .ref Y7) (av := .val (.ref Y7)) (by rfl) (by kernel_rfl) (fun _ _ => .val _) ⟨_,rfl,.inl (by kernel_rfl),Ja (by rfl) L.man (Ja (by rfl) L.task (Ja (by rfl) L.parts (Ja (by rfl) ((Locs.set_ne (by decide)).trans hs) (Jl (by rfl) L.world (Ja (by rfl) L.cn (Ca.cw (law_without_log T.Q fun σ₂ c R₂ hD₂ E₂ => Qk rfl (vs := [.bool true,_]) (by rfl) (Je (by rfl) (Je (by rfl) ?_)))))))))⟩)))
      have L₂ := (L.set (x := "fine") (v := .bool true) (by decide)).set (x := "saved") (v := if (outOf false m us ds ts W s).2.1 = true then .none else v) (by decide)
      refine Jc (Jb (Jj (Hy (Jy (Ja (by rfl) (by rfl) (J4 ?_))))))
      refine Jc (Jc ⟨L₂,_,_,_,_,T.step R₂ hD₂ E₂,by rfl,fun h s' hs' => ?_⟩)
      cases g : (outOf false m us ds ts W s).2.1 with
      | true => rw [g] at hs'; cases hs'
      | false =>
        rw [g] at hs'
        have ci : ((i + 1 : Nat) : Int) = (i : Int) + 1 := by omega
        exact hm (by omega) s' hs'
  · rintro ℓ σ₁ ⟨L,k,s,v,D',T,hs,hm⟩
    exact round_end K hn T (hm tb.2) hdb zdl sub hz hN hB L hs φ
end

section
variable {w : World} {mg mb : Str → Option Value} {h₀ : Heap} {stk : List Env} {σ₀ σ : Store} {d : Nat} {hf : Bool} {m : Bool} {n : Nm} {nm : Str} {k : Tk} {wes : Es} {ds ts : List Str} {us : List (Option Bool)} {D D' : Db} {N N' B : Nat} {F F' : Addr → Prop} {db kp dl tl ul : Addr} {W : Str → Option We} {ks : Str → Option Sav} {kv : Str → AV} {s s₀ : Option Sav} {v v₀ : AV} {num : Int} {Φ : AV → Store → Prop} {ℓ : Locs}
structure Rd2 (ℓ : Locs) (db kp : Addr) (num : Int) (dl : Addr) : Prop where
  db : ℓ "db" = some (.ref db)
  kept : ℓ "kept" = some (.ref kp)
  num : ℓ "number" = some (.int num)
  deps : ℓ "deps" = some (.ref dl)
theorem Rd2.set (L : Rd2 ℓ db kp num dl) {x : Str} {v : AV} (h : x ∉ (["db","kept","number","deps"] : List Str)) : Rd2 (ℓ.set x v) db kp num dl := by
  simp only [List.mem_cons,List.not_mem_nil,or_false,not_or] at h
  obtain ⟨h1,h2,h3,h4⟩ := h
  exact ⟨(Locs.set_ne (Ne.symm h1)).trans L.db,(Locs.set_ne (Ne.symm h2)).trans L.kept,(Locs.set_ne (Ne.symm h3)).trans L.num,(Locs.set_ne (Ne.symm h4)).trans L.deps⟩
theorem round_tn (K : Krd σ₀ db kp D N F ks kv B) (hn : nm ∈ nms) (hN : N ≤ 800) {x dx y dy ch dch aw tx tdx : Addr} (hnm : k.nm = nm) (E : Ext (fun _ => False) σ₀ σ) (R : Rd σ m ⟨x,dx,y,dy,db,ch,dch,aw,tx,tdx⟩ k wes ds ts us)
    (hz : ∀ b ∈ bs ⟨x,dx,y,dy,db,ch,dch,aw,tx,tdx⟩ k,σ₀ b = none) (S : LrS h₀ σ dl tl ul aw wes W ds ts us) (nd : ds.Nodup) (sub : ∀ p ∈ ds,p ∈ fs4) (subt : ∀ p ∈ ts,p ∈ fs6) :
    Tn h₀ σ₀ σ m ⟨x,dx,y,dy,db,ch,dch,aw,tx,tdx⟩ nm wes ds ts us D N F dl tl ul W (ks nm) (kv nm) k (ks nm) (kv nm) D := by
  have ztd : σ₀ tdx = none := hz tdx (by simp [bs])
  have al : ∀ b ∈ bs ⟨x,dx,y,dy,db,ch,dch,aw,tx,tdx⟩ k,σ b ≠ none := by
    intro b hb
    simp only [bs,List.mem_cons,List.not_mem_nil,or_false] at hb
    rcases hb with rfl | rfl | rfl | rfl | rfl | rfl | rfl | rfl | rfl | rfl | rfl | rfl
    · rw [R.d.x]; simp
    · rw [R.d.dx]; simp
    · rw [R.d.y]; simp
    · rw [R.d.dy]; simp
    · rw [R.c.x]; simp
    · rw [R.c.dx]; simp
    · rw [R.c.aw]; simp
    · rw [R.t.hx]; simp
    · rw [R.t.hdx]; simp
    · rw [R.t.hfl]; simp
    · rw [R.t.hul]; simp
    · rw [R.t.htl]; simp
  refine ⟨⟨R,K.hD.keep fun b fb hb => E.keep b hb id,fun b hb => ⟨al b hb,fun f => K.hF b f (hz b hb)⟩,fun b hb => E.live b (K.hF b hb),by omega,S,fun p hp => (fs6_ok p (subt p hp)).1,(K.sv nm hn).mono E,?_,?_,K.ok nm hn,nd,fun p hp => (fs6_ok p (List.mem_of_mem_take (sub p hp))).2.1⟩,hnm,.inl ⟨rfl,rfl,rfl⟩,E.weaken fun _ h => h.elim,ztd⟩
  · intro s' hs sl st e
    have sv := K.sv nm hn
    rw [hs] at sv
    obtain ⟨sl',st',ses,e',h1,h2,_,_⟩ := sv
    rw [e] at e'; cases e'
    obtain ⟨⟨a1,_⟩,b1,_⟩ := K.off nm hn s' hs sl st e
    exact ⟨⟨a1,fun h => by rw [h,show (Nm.mk x dx y dy db ch dch aw tx tdx).tdx = tdx from rfl,ztd] at h1; cases h1⟩,b1,fun h => by rw [h,show (Nm.mk x dx y dy db ch dch aw tx tdx).tdx = tdx from rfl,ztd] at h2; cases h2⟩
  · rw [hnm]
    have H := K.H nm hn
    exact ⟨H.chk,H.deps,fun p hp => H.st p (sub p hp),H.ok⟩
theorem round_mid (K : Krd σ₀ db kp D N F ks kv B) (X : (KZ w.params).In h₀) (E : Ext (fun _ => False) σ₀ σ) (hdl : σ dl = some (.list (strsA ds))) (zdl : σ₀ dl = none) (nd : ds.Nodup) (sub : ∀ p ∈ ds,p ∈ fs4) (hz : ds.length ≤ 4) (hN : N ≤ 800) (hB : B ≤ 300)
    (L : Rd2 ℓ db kp num dl) (φ : RdPost σ₀ db kp N F B Φ) : Ss (cx w mg mb h₀ stk) (rdF (d + 1)) ℓ σ (rdBody 2) (fun r _ σ' => Φ (retv r) σ') := by
  have no : ∀ {σ : Store},∀ b : Addr,(fun _ : Addr => False) b → (fun _ : Addr => False) b ∨ σ b = none := fun _ h => h.elim
  refine Jb (Qr rfl (Qh (by kernel_rfl)) (by rfl) (itr_range (n := 2) (by rfl) (by kernel_rfl) (by intro _ _; rfl) (Ji ⟨rfl,gD (num.fdiv 16) 4,by decide,fun _ _ => trivial,fun v hv σ' hle => ?_,fun tl htl => ?_⟩)))
  · obtain ⟨i,hv'⟩ := List.getElem?_of_mem hv
    obtain ⟨rfl,hi⟩ := X8 hv'
    obtain ⟨p,hp,hp'⟩ := file_at (i := 4 + i) (by omega)
    refine Je (by rfl) ⟨rfl,fun y u h => ?_,?_⟩
    · rw [Locs.set_ne]
      · exact h
      · rintro rfl; cases h
    · refine Jf (J8 (J8 (J8 (Jl (by rfl) L.num (Ji (Qx (by decide) (noPy (by decide)) (J8 (Ji (Ja (by rfl) (by rfl) (op_pow2 (by omega) (Qx pow_ne (noPy (pow_small (by omega))) (Ji (Ys (by decide) (Ji (Yt ⟨_,rfl,?_⟩)))))))))))))))
      change (if bitI (num.fdiv 16) i = true then _ else _)
      cases hz' : bitI (num.fdiv 16) i with
      | true => exact ⟨rfl,Jp (Qf (v := .ref 582) (av := .ref 582) (by rfl) (by kernel_rfl) (fun _ _ => .ref _) (J8 (Ji (Ja (by rfl) (by rfl) (op_add (op_sub_list (v := .str p) (fun _ _ => rfl) (Hv X).is (by omega) (by omega) (by rw [show ((4 : Int) + (i : Int)).toNat = 4 + i by omega]; exact hp') ⟨rfl,by rw [gD_int,hz',if_pos rfl,hp]; rfl⟩))))))⟩
      | false => exact ⟨rfl,by rw [gD_int,hz']; rfl⟩
  rw [gD2]
  obtain ⟨hzt,subt⟩ := pk2_ok (bitI (num.fdiv 16) 0) (bitI (num.fdiv 16) 1)
  generalize pk2 (bitI (num.fdiv 16) 0) (bitI (num.fdiv 16) 1) = ts at hzt subt
  have Et : Ext (fun _ => False) σ (σ.set tl (.list (strsA ts))) := Ext.refl.alloc htl
  have htl₁ := Store.set_same σ tl (.list (strsA ts))
  have hdl₁ := Et.get hdl id
  have E₁ := E.trans Et no
  generalize σ.set tl (.list (strsA ts)) = σ₁ at Et E₁ htl₁ hdl₁
  replace L := L.set (x := "targets") (v := .ref tl) (by decide)
  obtain ⟨u0,u1⟩ : 0 ≤ (num.fdiv 64).fmod 8 ∧ (num.fdiv 64).fmod 8 < 8 := fmod_at (n := 8) (by decide)
  obtain ⟨ul,us,hul,bl,zu⟩ := base_ut X (i := ((num.fdiv 64).fmod 8).toNat) (by omega)
  refine Jb (Jd (Jq (Ja (by rfl) L.deps (Ja (by rfl) (by rfl) (Jp (Qf (v := .ref 591) (av := .ref 591) (by rfl) (by kernel_rfl) (fun _ _ => .ref _) (J8 (J8 (Jl (by rfl) L.num (Ji (Qx (by decide) (noPy (by decide)) (Ji (Ys (by decide) (op_sub_list (v := .ref ul) (fun _ _ => rfl) (base_uts X).is u0 (by omega) hul ⟨by simp,Je (by rfl) ?_⟩))))))))))))))
  replace L := L.set (x := "parts") (v := .tup [.ref dl,.ref tl,.ref ul]) (by decide)
  have ltl : (ℓ.set "targets" (.ref tl)).set "parts" (.tup [.ref dl,.ref tl,.ref ul]) "targets" = some (.ref tl) := by rfl
  have lpa : (ℓ.set "targets" (.ref tl)).set "parts" (.tup [.ref dl,.ref tl,.ref ul]) "parts" = some (.tup [.ref dl,.ref tl,.ref ul]) := by rfl
  generalize (ℓ.set "targets" (.ref tl)).set "parts" (.tup [.ref dl,.ref tl,.ref ul]) = ℓ₁ at L ltl lpa ⊢
  have go : ∀ (m : Bool) (ℓ : Locs),Rd2 ℓ db kp num dl → ℓ "targets" = some (.ref tl) → ℓ "parts" = some (.tup [.ref dl,.ref tl,.ref ul]) → ℓ "checker_name" = some (.str (cnm m)) → Ss (cx w mg mb h₀ stk) (rdF (d + 1)) ℓ σ₁ (rdBody 5) (fun r _ σ' => Φ (retv r) σ') := by
    clear ltl lpa L ℓ₁
    intro m ℓ L ltl lpa lcn
    obtain ⟨v0,v1⟩ : 0 ≤ (num.fdiv 65536).fmod 2 ∧ (num.fdiv 65536).fmod 2 < 2 := fmod_at (n := 2) (by decide)
    obtain ⟨cp,hcp,hcn⟩ := tu_at v0 v1
    have hn : (⟨#[cp]⟩ : Str) ∈ nms := by simp only [nms,List.mem_cons,List.not_mem_nil,or_false]; exact hcn
    have heq : (!(Builtin.Str.occurrences (⟨#[cp]⟩ : Str) "=" 0 (⟨#[cp]⟩ : Str).length 1).isEmpty) = false := by
      rcases hcn with h | h <;> rw [h] <;> decide +kernel
    refine Jb (Jd (Jp (Jg (J8 (J8 (Jl (by rfl) L.num (Ji (Qx (by decide) (noPy (by decide)) (Ji (Ys (by decide) (op_sub_str (fun _ _ => rfl) v0 (by omega) hcp (Je (by rfl) ?_))))))))))))
    generalize (⟨#[cp]⟩ : Str) = nm at hn heq
    replace L := L.set (x := "name") (v := .str nm) (by decide)
    refine Jb (Jd (Ju (Qf (v := .ref a_law_world) (av := .val (.ref a_law_world)) (by rfl) (by kernel_rfl) (fun _ _ => .val _) ⟨_,rfl,.inl (by kernel_rfl),J8 (Jl (by rfl) L.num (Ji (Qx (by decide) (noPy (by decide)) (Ca.cw (law_world X fun σ₂ aw wes W haw wd zw zaw E₂ => Hw rfl (by rfl) ?_)))))⟩)))
    replace L := L.set (x := "world") (v := .ref aw) (by decide)
    refine Jb (Jd (Ju (Qf (v := .ref cDependency) (av := .val (.ref cDependency)) (by rfl) (by kernel_rfl) (fun _ _ => .val _) ⟨_,rfl,.inl (by kernel_rfl),?_⟩)))
    refine Ju (Qf (v := .ref cJsonDB) (av := .val (.ref cJsonDB)) (by rfl) (by kernel_rfl) (fun _ _ => .val _) ⟨_,rfl,.inl (by kernel_rfl),Ja (by rfl) L.db (Ca.cw (new_db fun σ₃ y dy hy hdy zy zdy E₃ => ?_))⟩)
    refine Qo (Jf (Ja (by rfl) ((Locs.set_ne (by decide)).trans ((Locs.set_ne (by decide)).trans lcn)) (Jg (Ql ⟨_,rfl,?_⟩))))
    refine ite_chk (aw := aw) (fun σ₄ ch dch hch hdch zch zdch E₄ => Ca.cw (new_dep fun σ₅ x dx hx hdx zx zdx E₅ => Je (by rfl) ?_)) (fun Φ h => ?_) (fun Φ h => ?_)
    rotate_left
    · exact Ju (Qf (v := .ref cTimestampChecker) (av := .val (.ref cTimestampChecker)) (by rfl) (by kernel_rfl) (fun _ _ => .val _) ⟨_,rfl,.inl (by kernel_rfl),Jl (by rfl) (by rfl) (Ca.cw (new_chk (m := false) h))⟩)
    · exact Ju (Qf (v := .ref cMD5Checker) (av := .val (.ref cMD5Checker)) (by rfl) (by kernel_rfl) (fun _ _ => .val _) ⟨_,rfl,.inl (by kernel_rfl),Jl (by rfl) (by rfl) (Ca.cw (new_chk (m := true) h))⟩)
    have E₁₂ := E₁.trans E₂ no
    have E₁₃ := E₁₂.trans E₃ no
    have E₁₄ := E₁₃.trans E₄ no
    have E₁₅ := E₁₄.trans E₅ no
    have e₂₅ := ((E₂.trans E₃ no).trans E₄ no).trans E₅ no
    have L' := L.set (x := "manager") (v := .ref x) (by decide)
    refine Jb (Jd (ev_call_kw (ns := ["file_dep","targets","uptodate"]) (Qf (v := .ref cTask) (av := .val (.ref cTask)) (by rfl) (by kernel_rfl) (fun _ _ => .val _) ⟨_,rfl,.inl (by kernel_rfl),Ja (by rfl) (by rfl) ?_⟩)))
    refine J6 ⟨by simp,fun a0 ha0 => Ja (by rfl) L'.deps (Ja (by rfl) ltl ?_)⟩
    refine Ju (Jt (by rfl) (by kernel_rfl) Zj ⟨_,rfl,Q8,Jp (Ja (by rfl) lpa (Ji (Jo (v := .ref ul) (fun _ _ => rfl) (by decide) (by decide) (by rfl) (cw_list bl.is (by simp; omega) fun u hu => ?_))))⟩)
    have Ea := E₁₅.alloc ha0 (o := .list [])
    have Eb := Ea.alloc hu (o := .list (us.map utV))
    have up : ∀ {b : Addr} {o : AO},σ₅ b = some o → ((σ₅.set a0 (.list [])).set u (.list (us.map utV))) b = some o := fun h => Store.set_old (Store.set_old h ha0) hu
    refine Ca.cw (new_task (Store.set_old (Store.set_same _ _ _) hu) heq (up (e₂₅.get hdl₁ id)) nd (by omega) (up (e₂₅.get htl₁ id)) (by omega) (Store.set_same _ _ _) (by omega) fun σ₆ tx tdx k T hnm ztx ztdx fr E₆ => Je (by rfl) ?_)
    have E₁₆ := Eb.trans E₆ no
    have up6 : ∀ {b : Addr} {o : AO},σ₅ b = some o → σ₆ b = some o := fun h => E₆.get (up h) id
    have haw₆ : σ₆ aw = some (.dict wes) := up6 (E₅.get (E₄.get (E₃.get haw id) id) id)
    have R : Rd σ₆ m ⟨x,dx,y,dy,db,ch,dch,aw,tx,tdx⟩ k wes ds ts us :=
      ⟨⟨up6 hx,up6 hdx,rfl,rfl,rfl,rfl,up6 (E₅.get (E₄.get hy id) id),up6 (E₅.get (E₄.get hdy id) id)⟩,⟨up6 (E₅.get hch id),up6 (E₅.get hdch id),haw₆⟩,T,by
        show aw ≠ tdx
        rintro rfl
        rw [up (E₅.get (E₄.get (E₃.get haw id) id) id)] at ztdx; cases ztdx⟩
    obtain ⟨f1,f2,f3⟩ := fr
    have zb : ∀ b ∈ bs (⟨x,dx,y,dy,db,ch,dch,aw,tx,tdx⟩ : Nm) k,σ₀ b = none := by
      intro b hb
      simp only [bs,List.mem_cons,List.not_mem_nil,or_false] at hb
      rcases hb with rfl | rfl | rfl | rfl | rfl | rfl | rfl | rfl | rfl | rfl | rfl | rfl
      · exact E₁₄.back zx
      · exact E₁₄.back zdx
      · exact E₁₂.back zy
      · exact E₁₂.back zdy
      · exact E₁₃.back zch
      · exact E₁₃.back zdch
      · exact E₁.back zaw
      · exact Eb.back ztx
      · exact Eb.back ztdx
      · exact Eb.back f1
      · exact Eb.back f2
      · exact Eb.back f3
    replace L' := L'.set (x := "task") (v := .ref tx) (by decide)
    refine Jb (Jd (Jp (Ja (by rfl) L'.kept (Ja (by rfl) (by rfl) (Qa (fun _ _ => rfl) (E₁₆.get K.hkp id) (kp_get hn) (Je (by rfl) ?_))))))
    replace L' := L'.set (x := "saved") (v := kv nm) (by decide)
    have TT := round_tn K hn hN hnm E₁₆ R zb ⟨up6 (e₂₅.get hdl₁ id),up6 (e₂₅.get htl₁ id),bl,haw₆,wd,by omega,by omega,by omega,fun p hp => (fs6_ok p (List.mem_of_mem_take (sub p hp))).1⟩ nd sub subt
    exact round_loop K hn TT rfl zdl sub hz hN hB ⟨L'.kept,L'.num,L'.deps,lpa,lcn,by rfl,by rfl,by rfl,by rfl⟩ (by rfl) φ
  refine Jb (Jd (Qo (Jf (J8 (J8 (Jl (by rfl) L.num (Ji (Qx (by decide) (noPy (by decide)) (Ji (Ys (by decide) (Ji (Yt ⟨_,rfl,?_⟩))))))))))))
  cases hm : ((num.fdiv 512).fmod 8 == 7) with
  | true => exact Jg (Je (by rfl) (go false _ (L.set (by decide)) ((Locs.set_ne (by decide)).trans ltl) ((Locs.set_ne (by decide)).trans lpa) (by rfl)))
  | false => exact Jg (Je (by rfl) (go true _ (L.set (by decide)) ((Locs.set_ne (by decide)).trans ltl) ((Locs.set_ne (by decide)).trans lpa) (by rfl)))
end

section
variable {w : World} {mg mb : Str → Option Value} {h₀ : Heap} {stk : List Env} {σ₀ σ : Store} {d : Nat} {hf : Bool} {ds : List Str} {D : Db} {N B : Nat} {F : Addr → Prop} {db kp dl : Addr} {ks : Str → Option Sav} {kv : Str → AV} {num : Int} {Φ : AV → Store → Prop} {ℓ : Locs}
theorem law_round (X : (KZ w.params).In h₀) (K : Krd σ db kp D N F ks kv B) (hN : N ≤ 800) (hB : B ≤ 300) (φ : RdPost σ db kp N F B Φ) :
    Ca (cx w mg mb h₀ stk) (d + 7) true σ (.val (.ref Gf)) [.ref db,.ref kp,.int num] [] Φ := by
  refine J3 (isD__law_round w.params) (ab := [("db",.ref db),("kept",.ref kp),("number",.int num)]) (bin3 fun _ _ _ _ => BindsTo.of_eq rfl) (by kernel_rfl) fun stk' => ?_
  refine Jb (Qr rfl (Qh (by kernel_rfl)) (by rfl) (itr_range (n := 4) (by rfl) (by kernel_rfl) (by intro _ _; rfl) (Ji ⟨rfl,gD num 0,by decide,fun _ _ => trivial,fun v hv σ' hle => ?_,fun dl hdl => ?_⟩)))
  · obtain ⟨i,hv'⟩ := List.getElem?_of_mem hv
    obtain ⟨rfl,hi⟩ := X8 hv'
    obtain ⟨p,hp,hp'⟩ := file_at (i := i) (by omega)
    refine Je (by rfl) ⟨rfl,fun y u h => ?_,?_⟩
    · rw [Locs.set_ne]
      · exact h
      · rintro rfl; cases h
    · refine Jf (J8 (J8 (Jl (by rfl) (by rfl) (J8 (Ji (Ja (by rfl) (by rfl) (op_pow2 (by omega) (Qx pow_ne (noPy (pow_small (by omega))) (Ji (Ys (by decide) (Ji (Yt ⟨_,rfl,?_⟩))))))))))))
      change (if bitI num i = true then _ else _)
      cases hz' : bitI num i with
      | true => exact ⟨rfl,Jp (Qf (v := .ref 582) (av := .ref 582) (by rfl) (by kernel_rfl) (fun _ _ => .ref _) (Ja (by rfl) (by rfl) (op_sub_list (v := .str p) (fun _ _ => rfl) (Hv X).is (by omega) (by omega) (by rw [show (i : Int).toNat = i by omega]; exact hp') ⟨rfl,by rw [gD_int,hz',if_pos rfl,Nat.zero_add,hp]; rfl⟩)))⟩
      | false => exact ⟨rfl,by rw [gD_int,hz']; rfl⟩
  rw [gD4]
  obtain ⟨nd,hz,sub⟩ := pk4_ok (bitI num 0) (bitI num 1) (bitI num 2) (bitI num 3)
  generalize pk4 (bitI num 0) (bitI num 1) (bitI num 2) (bitI num 3) = ds at nd hz sub
  have E₁ : Ext (fun _ => False) σ (σ.set dl (.list (strsA ds))) := Ext.refl.alloc hdl
  have hd₁ := Store.set_same σ dl (.list (strsA ds))
  generalize σ.set dl (.list (strsA ds)) = σ₁ at E₁ hd₁
  refine Jb (Jj (Jf (J8 (J8 (Jl (by rfl) (by rfl) (Ji (Qx (by decide) (noPy (by decide)) (Ji (Ys (by decide) (Ji (Yt ⟨_,rfl,?_⟩)))))))))))
  cases hr : ((num.fdiv 32768).fmod 2 == 1) with
  | false => exact Jc (round_mid K X E₁ hd₁ hdl nd sub hz hN hB ⟨by rfl,by rfl,by rfl,by rfl⟩ φ)
  | true =>
    refine Jb (Jd (ev_slice_rev (Ja (by rfl) (by rfl) ⟨dl,strsA ds,rfl,.inl hd₁,by simp; omega,fun a ha => Je (by rfl) ?_⟩)))
    rw [show (strsA ds).reverse = strsA ds.reverse by show (ds.map AV.str).reverse = ds.reverse.map AV.str; rw [List.map_reverse]]
    exact Jc (round_mid K X (E₁.alloc ha) (Store.set_same _ _ _) (E₁.back ha) ((List.reverse_perm ds).symm.nodup nd) (fun p hp => sub p (List.mem_reverse.mp hp)) (by simpa using hz) hN hB ⟨by rfl,by rfl,by rfl,by rfl⟩ φ)
end

section
variable {w : World} {mg mb : Str → Option Value} {h₀ : Heap} {stk : List Env} {σ : Store} {d : Nat} {hf : Bool}
noncomputable def intsA (ns : List Int) : List AV := ns.map .int
theorem ints_at {ns : List Int} {i : Nat} {v : AV} (e : (intsA ns)[i]? = some v) : ∃ n,v = .int n ∧ i < ns.length := by
  unfold intsA at e
  rw [List.getElem?_map] at e
  cases h : ns[i]? with
  | none => rw [h] at e; cases e
  | some s =>
    rw [h] at e; cases e
    refine ⟨s,rfl,?_⟩
    rcases Nat.lt_or_ge i ns.length with q | q
    · exact q
    · rw [List.getElem?_eq_none q] at h; cases h
theorem pick_ints (ns : List Int) (lo hi : Option Int) : ∃ ks,pick (intsA ns) lo hi = intsA ks ∧ ks.length ≤ (hi.elim ns.length (clipAt ns.length) - lo.elim 0 (clipAt ns.length)) := by
  unfold pick intsA
  rw [← List.map_drop,← List.map_take,List.length_map]
  exact ⟨_,rfl,by rw [List.length_take]; exact Nat.min_le_left _ _⟩
theorem law_all {l : Addr} {ns : List Int} {Φ : AV → Store → Prop} (X : (KZ w.params).In h₀) (hl : BaseL h₀ l (intsA ns)) (hz : ns.length ≤ 63) (φ : ∀ σ',Φ (.bool true) σ') :
    Ca (cx w mg mb h₀ stk) (d + 8) true σ (.val (.ref alaw)) [.ref l] [] Φ := by
  refine J3 (isD_law w.params) (ab := [("script",.ref l)]) (bin1 fun _ _ => BindsTo.of_eq rfl) (by kernel_rfl) fun stk' => ?_
  refine Jb (Jd (Qn fun db hdb => Je (by rfl) ?_))
  have hdb₁ := Store.set_same σ db (.dict [])
  generalize σ.set db (.dict []) = σ₁ at hdb₁
  refine Jb (Jd (ev_dict (pairs := [(_,_),(_,_)]) rfl rfl (by simp) (by simp) fun kp hkp => Jg ⟨"t",rfl,Jz (Jg ⟨"u",rfl,Jz ⟨by decide,Store.set_same _ _ _,Je (by rfl) ?_⟩⟩)⟩))
  have ndk : db ≠ kp := by rintro rfl; rw [hdb₁] at hkp; cases hkp
  have hdb₂ : ((σ₁.set kp (.dict [])).set kp (.dict [("t",.none),("u",.none)])) db = some (.dict []) := (Store.set_ne ndk).trans ((Store.set_ne ndk).trans hdb₁)
  have hkp₂ := Store.set_same (σ₁.set kp (.dict [])) kp (.dict [("t",.none),("u",.none)])
  generalize (σ₁.set kp (.dict [])).set kp (.dict [("t",.none),("u",.none)]) = σ₂ at hdb₂ hkp₂
  obtain ⟨ks',hks,hlen⟩ := pick_ints ns none (some 6)
  replace hlen : ks'.length ≤ 6 := by
    refine Nat.le_trans hlen ?_
    simp only [Option.elim_none,Option.elim_some,clipAt]
    omega
  refine Jb (Qu rfl (J1 (J8 (J6 (Ji ⟨by simp,fun c1 hc1 => ev_slice_list .none (.int 6 _ _) (Ja (by rfl) (by rfl) ⟨l,intsA ns,rfl,hl.is,by unfold intsA; simp; omega,fun c2 hc2 => ?_⟩)⟩)))))
  rw [hks]
  refine op_add_list (vs := intsA [0]) (ws := intsA ks') (.inl (Store.set_old (Store.set_same _ _ _) hc2)) (.inl (Store.set_same _ _ _)) (by unfold intsA; simp; omega) fun rl hrl => ?_
  have E : Ext (fun _ => False) σ₂ (((σ₂.set c1 (.list [.int 0])).set c2 (.list (intsA ks'))).set rl (.list (intsA [0] ++ intsA ks'))) := ((Ext.refl.alloc hc1).alloc hc2).alloc hrl
  have hrl' := Store.set_same ((σ₂.set c1 (.list [.int 0])).set c2 (.list (intsA ks'))) rl (.list (intsA [0] ++ intsA ks'))
  generalize (((σ₂.set c1 (.list [.int 0])).set c2 (.list (intsA ks'))).set rl (.list (intsA [0] ++ intsA ks'))) = σ₃ at E hrl' ⊢
  rw [show intsA [0] ++ intsA ks' = intsA (0 :: ks') from rfl] at hrl'
  have hdb₃ := E.get hdb₂ id
  have hkp₃ := E.get hkp₂ id
  have K : Krd σ₃ db kp (fun _ => none) 5 (· = db) (fun _ => none) (fun _ => .none) 0 := by
    refine ⟨⟨rfl,[],hdb₃,by simp,fun _ _ => rfl,fun _ _ h => (by cases h),fun _ _ _ h => (by cases h)⟩,?_,hkp₃,fun h => ndk h.symm,fun _ _ => rfl,fun _ _ _ h => (by cases h),fun _ _ => ⟨rfl,rfl,fun _ _ => rfl,fun _ h => (by cases h)⟩,fun _ _ => ⟨fun _ h => (by cases h)⟩,fun _ _ => Nat.le_refl _⟩
    rintro b rfl; rw [hdb₃]; simp
  have nrl : rl ≠ db := by rintro rfl; rw [hdb₃] at hrl'; cases hrl'
  refine ⟨rl,intsA (0 :: ks'),rfl,.inl hrl',Jx _ _ _,fun a ℓ σ' => ℓ "db" = some (.ref db) ∧ ℓ "kept" = some (.ref kp) ∧ σ' rl = some (.list (intsA (0 :: ks'))) ∧ ∃ D N F ks kv,Krd σ' db kp D N F ks kv (4 * a) ∧ N ≤ 5 + 8 * a ∧ ¬ F rl,
    ⟨by rfl,by rfl,hrl',_,_,_,_,_,K,by omega,nrl⟩,fun _ _ _ h => .inl h.2.2.1,?_,?_⟩
  · rintro a v ℓ σ' hv ⟨l1,l2,h3,D,N,F,ks,kv,K,hN,nf⟩
    obtain ⟨num,rfl,ha⟩ := ints_at hv
    rw [List.length_cons] at ha
    refine Je (by rfl) ?_
    refine Jb (Jj (Hy (Jy (Ju (Qf (v := .ref Gf) (av := .val (.ref Gf)) (by rfl) (by kernel_rfl) (fun _ _ => .val _) ⟨_,rfl,.inl (by kernel_rfl),Ja (by rfl) ((Locs.set_ne (by decide)).trans l1) (Ja (by rfl) ((Locs.set_ne (by decide)).trans l2) (Ja (by rfl) (by rfl) (Ca.cw (law_round X K (by omega) (by omega) fun σ'' D' N' F' ks' kv' K' hN' G' E' => J4 ?_))))⟩)))))
    have nk : rl ≠ kp := by rintro rfl; rw [K.hkp] at h3; cases h3
    exact Jc (Jc ⟨(Locs.set_ne (by decide)).trans l1,(Locs.set_ne (by decide)).trans l2,E'.get h3 (by rintro (h | h); exact nf h; exact nk h),D',N',F',ks',kv',K',by omega,G'.not h3 nf⟩)
  · rintro ℓ σ' -
    exact Jb (Jm (Qw (φ _)))
end

theorem ints_vr {h : Heap} : ∀ {xs : List Value} {ns : List Int},IntsAre xs ns → VRs h (intsA ns) xs
  | _,_,.nil => .nil
  | _,_,.cons n t r => .cons (.int n t) (ints_vr r)
theorem base_ints {P : Params} {h₀ : Heap} {l : Addr} {xs : List Value} {ns : List Int} {ds : List WData} (hL : h₀.IsList l xs.toArray) (hI : IntsAre xs ns) (hW : Well P h₀ (.ref l) (.list ds)) : BaseL h₀ l (intsA ns) := by
  cases hW with
  | @list _ vs _ e _ =>
    obtain ⟨o,e',_,n,hd⟩ := hL
    rw [e] at e'
    cases e'
    have e2 : vs.toArray = xs.toArray := by injection hd
    rw [e2] at e
    exact ⟨xs.toArray,0,e,fun h _ => ints_vr hI⟩
theorem law_join {w : World} {mg mb : Str → Option Value} {s₁ : Shared} {l : Addr} {ns : List Int} {R : Result → Shared → Prop} (KX : (KZ w.params).In s₁.heap) (g : s₁.heap.Ns mainGlobals mg) (b : s₁.heap.Ns builtinsNs mb) (lim : s₁.heap.NoLimit)
    (bi : ∀ x : Str,x ≠ "__name__" → mb x = bootBuiltins x) (hl : BaseL s₁.heap l (intsA ns)) (hz : ns.length ≤ 63)
    (φ : ∀ s',(∀ b o,s₁.heap.get? b = some o → s'.heap.get? b = some o) → s'.os = s₁.os → s'.gens = s₁.gens → R (.ok (.ret (.bool true))) s') : codeAny (model pg w) callerA (.call (.ref alaw) ⟨[.ref l],[]⟩) R s₁ := by
  have st : ∃ o,s₁.heap.get? cStatics = some o := by obtain ⟨mc,⟨o,_,_,ho,_⟩,_⟩ := lim; exact ⟨o,ho⟩
  refine law_all (w := w) (mg := mg) (mb := mb) (h₀ := s₁.heap) (stk := []) (σ := fun _ => none) (d := 0) (Φ := fun v _ => v = .bool true) KX hl hz (fun _ => rfl) callerA s₁ (.ref alaw) [.ref l] [] R
    ⟨KX,g,b,lim,bi⟩ ⟨rfl,by decide,by decide,fun _ => rfl⟩ ⟨fun _ _ e => e,fun _ _ e => (by cases e),fun _ e => absurd rfl e,st,rfl,fun _ h => nomatch h⟩ (.val _) (.cons (.ref _) .nil) .nil ?_
  intro v x σ' h' tk hv G' _ vr
  subst hv
  cases vr
  exact φ _ G'.keep rfl rfl

end Mine

open PySem PySem.W PyProof.Rows
set_option Elab.async false
set_option maxRecDepth 1000000
set_option maxHeartbeats 0
namespace Mine
theorem fin01 : PySem.Challenge.rw_az0001_01.Holds := by
  refine head01 ?hw ?hc
  case hw => w_witness2
  case hc =>
    intro d kwd hd0
    cases hd0
    intro w s₀ s₁ mg mb G Y fa o pm cd doc dV kV ho hd hcd hD hmg hg args vals as hpre hlay hrd hwl hlo
    have KX := kIn_of Y
    have X := (Ground.X G).1
    have V := (Ground.X G).2
    refine Ground.open G ?_
    intro T B D TE TW
    try (refine guard_noD D (by decide +kernel) ?_; clear D)
    obtain ⟨_,_,M⟩ := bmod_of_top T
    wrow_args hpre hlay hrd hwl hlo
    all_goals (first | refine callC_kw (enter_call ?_) | refine enter_call ?_ | refine callC_kw (enter_callW ?_) | refine enter_callW ?_ | w_how)
    all_goals (w_top on)
    all_goals (try refine codeAny_mono ?_ (fun _ _ g => GoodW.toG g))
    have K0 := below_caller (Top.heap T)
    rename IntsAre _ _ => hI
    rename Heap.IsList _ _ _ => hL
    rename Well _ _ _ _ => hW
    have eF : fa = alaw := by
      have h := mg_of KX T.g (n := "law") (v := .ref 651) (by kernel_rfl)
      rw [show mg "law" = some (.ref fa) from hmg] at h
      injection h with h
      injection h
    subst eF
    refine law_join KX T.g T.b T.nolimit T.builtins (base_ints hL hI hW) (by omega) fun s' kp hos hgn => ?_
    exact ⟨.inl ⟨.bool true,.bool true,[],rfl,fun _ => rfl,.bool true,by kernel_rfl,fun _ => ⟨.nil,fun _ h => nomatch h⟩⟩,kp,hos,hgn.trans hg⟩
end Mine
theorem PySem.Challenge.cw_az0001_01_holds : PySem.Challenge.rw_az0001_01.Holds := by
  exact Mine.fin01
