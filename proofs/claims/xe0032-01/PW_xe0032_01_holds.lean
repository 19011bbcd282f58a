import PyProof.Rows.All
import Wide.All
import OpenK.AllK
import Wide.FinOn
import PySem.Builtin.Re_Pattern.W2All
import PyProof.Rows.GenSrc
import KE.KDictLaws
import KE.KSortTup
import KE.BytesMake
import KE.KxBytes
import KE.KBytesWalk
import KE.KDictOf
import PyProof.AttrMissHeap
import Lean
import PySem.Challenge.RW_xe0032_01
open PySem PySem.W PyProof.Rows
set_option Elab.async false
set_option linter.unusedVariables false
set_option linter.unusedSimpArgs false
set_option linter.deprecated false
set_option linter.defProp false
set_option maxRecDepth 100000
set_option maxHeartbeats 0
set_option tactic.hygienic false
set_option genSizeOf false
set_option genInjectivity false
namespace Mine
theorem nsm {α : Type} {x : α} {p : Prop} (h : none = some x) : p:=nomatch h
theorem snm {α : Type} {x : α} {p : Prop} (h : some x = none) : p:=nomatch h
theorem ftm {p : Prop} (h : false = true) : p:=nomatch h
theorem tfm {p : Prop} (h : true = false) : p:=nomatch h
@[elab_as_elim] theorem rr {α : Sort u} {a b : α} {motive : α→Prop} (h : a = b) (p : motive b) : motive a:=h ▸ p
@[elab_as_elim] theorem rl {α : Sort u} {a b : α} {motive : α→Prop} (h : a = b) (p : motive a) : motive b:=h ▸ p
theorem si {α : Type} {a b : α} (h : some a = some b) : a = b:=Option.some.inj h
inductive V where
 | none | bool (b : Bool) | int (i : Int) | str (s : List Nat) | byt (s : List UInt8) | ref (a : Addr)
 | lst (xs : List V) | tup (xs : List V)
 | wsp (raw : List Nat) (n nt : Int) (count : List Int) (b : Int) (simple : Bool)
 | mat (s : List Nat) (b e : Nat)
 deriving Inhabited
noncomputable abbrev Im:=Addr→Option Obj
noncomputable abbrev tupOf (its : Array Value) (n : Nat) : Obj:={ cls:=.type "tuple",data:=.seq its n }
inductive VR (C : Addr) (I : Im) : V→Value→Prop where
 | none : VR C I .none .none
 | bool (b : Bool) : VR C I (.bool b) (.bool b)
 | int (i : Int) (t : Tok) : VR C I (.int i) (.int i t)
 | str (s : List Nat) (t : Tok) : VR C I (.str s) (.str ⟨s.toArray⟩ t)
 | byt (s : List UInt8) (t : Tok) : VR C I (.byt s) (.bytes s.toArray t)
 | ref (a : Addr) : VR C I (.ref a) (.ref a)
 | lst {xs : List V} {a : Addr} {vs : List Value} {n : Nat} : I a = some (listOf vs.toArray n)→vs.length = xs.length →
   (∀ (i : Nat) (x : V) (v : Value),xs[i]? = some x→vs[i]? = some v→VR C I x v)→VR C I (.lst xs) (.ref a)
 | tup {xs : List V} {a : Addr} {vs : List Value} {n : Nat} : I a = some (tupOf vs.toArray n)→vs.length = xs.length →
   (∀ (i : Nat) (x : V) (v : Value),xs[i]? = some x→vs[i]? = some v→VR C I x v)→VR C I (.tup xs) (.ref a)
 | wsp {raw : List Nat} {n nt : Int} {count : List Int} {b : Int} {simple : Bool} {a d : Addr} {h1 h2 h3 h4 h5 : Int} {t1 t2 t3 t4 t5 u1 u2 u3 : Tok} {v4 : Value} {ep : Nat} :
   I a = some (instObj C d) →
   I d = some (dictOf [⟨h1,.str (Str.ofString "raw") t1,.str ⟨raw.toArray⟩ u1⟩,⟨h2,.str (Str.ofString "n") t2,.int n u2⟩,⟨h3,.str (Str.ofString "nt") t3,.int nt u3⟩,
    ⟨h4,.str (Str.ofString "norm") t4,v4⟩,⟨h5,.str (Str.ofString "is_simple") t5,.bool simple⟩] ep) →
   VR C I (.tup [.tup (count.map .int),.int b]) v4→VR C I (.wsp raw n nt count b simple) (.ref a)
 | mat {s : List Nat} {b e : Nat} {a sp : Addr} {t : Tok} {pat : Value} {pos lim li : Int} {n : Nat} :
   I a = some { cls:=.type "re.Match",data:=.fields #[.str ⟨s.toArray⟩ t,pat,rawInt pos,rawInt lim,rawInt li,.ref sp] } →
   I sp = some (tupOf #[rawInt b,rawInt e] n)→VR C I (.mat s b e) (.ref a)
noncomputable def VRs (C : Addr) (I : Im) (xs : List V) (vs : List Value) : Prop:=vs.length = xs.length∧∀ (i : Nat) (x : V) (v : Value),xs[i]? = some x→vs[i]? = some v→VR C I x v
theorem VR.mono {C : Addr} {I I' : Im} (k : ∀ b o,I b = some o→I' b = some o) {x : V} {v : Value} (h : VR C I x v) : VR C I' x v:=by
 induction h with
 | none=>exact .none
 | bool b=>exact .bool b
 | int i t=>exact .int i t
 | str s t=>exact .str s t
 | byt s t=>exact .byt s t
 | ref a=>exact .ref a
 | lst h1 h2 _ ih=>exact .lst (k _ _ h1) h2 ih
 | tup h1 h2 _ ih=>exact .tup (k _ _ h1) h2 ih
 | wsp h1 h2 _ ih=>exact .wsp (k _ _ h1) (k _ _ h2) ih
 | mat h1 h2=>exact .mat (k _ _ h1) (k _ _ h2)
section
variable {C : Addr} {I I' : Im} {xs ys : List V} {vs us : List Value} {x : V} {v : Value}
theorem VRs.mono (k : ∀ b o,I b = some o→I' b = some o) (h : VRs C I xs vs) : VRs C I' xs vs:=⟨h.1,fun i x v a b=>(h.2 i x v a b).mono k⟩
theorem VRs.nil : VRs C I [] []:=⟨rfl,fun i x v a=>by simp at a⟩
theorem VRs.cons (h : VR C I x v) (t : VRs C I xs vs) : VRs C I (x :: xs) (v :: vs):=by
 refine ⟨by simp [t.1],fun i y u a b=>?_⟩
 cases i with
 | zero=>simp at a b;subst a b;exact h
 | succ i=>simp at a b;exact t.2 i y u a b
theorem VRs.one (h : VR C I x v) : VRs C I [x] [v]:=.cons h .nil
theorem VRs.two {x y : V} {v u : Value} (h : VR C I x v) (t : VR C I y u) : VRs C I [x,y] [v,u]:=.cons h (.one t)
theorem VRs.append (h : VRs C I xs vs) (t : VRs C I ys us) : VRs C I (xs ++ ys) (vs ++ us):=by
 refine ⟨by simp [h.1,t.1],fun i y u a b=>?_⟩
 by_cases q : i < xs.length
 ·replace a:=(List.getElem?_append_left q ..) ▸ a
  rw [List.getElem?_append_left (by rw [h.1];exact q)] at b
  exact h.2 i y u a b
 ·rw [List.getElem?_append_right (by lia)] at a
  rw [List.getElem?_append_right (by rw [h.1];lia)] at b;replace b:=(h.1 ..) ▸ b
  exact t.2 _ y u a b
inductive VGet (C : Addr) (I : Im) (x : V) (vs : List Value) (i : Nat) : Prop | mk (v : Value) (e : vs[i]? = some v) (h : VR C I x v)
inductive XGet (C : Addr) (I : Im) (xs : List V) (v : Value) (i : Nat) : Prop | mk (x : V) (e : xs[i]? = some x) (h : VR C I x v)
inductive VCons (C : Addr) (I : Im) (x : V) (xs : List V) (vs : List Value) : Prop | mk (v : Value) (us : List Value) (e : vs = v :: us) (h1 : VR C I x v) (h2 : VRs C I xs us)
inductive V1 (C : Addr) (I : Im) (x : V) (vs : List Value) : Prop | mk (v : Value) (e : vs = [v]) (h : VR C I x v)
inductive V2 (C : Addr) (I : Im) (x y : V) (vs : List Value) : Prop | mk (v u : Value) (e : vs = [v,u]) (h1 : VR C I x v) (h2 : VR C I y u)
inductive V3 (C : Addr) (I : Im) (x y z : V) (vs : List Value) : Prop | mk (v u t : Value) (e : vs = [v,u,t]) (h1 : VR C I x v) (h2 : VR C I y u) (h3 : VR C I z t)
inductive LstI (C : Addr) (I : Im) (xs : List V) (v : Value) : Prop | mk (a : Addr) (vs : List Value) (n : Nat) (e : v = .ref a) (h1 : I a = some (listOf vs.toArray n)) (h2 : VRs C I xs vs)
inductive TupI (C : Addr) (I : Im) (xs : List V) (v : Value) : Prop | mk (a : Addr) (vs : List Value) (n : Nat) (e : v = .ref a) (h1 : I a = some (tupOf vs.toArray n)) (h2 : VRs C I xs vs)
theorem VRs.get (h : VRs C I xs vs) {i : Nat} (e : xs[i]? = some x) : VGet C I x vs i:=by
 have q : i < vs.length:=by
  refine rr (h.1 ..) ?_
  exact (List.getElem?_eq_some_iff.mp e).1
 exact ⟨vs[i],List.getElem?_eq_getElem q,h.2 i x _ e (List.getElem?_eq_getElem q)⟩
theorem VRs.cons_inv {vs : List Value} (h : VRs C I (x :: xs) vs) : VCons C I x xs vs:=by
 cases vs with
 | nil=>have:=h.1;simp at this
 | cons v us =>
  refine ⟨v,us,rfl,h.2 0 x v rfl rfl,by have:=h.1;simpa using this,fun i y u a b=>h.2 (i + 1) y u (by simpa using a) (by simpa using b)⟩
theorem VRs.nil_inv {vs : List Value} (h : VRs C I [] vs) : vs = []:=by
 have:=h.1
 exact List.length_eq_zero_iff.mp (by simpa using this)
noncomputable def V.Shape (C : Addr) (I : Im) (v : Value) : V→Prop
 | .none=>∃ _ : Tok,v = .none
 | .bool b=>∃ _ : Tok,v = .bool b
 | .int i=>∃ t,v = .int i t
 | .str s=>∃ t,v = .str ⟨s.toArray⟩ t
 | .byt s=>∃ t,v = .bytes s.toArray t
 | .ref a=>∃ _ : Tok,v = .ref a
 | _=>True
theorem VR.inv (h : VR C I x v) : x.Shape C I v:=by
 cases h with
 | none=>exact ⟨0,rfl⟩
 | bool b=>exact ⟨0,rfl⟩
 | int i t=>exact ⟨t,rfl⟩
 | str s t=>exact ⟨t,rfl⟩
 | byt s t=>exact ⟨t,rfl⟩
 | ref a=>exact ⟨0,rfl⟩
 | lst=>trivial
 | tup=>trivial
 | wsp=>trivial
 | mat=>trivial
theorem VRs.inv1 (h : VRs C I [x] vs) : V1 C I x vs:=by
 obtain ⟨v,us,e,h1,h2⟩:=h.cons_inv
 exact ⟨v,h2.nil_inv ▸ e,h1⟩
theorem VRs.inv2 {y : V} (h : VRs C I [x,y] vs) : V2 C I x y vs:=by
 obtain ⟨v,us,e,h1,h2⟩:=h.cons_inv
 obtain ⟨u,e',h3⟩:=h2.inv1
 exact ⟨v,u,e' ▸ e,h1,h3⟩
theorem VRs.inv3 {y z : V} (h : VRs C I [x,y,z] vs) : V3 C I x y z vs:=by
 obtain ⟨v,us,e,h1,h2⟩:=h.cons_inv
 obtain ⟨u,t,e',h3,h4⟩:=h2.inv2
 exact ⟨v,u,t,e' ▸ e,h1,h3,h4⟩
theorem VRs.get' (h : VRs C I xs vs) {i : Nat} (e : vs[i]? = some v) : XGet C I xs v i:=by
 have q : i < xs.length:=by
  refine rl (h.1 ..) ?_
  exact (List.getElem?_eq_some_iff.mp e).1
 exact ⟨xs[i],List.getElem?_eq_getElem q,h.2 i _ v (List.getElem?_eq_getElem q) e⟩
theorem VR.lst_inv (h : VR C I (.lst xs) v) : LstI C I xs v:=by
 cases h with
 | lst h1 h2 h3=>exact ⟨_,_,_,rfl,h1,h2,h3⟩
theorem VR.tup_inv (h : VR C I (.tup xs) v) : TupI C I xs v:=by
 cases h with
 | tup h1 h2 h3=>exact ⟨_,_,_,rfl,h1,h2,h3⟩
theorem VR.mk_lst {a : Addr} {n : Nat} (h1 : I a = some (listOf vs.toArray n)) (h : VRs C I xs vs) : VR C I (.lst xs) (.ref a):=.lst h1 h.1 h.2
theorem VR.mk_tup {a : Addr} {n : Nat} (h1 : I a = some (tupOf vs.toArray n)) (h : VRs C I xs vs) : VR C I (.tup xs) (.ref a):=.tup h1 h.1 h.2
end
inductive Cell where
 | lst (xs : List V)
 | dct (es : List (List Nat × V))
 | ins (C d : Addr)
 | nsd (es : List (Str × V))
 | raw (p : Obj→Prop)
noncomputable abbrev St:=List (Addr × Cell)
abbrev QV:=V→St→Prop
noncomputable def keys (σ : St) : List Addr:=σ.map (·.1)
noncomputable def DctOf (P : Params) (o : Obj) (kvs : List (Str × Value)) : Prop:=∃ (prog : Program) (w : World),w.params = P∧o.IsDictOf (strKind prog w) kvs
inductive LstO (C : Addr) (I : Im) (xs : List V) (o : Obj) : Prop | mk (vs : List Value) (n : Nat) (e : o = listOf vs.toArray n) (h : VRs C I xs vs)
inductive DctO (P : Params) (C : Addr) (I : Im) (es : List (List Nat × V)) (o : Obj) : Prop
 | mk (kvs : List (Str × Value)) (h1 : DctOf P o kvs) (h2 : kvs.map (·.1) = es.map (fun p=>(⟨p.1.toArray⟩ : Str))) (h3 : VRs C I (es.map (·.2)) (kvs.map (·.2)))
inductive NsdO (C : Addr) (I : Im) (es : List (Str × V)) (o : Obj) : Prop
 | mk (ents : List DictEntry) (n : Nat) (e : o = dictOf ents n) (hl : ents.length = es.length) (h : ∀ (i : Nat) k x (e : DictEntry),es[i]? = some (k,x)→ents[i]? = some e→(∃ t,e.key = .str k t)∧VR C I x e.val)
noncomputable def Cell.Is (P : Params) (C : Addr) (I : Im) : Cell→Obj→Prop
 | .lst xs,o=>LstO C I xs o
 | .dct es,o=>DctO P C I es o
 | .ins C' d,o=>o = instObj C' d
 | .nsd es,o=>NsdO C I es o
 | .raw p,o=>p o
theorem Cell.Is.mono {P : Params} {C : Addr} {I I' : Im} (k : ∀ b o,I b = some o→I' b = some o) {c : Cell} {o : Obj} (h : c.Is P C I o) : c.Is P C I' o:=by
 cases c with
 | lst xs=>obtain ⟨vs,n,e,h⟩:=h;exact ⟨vs,n,e,h.mono k⟩
 | dct es=>obtain ⟨vs,n,e,h⟩:=h;exact ⟨vs,n,e,h.mono k⟩
 | ins C' d=>exact h
 | nsd es=>obtain ⟨vs,n,e,l,h⟩:=h;exact ⟨vs,n,e,l,fun i k' x e' a b=>let ⟨q,t⟩:=h i k' x e' a b;⟨q,t.mono k⟩⟩
 | raw p=>exact h
structure Fc where
 env : Env
 slots : List (Str × Option Addr)
 h₀ : Heap
 frames : Option (List Env)
 hd : Option Value:=none
 lvl : Nat
 gs : Array GenState→Drawn→Prop:=fun g _=>AllBare g
noncomputable def Fc.own (Φ : Fc) : List Addr:=Φ.env.locals :: Φ.slots.filterMap (·.2)
structure Fc.Ok (Φ : Fc) : Prop where
 kind : Φ.env.scope.kind = .function
 nd : Φ.own.Nodup
 names : (Φ.slots.map (·.1)).Nodup
 loc : ∀ x,(x,none)∈Φ.slots→Φ.env.kindOf x = some .local
 cel : ∀ x c,(x,some c)∈Φ.slots→(Φ.env.kindOf x = some .cell ∨ Φ.env.kindOf x = some .free)∧Φ.env.cells.lookup x = some c
 debug : ∀ x∈Φ.slots,(x.1 == ("__debug__" : Str)) = false∧(x.1 == ("__classdict__" : Str)) = false
 globals : Φ.env.globals = mainGlobals
 lv : 1 ≤ Φ.lvl
structure AOk (Φ : Fc) (A : Around) : Prop where
 hd : A.handled = Φ.hd
 fr : A.frames = Φ.frames
 dp : A.depth + 20 * Φ.lvl ≤ 600
 un : A.units + 50 * Φ.lvl ≤ 5000
theorem AOk.depth {Φ : Fc} {A : Around} (a : AOk Φ A) : A.depth < recursionLimit:=by have:=a.dp;show A.depth < 1000;lia
theorem AOk.units {Φ : Fc} {A : Around} (a : AOk Φ A) : A.units < cLine:=by have:=a.un;show A.units < 9900;lia
inductive CellAt (P : Params) (C : Addr) (I : Im) (h : Heap) (a : Addr) (c : Cell) : Prop | mk (o : Obj) (ho : h.get? a = some o) (hc : c.Is P C I o)
inductive NsAt (C : Addr) (L : Addr) (sl : List (Str × Option Addr)) (I : Im) (ρ : List (Option V)) (h : Heap) : Prop
 | mk (m : Str→Option Value) (hn : h.Ns L m) (hv : ∀ (i : Nat) (x : Str) (v : V),sl[i]? = some (x,none)→ρ[i]? = some (some v)→∃ val,m x = some val∧VR C I v val)
inductive VarAt (C : Addr) (I : Im) (h : Heap) (c : Addr) (r : Option (Option V)) : Prop
 | mk (u : Option Value) (hc : h.IsCell c u) (hv : ∀ v : V,r = some (some v)→∃ val,u = some val∧VR C I v val)
structure Rel (P : Params) (C : Addr) (Φ : Fc) (I : Im) (ρ : List (Option V)) (σ : St) (s : Shared) : Prop where
 im : ∀ b o,I b = some o→s.heap.get? b = some o
 base : ∀ b o,Φ.h₀.get? b = some o→I b = some o
 cell : ∀ a c,(a,c)∈σ→CellAt P C I s.heap a c
 apart : ∀ a∈keys σ,I a = none∧a ∉ Φ.own
 nodup : (keys σ).Nodup
 ownI : ∀ a∈Φ.own,I a = none
 ns : NsAt C Φ.env.locals Φ.slots I ρ s.heap
 cells : ∀ (i : Nat) (x : Str) (c : Addr),Φ.slots[i]? = some (x,some c)→VarAt C I s.heap c ρ[i]?
 gens : Φ.gs s.gens s.drawn
structure Kp (W : List Addr) (I : Im) (σ : St) (I' : Im) (σ' : St) (s s' : Shared) : Prop where
 keep : ∀ b o,s.heap.get? b = some o→b ∉ keys σ→b ∉ W→s'.heap.get? b = some o
 alive : ∀ b,(s.heap.get? b).isSome = true→(s'.heap.get? b).isSome = true
 new : ∀ a,((I' a).isSome = true ∨ a∈keys σ')→(I a).isSome = true ∨ a∈keys σ ∨ s.heap.get? a = none
 im : ∀ b o,I b = some o→I' b = some o
 os : s'.os = s.os
theorem Kp.refl {W : List Addr} {I : Im} {σ : St} {s : Shared} : Kp W I σ I σ s s:=⟨fun _ _ e _ _=>e,fun _ e=>e,fun a h=>h.elim .inl fun h=>.inr (.inl h),fun _ _ e=>e,rfl⟩
theorem Kp.trans {W : List Addr} {I I₁ I₂ : Im} {σ σ₁ σ₂ : St} {s s₁ s₂ : Shared} (x : Kp W I σ I₁ σ₁ s s₁) (y : Kp W I₁ σ₁ I₂ σ₂ s₁ s₂)
  (ha : ∀ a∈keys σ₁,I₁ a = none) : Kp W I σ I₂ σ₂ s s₂:=by
 have fresh : ∀ a,s₁.heap.get? a = none→s.heap.get? a = none:=fun a e=>by
  cases q : s.heap.get? a with
  | none=>rfl
  | some o=>have:=x.alive a (by refine rr q ?_;rfl);replace this:=e ▸ this;exact ftm this
 refine ⟨fun b o e hk hw=>?_,fun b e=>y.alive b (x.alive b e),fun a h=>?_,fun b o e=>y.im b o (x.im b o e),y.os.trans x.os⟩
 ·refine y.keep b o (x.keep b o e hk hw) (fun hk'=>?_) hw
  rcases x.new b (.inr hk') with q | q | q
  ·obtain ⟨o',ho⟩:=Option.isSome_iff_exists.mp q
   have:=ha b hk'
   replace this:=(x.im b o' ho ..) ▸ this
   exact snm this
  ·exact hk q
  ·replace q:=e ▸ q;exact snm q
 ·rcases y.new a h with q | q | q
  ·exact x.new a (.inl q)
  ·exact x.new a (.inr q)
  ·exact .inr (.inr (fresh a q))
structure Gr (I I' : Im) (s s' : Shared) : Prop where
 im : ∀ b o,I b = some o→I' b = some o
 keep : ∀ b o,s.heap.get? b = some o→s'.heap.get? b = some o
 new : ∀ a,(I' a).isSome = true→(I a).isSome = true ∨ s.heap.get? a = none
 sub : ∀ b o,I' b = some o→s'.heap.get? b = some o
 gens : s'.gens = s.gens∧s'.drawn = s.drawn
 os : s'.os = s.os
theorem Gr.same {I : Im} {s : Shared} {h' : Heap} {tk : Nat} (h : ∀ b o,I b = some o→s.heap.get? b = some o) (k : ∀ b o,s.heap.get? b = some o→h'.get? b = some o) : Gr I I s { s with heap:=h',toks:=tk } :=
 ⟨fun _ _ e=>e,k,fun _ e=>.inl e,fun b o e=>k b o (h b o e),⟨rfl,rfl⟩,rfl⟩
noncomputable def Im.put (I : Im) (a : Addr) (o : Obj) : Im:=fun b=>if b = a then some o else I b
theorem Im.put_self {I : Im} {a : Addr} {o : Obj} : I.put a o a = some o:=by simp [Im.put]
theorem Im.put_ne {I : Im} {a b : Addr} {o : Obj} (h : b ≠ a) : I.put a o b = I b:=by simp [Im.put,h]
theorem Gr.put {I : Im} {s : Shared} {h' : Heap} {tk : Nat} {a : Addr} {o : Obj} (h : ∀ b o,I b = some o→s.heap.get? b = some o) (k : ∀ b o,s.heap.get? b = some o→h'.get? b = some o)
  (ha : s.heap.get? a = none) (ho : h'.get? a = some o) : Gr I (I.put a o) s { s with heap:=h',toks:=tk }:=by
 refine ⟨fun b o' e=>?_,k,fun b e=>?_,fun b o' e=>?_,⟨rfl,rfl⟩,rfl⟩
 ·have : b ≠ a:=fun q=>by replace e:=q ▸ e;replace ha:=(h _ _ e ..) ▸ ha;exact snm ha
  refine rr (Im.put_ne this ..) ?_;exact e
 ·by_cases q : b = a
  ·subst q;exact .inr ha
  ·replace e:=(Im.put_ne q ..) ▸ e;exact .inl e
 ·by_cases q : b = a
  ·subst q;replace e:=(Im.put_self ..) ▸ e;obtain rfl:=si e;exact ho
  ·replace e:=(Im.put_ne q ..) ▸ e;exact k _ _ (h _ _ e)
section
variable {P : Params} {C : Addr} {Φ : Fc} {I I' : Im} {ρ : List (Option V)} {σ : St} {s s' : Shared}
theorem Rel.key_alive (R : Rel P C Φ I ρ σ s) {a : Addr} (h : a∈keys σ) : ∃ o,s.heap.get? a = some o:=by
 obtain ⟨⟨b,c⟩,hm,rfl⟩:=List.mem_map.mp h
 obtain ⟨o,ho,_⟩:=R.cell b c hm
 exact ⟨o,ho⟩
theorem isCell_alive {h : Heap} {c : Addr} {u : Option Value} (x : h.IsCell c u) : ∃ o,h.get? c = some o:=let ⟨o,e,_⟩:=x;⟨o,e⟩
theorem Rel.own_alive (R : Rel P C Φ I ρ σ s) {a : Addr} (h : a∈Φ.own) : ∃ o,s.heap.get? a = some o:=by
 rcases List.mem_cons.mp h with rfl | h
 ·obtain ⟨m,⟨o,_,_,ho,_⟩,_⟩:=R.ns
  exact ⟨o,ho⟩
 ·obtain ⟨⟨x,c⟩,hm,e⟩:=List.mem_filterMap.mp h
  obtain ⟨i,hi,q⟩:=List.getElem_of_mem hm
  dsimp only at e
  subst e
  obtain ⟨u,hc,_⟩:=R.cells i x a (by refine rr (List.getElem?_eq_getElem hi ..) ?_;refine rr q ?_;rfl)
  exact isCell_alive hc
theorem Rel.grow (R : Rel P C Φ I ρ σ s) (G : Gr I I' s s') : Rel P C Φ I' ρ σ s':=by
 have no : ∀ a,I a = none→(∃ o,s.heap.get? a = some o)→I' a = none:=fun a h1 z0=>by
  obtain ⟨o,h2⟩:=z0
  cases q : I' a with
  | none=>rfl
  | some o' =>
   rcases G.new a (by refine rr q ?_;rfl) with z | z
   ·replace z:=h1 ▸ z;exact ftm z
   ·replace z:=h2 ▸ z;exact snm z
 refine ⟨G.sub,fun b o e=>G.im b o (R.base b o e),fun a c hm=>?_,fun a ha=>⟨no a (R.apart a ha).1 (R.key_alive ha),(R.apart a ha).2⟩,R.nodup,fun a ha=>no a (R.ownI a ha) (R.own_alive ha),?_,fun i x c h=>?_,by refine rr (G.gens.1 ..) ?_;refine rr (G.gens.2 ..) ?_;exact R.gens⟩
 ·obtain ⟨o,ho,hc⟩:=R.cell a c hm
  exact ⟨o,G.keep a o ho,hc.mono G.im⟩
 ·obtain ⟨m,hn,h⟩:=R.ns
  exact ⟨m,hn.keeps G.keep,fun i x v a b=>let ⟨val,e,r⟩:=h i x v a b;⟨val,e,r.mono G.im⟩⟩
 ·obtain ⟨u,hc,q⟩:=R.cells i x c h
  refine ⟨u,?_,fun v e=>let ⟨val,e',r⟩:=q v e;⟨val,e',r.mono G.im⟩⟩
  obtain ⟨o,ho,hd⟩:=hc
  exact ⟨o,G.keep _ _ ho,hd⟩
theorem Gr.kp {W : List Addr} (G : Gr I I' s s') : Kp W I σ I' σ s s' :=
 ⟨fun b o e _ _=>G.keep b o e,fun b e=>let ⟨o,ho⟩:=Option.isSome_iff_exists.mp e;by refine rr (G.keep b o ho ..) ?_;rfl,fun a h=>h.elim (fun h=>(G.new a h).imp id .inr) fun h=>.inr (.inl h),G.im,G.os⟩
theorem Kp.wider {W W' : List Addr} {σ' : St} (k : Kp W I σ I' σ' s s') (h : ∀ a∈W,a∈W') : Kp W' I σ I' σ' s s':=⟨fun b o e n q=>k.keep b o e n fun z=>q (h b z),k.alive,k.new,k.im,k.os⟩
theorem Rel.apartI (R : Rel P C Φ I ρ σ s) : ∀ a∈keys σ,I a = none:=fun a h=>(R.apart a h).1
end
section
variable (prog : Program) (w : World) (C : Addr)
noncomputable def Got (Φ : Fc) (ρ : List (Option V)) (I : Im) (σ : St) (s : Shared) (Q : QV) (QQ : Value→Shared→Prop) : Prop :=
 ∀ v σ' I' s' val,Q v σ'→VR C I' v val→Rel w.params C Φ I' ρ σ' s'→Kp [] I σ I' σ' s s'→QQ val s'
noncomputable def TJ (Φ : Fc) (A : Around) (I : Im) (ρ : List (Option V)) (σ : St) (s : Shared) (t : Sem Value) (Q : QV) : Prop :=
 ∀ (QQ : Value→Shared→Prop) (E : Value→Shared→Prop),Got w C Φ ρ I σ s Q QQ→wpAny (model prog w) A t QQ E s
noncomputable def EV (Φ : Fc) (e : Expr) (ρ : List (Option V)) (σ : St) (Q : QV) : Prop :=
 ∀ A I s,AOk Φ A→Rel w.params C Φ I ρ σ s→TJ prog w C Φ A I ρ σ s (eval e Φ.env) Q
inductive Fl where | next | brk | cont | ret (v : V)
inductive FlR (C : Addr) (I : Im) : Fl→Flow→Prop where
 | next : FlR C I .next .next
 | brk : FlR C I .brk .brk
 | cont : FlR C I .cont .cont
 | ret {v : V} {val : Value} : VR C I v val→FlR C I (.ret v) (.ret val)
noncomputable def GotX (Φ : Fc) (I : Im) (σ : St) (s : Shared) (Q : Fl→List (Option V)→St→Prop) (QQ : Flow→Shared→Prop) : Prop :=
 ∀ f ρ' σ' I' s' fl,Q f ρ' σ'→FlR C I' f fl→Rel w.params C Φ I' ρ' σ' s'→Kp Φ.own I σ I' σ' s s'→QQ fl s'
noncomputable def EX (Φ : Fc) (ss : List Stmt) (ρ : List (Option V)) (σ : St) (Q : Fl→List (Option V)→St→Prop) : Prop :=
 ∀ A I s,AOk Φ A→Rel w.params C Φ I ρ σ s→∀ (QQ : Flow→Shared→Prop) (E : Value→Shared→Prop),GotX w C Φ I σ s Q QQ→wpAny (model prog w) A (execs ss Φ.env) QQ E s
noncomputable def EX1 (Φ : Fc) (st : Stmt) (ρ : List (Option V)) (σ : St) (Q : Fl→List (Option V)→St→Prop) : Prop :=
 ∀ A I s,AOk Φ A→Rel w.params C Φ I ρ σ s→∀ (QQ : Flow→Shared→Prop) (E : Value→Shared→Prop),GotX w C Φ I σ s Q QQ→wpAny (model prog w) A (exec st Φ.env) QQ E s
noncomputable def ET (Φ : Fc) (e : Expr) (ρ : List (Option V)) (σ : St) (Q : Bool→St→Prop) : Prop :=
 ∀ A I s,AOk Φ A→Rel w.params C Φ I ρ σ s→∀ (QQ : Bool→Shared→Prop) (E : Value→Shared→Prop),
  (∀ b σ' I' s',Q b σ'→Rel w.params C Φ I' ρ σ' s'→Kp [] I σ I' σ' s s'→QQ b s')→wpAny (model prog w) A (isTrue e Φ.env (eval e Φ.env)) QQ E s
end
section
variable {prog : Program} {w : World} {C : Addr} {Φ : Fc} {ρ : List (Option V)} {σ : St}
theorem EV.mono {e : Expr} {Q Q' : QV} (h : EV prog w C Φ e ρ σ Q) (k : ∀ v σ',Q v σ'→Q' v σ') : EV prog w C Φ e ρ σ Q' :=
 fun A I s a R QQ E g=>h A I s a R QQ E fun v σ' I' s' val q=>g v σ' I' s' val (k v σ' q)
theorem EX1.mono {e : Stmt} {Q Q' : Fl→List (Option V)→St→Prop} (h : EX1 prog w C Φ e ρ σ Q) (k : ∀ f ρ' σ',Q f ρ' σ'→Q' f ρ' σ') : EX1 prog w C Φ e ρ σ Q' :=
 fun A I s a R QQ E g=>h A I s a R QQ E fun f ρ' σ' I' s' val q=>g f ρ' σ' I' s' val (k f ρ' σ' q)
theorem ET.mono {e : Expr} {Q Q' : Bool→St→Prop} (h : ET prog w C Φ e ρ σ Q) (k : ∀ v σ',Q v σ'→Q' v σ') : ET prog w C Φ e ρ σ Q' :=
 fun A I s a R QQ E g=>h A I s a R QQ E fun v σ' I' s' q=>g v σ' I' s' (k v σ' q)
theorem Got.here {I : Im} {s : Shared} {Q : QV} {QQ : Value→Shared→Prop} {v : V} {val : Value} (g : Got w C Φ ρ I σ s Q QQ) (R : Rel w.params C Φ I ρ σ s) (h : VR C I v val) (q : Q v σ) : QQ val s :=
 g v σ I s val q h R .refl
theorem Got.gr {I I' : Im} {s s' : Shared} {Q : QV} {QQ : Value→Shared→Prop} {v : V} {val : Value} (g : Got w C Φ ρ I σ s Q QQ) (R : Rel w.params C Φ I ρ σ s) (G : Gr I I' s s') (h : VR C I' v val) (q : Q v σ) : QQ val s' :=
 g v σ I' s' val q h (R.grow G) G.kp
theorem Got.toks {I : Im} {s : Shared} {tk : Nat} {Q : QV} {QQ : Value→Shared→Prop} {v : V} {val : Value} (g : Got w C Φ ρ I σ s Q QQ) (R : Rel w.params C Φ I ρ σ s) (h : VR C I v val) (q : Q v σ) : QQ val { s with toks:=tk } :=
 g.gr (s':={ s with heap:=s.heap,toks:=tk }) R (Gr.same R.im fun _ _ e=>e) h q
theorem Got.after {I I₁ : Im} {σ₁ : St} {s s₁ : Shared} {Q : QV} {QQ : Value→Shared→Prop} (g : Got w C Φ ρ I σ s Q QQ) (R₁ : Rel w.params C Φ I₁ ρ σ₁ s₁) (k : Kp [] I σ I₁ σ₁ s s₁) : Got w C Φ ρ I₁ σ₁ s₁ Q QQ :=
 fun v σ' I' s' val q h R' k'=>g v σ' I' s' val q h R' (k.trans k' R₁.apartI)
theorem GotX.after {I I₁ : Im} {σ₁ : St} {s s₁ : Shared} {Q : Fl→List (Option V)→St→Prop} {QQ : Flow→Shared→Prop} {ρ₁ : List (Option V)} (g : GotX w C Φ I σ s Q QQ) (R₁ : Rel w.params C Φ I₁ ρ₁ σ₁ s₁) (k : Kp Φ.own I σ I₁ σ₁ s s₁) : GotX w C Φ I₁ σ₁ s₁ Q QQ :=
 fun f ρ' σ' I' s' fl q h R' k'=>g f ρ' σ' I' s' fl q h R' (k.trans k' R₁.apartI)
theorem GotX.afterE {I I₁ : Im} {σ₁ : St} {s s₁ : Shared} {Q : Fl→List (Option V)→St→Prop} {QQ : Flow→Shared→Prop} {ρ₁ : List (Option V)} (g : GotX w C Φ I σ s Q QQ) (R₁ : Rel w.params C Φ I₁ ρ₁ σ₁ s₁) (k : Kp [] I σ I₁ σ₁ s s₁) : GotX w C Φ I₁ σ₁ s₁ Q QQ :=
 g.after R₁ (k.wider fun a h=>nomatch h)
theorem wp_pos {A : Around} {α : Type} {c : Prop} [Decidable c] {t e : Sem α} {Q : α→Shared→Prop} {E : Value→Shared→Prop} {s : Shared} (h : c) (k : wpAny (model prog w) A t Q E s) : wpAny (model prog w) A (if c then t else e) Q E s:=by
 refine rr (if_pos h ..) ?_;exact k
theorem wp_neg {A : Around} {α : Type} {c : Prop} [Decidable c] {t e : Sem α} {Q : α→Shared→Prop} {E : Value→Shared→Prop} {s : Shared} (h : ¬ c) (k : wpAny (model prog w) A e Q E s) : wpAny (model prog w) A (if c then t else e) Q E s:=by
 refine rr (if_neg h ..) ?_;exact k
theorem mem_of_get? {α : Type} {l : List α} {i : Nat} {x : α} (h : l[i]? = some x) : x∈l:=List.mem_of_getElem? h
theorem EV.name (Ok : Φ.Ok) {x : Str} {pos : Pos} {i : Nat} {o : Option Addr} {v : V} {Q : QV} (hi : Φ.slots[i]? = some (x,o)) (hv : ρ[i]? = some (some v)) (q : Q v σ) :
  EV prog w C Φ (.Name x pos) ρ σ Q:=by
 intro A I s a R QQ E g
 have hm:=mem_of_get? hi
 refine wpAny_Name ?_ (Ok.debug _ hm).1
 cases o with
 | none =>
  obtain ⟨m,hn,h⟩:=R.ns
  obtain ⟨val,e,r⟩:=h i x v hi hv
  exact wpAny_loadName_local Ok.kind (Ok.loc x hm) hn e (g.here R r q)
 | some c =>
  obtain ⟨u,hc,h⟩:=R.cells i x c hi
  obtain ⟨val,rfl,r⟩:=h v hv
  obtain ⟨k | k,hl⟩:=Ok.cel x c hm
  ·exact wpAny_loadName_cell Ok.kind k hl hc (g.here R r q)
  ·exact wpAny_loadName_free Ok.kind k hl hc (g.here R r q) (Ok.debug _ hm).2
theorem EV.int {i : Int} {k : Nat} {pos : Pos} {Q : QV} (q : Q (.int i) σ) : EV prog w C Φ (.Constant (.int i) k pos) ρ σ Q :=
 fun A I s a R QQ E g=>wpAny_mkInt (g.toks R (.int _ _) q)
theorem EV.bool {b : Bool} {k : Nat} {pos : Pos} {Q : QV} (q : Q (.bool b) σ) : EV prog w C Φ (.Constant (.bool b) k pos) ρ σ Q :=
 fun A I s a R QQ E g=>wpAny_pure (g.here R (.bool _) q)
theorem EV.noneC {k : Nat} {pos : Pos} {Q : QV} (q : Q .none σ) : EV prog w C Φ (.Constant .none k pos) ρ σ Q :=
 fun A I s a R QQ E g=>wpAny_pure (g.here R .none q)
theorem EV.str {x : Str} {l : List Nat} {k : Nat} {pos : Pos} {Q : QV} (e : x = ⟨l.toArray⟩) (q : Q (.str l) σ) : EV prog w C Φ (.Constant (.str x) k pos) ρ σ Q :=
 fun A I s a R QQ E g=>wpAny_mkText (g.toks R (e ▸ .str _ _) q)
theorem EV.byt {x : List UInt8} {k : Nat} {pos : Pos} {Q : QV} (q : Q (.byt x) σ) : EV prog w C Φ (.Constant (.bytes x) k pos) ρ σ Q :=
 fun A I s a R QQ E g=>by
  exact wpAny_bind (wpAny_fresh (wpAny_pure (g.toks R (.byt _ _) q)))
end
variable {prog : Program} {w : World} {C : Addr} {Φ : Fc} {ρ : List (Option V)} {σ : St}
section
variable (prog : Program) (w : World) (C : Addr) (Φ : Fc)
noncomputable abbrev QX:=Fl→List (Option V)→St→Prop
noncomputable abbrev kSeq (rest : List Stmt) (Q : QX) : QX:=fun f ρ' σ'=>match f with | .next=>EX prog w C Φ rest ρ' σ' Q | f=>Q f ρ' σ'
noncomputable abbrev kAsg (i : Nat) (ρ : List (Option V)) (Q : QX) : V→St→Prop:=fun v σ'=>Q .next (ρ.set i (some v)) σ'
noncomputable abbrev kRet (ρ : List (Option V)) (Q : QX) : V→St→Prop:=fun v σ'=>Q (.ret v) ρ σ'
noncomputable abbrev kNxt (ρ : List (Option V)) (Q : QX) : V→St→Prop:=fun _ σ'=>Q .next ρ σ'
noncomputable abbrev kIf (body orelse : List Stmt) (ρ : List (Option V)) (Q : QX) : Bool→St→Prop:=fun b σ'=>match b with | true=>EX prog w C Φ body ρ σ' Q | false=>EX prog w C Φ orelse ρ σ' Q
noncomputable abbrev kLoop (P : List (Option V)→St→Prop) (Q : QX) : QX:=fun f ρ₃ σ₃=>match f with
 | .next | .cont=>P ρ₃ σ₃
 | .brk=>Q .next ρ₃ σ₃
 | .ret v=>Q (.ret v) ρ₃ σ₃
noncomputable abbrev kDown (J : Nat→List (Option V)→St→Prop) (n : Nat) : List (Option V)→St→Prop:=fun ρ₃ σ₃=>∃ m,m < n∧J m ρ₃ σ₃
noncomputable abbrev kWh (body : List Stmt) (ρ₁ : List (Option V)) (P : List (Option V)→St→Prop) (Q : QX) : Bool→St→Prop:=fun b σ₂=>match b with | true=>EX prog w C Φ body ρ₁ σ₂ (kLoop P Q) | false=>Q .next ρ₁ σ₂
noncomputable abbrev kIfE (body orelse : Expr) (ρ : List (Option V)) (Q : QV) : Bool→St→Prop:=fun b σ'=>match b with | true=>EV prog w C Φ body ρ σ' Q | false=>EV prog w C Φ orelse ρ σ' Q
noncomputable abbrev kNot (Q : Bool→St→Prop) : Bool→St→Prop:=fun b σ'=>Q (!b) σ'
noncomputable abbrev kAnd (y : Expr) (ρ : List (Option V)) (Q : Bool→St→Prop) : Bool→St→Prop:=fun b σ'=>match b with | true=>ET prog w C Φ y ρ σ' Q | false=>Q false σ'
noncomputable abbrev kOr (y : Expr) (ρ : List (Option V)) (Q : Bool→St→Prop) : Bool→St→Prop:=fun b σ'=>match b with | true=>Q true σ' | false=>ET prog w C Φ y ρ σ' Q
end
section
theorem name_inj : ∀ {l : List (Str × Option Addr)},(l.map (·.1)).Nodup→∀ {i j : Nat} {x : Str} {o o' : Option Addr},l[i]? = some (x,o)→l[j]? = some (x,o')→i = j
 | [],_,i,j,x,o,o',hi,_=>by simp at hi
 | (z,q) :: l,nd,i,j,x,o,o',hi,hj=>by
  have nd' : z ∉ l.map (·.1)∧(l.map (·.1)).Nodup:=List.nodup_cons.mp (by simpa using nd)
  have mem : ∀ {k : Nat} {p : Option Addr},l[k]? = some (z,p)→z∈l.map (·.1):=fun {k p} h=>List.mem_map.mpr ⟨(z,p),List.mem_of_getElem? h,rfl⟩
  cases i with
  | zero =>
   cases j with
   | zero=>rfl
   | succ j =>
    simp at hi hj
    obtain ⟨rfl,_⟩:=hi
    exact absurd (mem hj) nd'.1
  | succ i =>
   cases j with
   | zero =>
    simp at hi hj
    obtain ⟨rfl,_⟩:=hj
    exact absurd (mem hi) nd'.1
   | succ j=>exact congrArg Nat.succ (name_inj nd'.2 (i:=i) (j:=j) (by simpa using hi) (by simpa using hj))
theorem slots_inj (Ok : Φ.Ok) {i j : Nat} {x : Str} {o o' : Option Addr} (hi : Φ.slots[i]? = some (x,o)) (hj : Φ.slots[j]? = some (x,o')) : i = j:=name_inj Ok.names hi hj
theorem filterMap_idx {α : Type} {l : List (Str × Option α)} {i : Nat} {x : Str} {c : α} (h : l[i]? = some (x,some c)) : c∈l.filterMap (·.2) :=
 List.mem_filterMap.mpr ⟨(x,some c),List.mem_of_getElem? h,rfl⟩
theorem cell_inj : ∀ {l : List (Str × Option Addr)},(l.filterMap (·.2)).Nodup→∀ {i j : Nat} {x y : Str} {c : Addr},l[i]? = some (x,some c)→l[j]? = some (y,some c)→i = j
 | [],_,i,j,x,y,c,hi,_=>by simp at hi
 | (z,o) :: l,nd,i,j,x,y,c,hi,hj=>by
  cases o with
  | none =>
   haveI nd' : (l.filterMap (·.2)).Nodup:=by simpa using nd
   cases i with
   | zero=>simp at hi
   | succ i =>
    cases j with
    | zero=>simp at hj
    | succ j=>exact congrArg Nat.succ (cell_inj nd' (i:=i) (j:=j) (by simpa using hi) (by simpa using hj))
  | some d =>
   have nd' : d ∉ l.filterMap (·.2)∧(l.filterMap (·.2)).Nodup:=by
    have : (d :: l.filterMap (·.2)).Nodup:=by simpa using nd
    exact List.nodup_cons.mp this
   cases i with
   | zero =>
    cases j with
    | zero=>rfl
    | succ j =>
     simp at hi hj
     obtain ⟨_,rfl⟩:=hi
     exact absurd (filterMap_idx hj) nd'.1
   | succ i =>
    cases j with
    | zero =>
     simp at hi hj
     obtain ⟨_,rfl⟩:=hj
     exact absurd (filterMap_idx hi) nd'.1
    | succ j=>exact congrArg Nat.succ (cell_inj nd'.2 (i:=i) (j:=j) (by simpa using hi) (by simpa using hj))
theorem store_slot (Ok : Φ.Ok) {A : Around} {I : Im} {s : Shared} {x : Str} {i : Nat} {o : Option Addr} {v : V} {val : Value} (hi : Φ.slots[i]? = some (x,o)) (hs : o = none ∨ Φ.env.kindOf x = some .cell)
  (R : Rel w.params C Φ I ρ σ s) (hv : VR C I v val) {Q : Unit→Shared→Prop} {E : Value→Shared→Prop}
  (h : ∀ s',Rel w.params C Φ I (ρ.set i (some v)) σ s'→Kp [o.getD Φ.env.locals] I σ I σ s s'→(∀ b o',b ∉ [o.getD Φ.env.locals]→s.heap.get? b = some o'→s'.heap.get? b = some o')→Q () s') : wpAny (model prog w) A (storeName Φ.env x val) Q E s:=by
 have hm:=List.mem_of_getElem? hi
 cases o with
 | none =>
  obtain ⟨m,hn,hq⟩:=R.ns
  refine wpAny_storeName_local (Ok.loc x hm) hn (fun h' hn' hsb=>?_) (by refine rr (Ok.kind ..) ?_;rfl)
  have nk : ∀ a∈keys σ,a ≠ Φ.env.locals:=fun a ha q=>(R.apart a ha).2 (q ▸ .head _)
  have nI : ∀ b o,I b = some o→b ≠ Φ.env.locals:=fun b o e q=>by
   have:=R.ownI Φ.env.locals (.head _)
   replace e:=q ▸ e;replace this:=e ▸ this;exact snm this
  have nc : ∀ j y c,Φ.slots[j]? = some (y,some c)→c ≠ Φ.env.locals:=fun j y c hj q=>by
   have:=Ok.nd
   have:=(List.nodup_cons.mp this).1
   exact this (q ▸ filterMap_idx hj)
  refine h _ ⟨fun b o e=>(hsb.2 b (nI b o e)).trans (R.im b o e),R.base,fun a c ha=>?_,R.apart,R.nodup,R.ownI,⟨_,hn',fun j y u hj hu=>?_⟩,fun j y c hj=>?_,R.gens⟩ ⟨fun b o e _ hw=>(hsb.2 b fun q=>hw (List.mem_singleton.mpr q)).trans e,fun b e=>?_,fun a q=>q.elim .inl fun q=>.inr (.inl q),fun _ _ e=>e,rfl⟩ fun b o hw e=>(hsb.2 b fun q=>hw (List.mem_singleton.mpr q)).trans e
  ·obtain ⟨o,ho,hc⟩:=R.cell a c ha
   exact ⟨o,(hsb.2 a (nk a (List.mem_map_of_mem ha))).trans ho,hc⟩
  ·by_cases q : i = j
   ·subst q
    replace hj:=hi ▸ hj
    obtain ⟨rfl,_⟩:=Prod.mk.inj (Option.some.inj hj)
    replace hu:=(List.getElem?_set_self' ..) ▸ hu
    cases e : ρ[i]? with
    | none=>replace hu:=e ▸ hu;simp at hu
    | some z =>
     replace hu:=e ▸ hu
     simp at hu
     subst hu
     exact ⟨val,by simp,hv⟩
   ·replace hu:=(List.getElem?_set_ne q ..) ▸ hu
    obtain ⟨val',e,r⟩:=hq j y u hj hu
    refine ⟨val',?_,r⟩
    have : y ≠ x:=fun z=>q (slots_inj Ok hi (z ▸ hj))
    simp [this,e]
  ·obtain ⟨u,hc,hq'⟩:=R.cells j y c hj
   obtain ⟨o,ho,hd⟩:=hc
   refine ⟨u,⟨o,(hsb.2 c (nc j y c hj)).trans ho,hd⟩,fun v' e=>?_⟩
   have : i ≠ j:=fun z=>by replace hj:=z.symm ▸ hj;replace hj:=hi ▸ hj;cases hj
   replace e:=(List.getElem?_set_ne this ..) ▸ e
   exact hq' v' e
  ·by_cases q : b = Φ.env.locals
   ·subst q
    obtain ⟨o,_,_,ho,_⟩:=hn'
    refine rr ho ?_;rfl
   ·refine rr (hsb.2 b q ..) ?_;exact e
 | some c =>
  haveI hk : Φ.env.kindOf x = some .cell:=hs.resolve_left (fun z=>nomatch z)
  obtain ⟨u,hc,hq⟩:=R.cells i x c hi
  refine wpAny_storeName_cell Ok.kind hk (Ok.cel x c hm).2 hc fun h' hc' hsb=>?_
  haveI co : c∈Φ.own:=.tail _ (filterMap_idx hi)
  haveI nk : ∀ a∈keys σ,a ≠ c:=fun a ha q=>(R.apart a ha).2 (q ▸ co)
  have nI : ∀ b o,I b = some o→b ≠ c:=fun b o e q=>by
   have:=R.ownI c co
   replace e:=q ▸ e;replace this:=e ▸ this;exact snm this
  have nl : Φ.env.locals ≠ c:=fun q=>(List.nodup_cons.mp Ok.nd).1 (q ▸ filterMap_idx hi)
  refine h { s with heap:=h' } ⟨fun b o e=>(hsb.2 b (nI b o e)).trans (R.im b o e),R.base,fun a c' ha=>?_,R.apart,R.nodup,R.ownI,?_,fun j y d hj=>?_,R.gens⟩ ⟨fun b o e _ hw=>(hsb.2 b fun q=>hw (List.mem_singleton.mpr q)).trans e,fun b e=>?_,fun a q=>q.elim .inl fun q=>.inr (.inl q),fun _ _ e=>e,rfl⟩ fun b o hw e=>(hsb.2 b fun q=>hw (List.mem_singleton.mpr q)).trans e
  ·obtain ⟨o,ho,hcc⟩:=R.cell a c' ha
   exact ⟨o,(hsb.2 a (nk a (List.mem_map_of_mem ha))).trans ho,hcc⟩
  ·obtain ⟨m,hn,hq'⟩:=R.ns
   refine ⟨m,hn.sameBut hsb nl,fun j y u' hj hu=>?_⟩
   have : i ≠ j:=fun z=>by replace hj:=z.symm ▸ hj;replace hj:=hi ▸ hj;cases hj
   replace hu:=(List.getElem?_set_ne this ..) ▸ hu
   exact hq' j y u' hj hu
  ·by_cases q : i = j
   ·subst q
    replace hj:=hi ▸ hj
    obtain ⟨rfl,e⟩:=Prod.mk.inj (Option.some.inj hj)
    obtain rfl:=si e
    refine ⟨_,hc',fun v' e=>⟨val,rfl,?_⟩⟩
    replace e:=(List.getElem?_set_self' ..) ▸ e
    cases e' : ρ[i]? with
    | none=>replace e:=e' ▸ e;simp at e
    | some z =>
     replace e:=e' ▸ e
     simp at e
     subst e
     exact hv
   ·obtain ⟨u',hcj,hq'⟩:=R.cells j y d hj
    obtain ⟨o,ho,hd⟩:=hcj
    have : d ≠ c:=fun z=>by
     haveI nd:=(List.nodup_cons.mp Ok.nd).2
     exact q (cell_inj nd hi (z ▸ hj))
    refine ⟨u',⟨o,(hsb.2 d this).trans ho,hd⟩,fun v' e=>?_⟩
    replace e:=(List.getElem?_set_ne q ..) ▸ e
    exact hq' v' e
  ·by_cases q : b = c
   ·subst q
    obtain ⟨o,ho,_⟩:=hc'
    refine rr ho ?_;rfl
   ·refine rr (hsb.2 b q ..) ?_;exact e
theorem slot_own {i : Nat} {x : Str} {o : Option Addr} (hi : Φ.slots[i]? = some (x,o)) : ∀ a∈[o.getD Φ.env.locals],a∈Φ.own:=fun a h=>by
 refine rr (List.mem_singleton.mp h ..) ?_
 cases o with
 | none=>exact .head _
 | some c=>exact .tail _ (filterMap_idx hi)
theorem EX.nil {Q : QX} (q : Q .next ρ σ) : EX prog w C Φ [] ρ σ Q :=
 fun A I s a R QQ E g=>wpAny_execs_nil (g .next ρ σ I s .next q .next R .refl)
theorem EX.cons {st : Stmt} {rest : List Stmt} {Q : QX}
  (h : EX1 prog w C Φ st ρ σ (kSeq prog w C Φ rest Q)) : EX prog w C Φ (st :: rest) ρ σ Q:=by
 intro A I s a R QQ E g
 refine wpAny_execs_cons (h A I s a R _ E ?_)
 intro f ρ' σ' I' s' fl q hf R' k
 cases hf with
 | next=>exact q A I' s' a R' QQ E (g.after R' k)
 | brk=>exact g _ _ _ _ _ _ q .brk R' k
 | cont=>exact g _ _ _ _ _ _ q .cont R' k
 | ret hv=>exact g _ _ _ _ _ _ q (.ret hv) R' k
theorem EX1.assign (Ok : Φ.Ok) {x : Str} {pos' pos : Pos} {value : Expr} {i : Nat} {o : Option Addr} {Q : QX} (hi : Φ.slots[i]? = some (x,o)) (hs : o = none ∨ Φ.env.kindOf x = some .cell)
  (hw : swapsWith value (some (.Name x pos')) pos.line Φ.env = pure false)
  (h : EV prog w C Φ value ρ σ (kAsg i ρ Q)) : EX1 prog w C Φ (.Assign [.Name x pos'] value pos) ρ σ Q:=by
 intro A I s a R QQ E g
 refine wpAny_Assign_Name (h A I s a R _ E ?_) hw
 intro v σ' I' s' val q hv R' k
 refine store_slot Ok hi hs R' hv fun s'' R'' k' _=>?_
 exact g .next _ σ' I' s'' .next q .next R'' ((k.wider fun a h=>nomatch h).trans (k'.wider (slot_own hi)) R'.apartI)
theorem EX1.ret {e : Expr} {pos : Pos} {Q : QX} (h : EV prog w C Φ e ρ σ (kRet ρ Q)) : EX1 prog w C Φ (.Return (some e) pos) ρ σ Q:=by
 intro A I s a R QQ E g
 refine wpAny_Return_some (h A I s a R _ E ?_)
 intro v σ' I' s' val q hv R' k
 exact g (.ret v) ρ σ' I' s' (.ret val) q (.ret hv) R' (k.wider fun a h=>nomatch h)
theorem EX1.expr {e : Expr} {pos : Pos} {Q : QX} (hi : interactive Φ.env = false) (hs : swapsWith e none pos.line Φ.env = pure false)
  (h : EV prog w C Φ e ρ σ (kNxt ρ Q)) : EX1 prog w C Φ (.Expr e pos) ρ σ Q:=by
 intro A I s a R QQ E g
 refine wpAny_Expr_any (h A I s a R _ E ?_) hi hs
 intro v σ' I' s' val q hv R' k
 exact g .next ρ σ' I' s' .next q .next R' (k.wider fun a h=>nomatch h)
theorem EX1.if_ {test : Expr} {body orelse : List Stmt} {pos : Pos} {Q : QX}
  (h : ET prog w C Φ test ρ σ (kIf prog w C Φ body orelse ρ Q)) : EX1 prog w C Φ (.If test body orelse pos) ρ σ Q:=by
 intro A I s a R QQ E g
 refine wpAny_If (h A I s a R _ E ?_)
 intro b σ' I' s' q R' k
 cases b with
 | true=>exact q A I' s' a R' QQ E (g.afterE R' k)
 | false=>exact q A I' s' a R' QQ E (g.afterE R' k)
theorem EX1.brk {pos : Pos} {Q : QX} (q : Q .brk ρ σ) : EX1 prog w C Φ (.Break pos) ρ σ Q :=
 fun A I s a R QQ E g=>by
  rw [arm_exec_Break]
  exact wpAny_bind (wpAny_standAt (wpAny_pure (g .brk ρ σ I s .brk q .brk R .refl)))
theorem EX1.while_ {test : Expr} {body : List Stmt} {pos : Pos} {Q : QX} (J : Nat→List (Option V)→St→Prop) {n : Nat} (h0 : J n ρ σ)
  (turn : ∀ n ρ₁ σ₁,J n ρ₁ σ₁→ET prog w C Φ test ρ₁ σ₁ (kWh prog w C Φ body ρ₁ (kDown J n) Q)) : EX1 prog w C Φ (.While test body [] pos) ρ σ Q:=by
 intro A I s a R QQ E g
 refine wpAny_While (codeAny_whileLoop (fun n s'=>∃ ρ' σ' I',J n ρ' σ'∧Rel w.params C Φ I' ρ' σ' s'∧Kp Φ.own I σ I' σ' s s') ?_ n ⟨ρ,σ,I,h0,R,.refl⟩)
 rintro n s₁ ⟨ρ₁,σ₁,I₁,hJ,R₁,k₁⟩
 refine turn n ρ₁ σ₁ hJ A I₁ s₁ a R₁ _ _ ?_
 intro b σ₂ I₂ s₂ q R₂ k₂
 have k₂':=k₁.trans (k₂.wider fun a h=>nomatch h) R₁.apartI
 cases b with
 | true =>
  refine q A I₂ s₂ a R₂ _ _ ?_
  intro f ρ₃ σ₃ I₃ s₃ fl q₃ hf R₃ k₃
  haveI k₃':=k₂'.trans k₃ R₂.apartI
  cases hf with
  | next=>obtain ⟨m,hm,hJ'⟩:=q₃;exact ⟨m,hm,ρ₃,σ₃,I₃,hJ',R₃,k₃'⟩
  | cont=>obtain ⟨m,hm,hJ'⟩:=q₃;exact ⟨m,hm,ρ₃,σ₃,I₃,hJ',R₃,k₃'⟩
  | brk=>exact g .next _ _ _ _ _ q₃ .next R₃ k₃'
  | ret hv=>exact g _ _ _ _ _ _ q₃ (.ret hv) R₃ k₃'
 | false=>exact wpAny_execs_nil (g .next _ _ _ _ _ q .next R₂ k₂')
theorem EV.bin {a b : Expr} {op : Operator} {pos : Pos} {Q : QV}
  (h : EV prog w C Φ a ρ σ fun x σ₁=>EV prog w C Φ b ρ σ₁ fun y σ₂=>∀ A I s vx vy,AOk Φ A→Rel w.params C Φ I ρ σ₂ s→VR C I x vx→VR C I y vy→TJ prog w C Φ A I ρ σ₂ s (binaryOp op vx vy) Q) : EV prog w C Φ (.BinOp a op b pos) ρ σ Q:=by
 intro A I s ak R QQ E g
 refine wpAny_BinOp (h A I s ak R _ E ?_)
 intro x σ₁ I₁ s₁ vx q hx R₁ k₁
 refine q A I₁ s₁ ak R₁ _ E ?_
 intro y σ₂ I₂ s₂ vy q₂ hy R₂ k₂
 exact q₂ A I₂ s₂ vx vy ak R₂ (hx.mono k₂.im) hy QQ E (g.after R₂ (k₁.trans k₂ R₁.apartI))
theorem EV.ifexp {test body orelse : Expr} {pos : Pos} {Q : QV}
  (h : ET prog w C Φ test ρ σ (kIfE prog w C Φ body orelse ρ Q)) : EV prog w C Φ (.IfExp test body orelse pos) ρ σ Q:=by
 intro A I s a R QQ E g
 refine wpAny_IfExp (h A I s a R _ E ?_)
 intro b σ' I' s' q R' k
 cases b with
 | true=>exact q A I' s' a R' QQ E (g.after R' k)
 | false=>exact q A I' s' a R' QQ E (g.after R' k)
theorem ET.not_ {x : Expr} {pos : Pos} {Q : Bool→St→Prop} (h : ET prog w C Φ x ρ σ (kNot Q)) : ET prog w C Φ (.UnaryOp .Not x pos) ρ σ Q:=by
 intro A I s a R QQ E g
 exact isTrue_not (h A I s a R _ E fun b σ' I' s' q R' k=>g (!b) σ' I' s' q R' k)
theorem ET.and_ {x y : Expr} {pos : Pos} {Q : Bool→St→Prop} (h : ET prog w C Φ x ρ σ (kAnd prog w C Φ y ρ Q)) : ET prog w C Φ (.BoolOp .And [x,y] pos) ρ σ Q:=by
 intro A I s a R QQ E g
 refine isTrue_and (h A I s a R _ E fun b σ' I' s' q R' k=>?_)
 cases b with
 | true =>
  refine isTrue_and (q A I' s' a R' _ E fun b σ'' I'' s'' q' R'' k'=>?_)
  have z:=g b σ'' I'' s'' q' R'' (k.trans k' R'.apartI)
  cases b with
  | true=>exact isTrue_and_nil z
  | false=>exact z
 | false=>exact g false σ' I' s' q R' k
theorem ET.or_ {x y : Expr} {pos : Pos} {Q : Bool→St→Prop} (h : ET prog w C Φ x ρ σ (kOr prog w C Φ y ρ Q)) : ET prog w C Φ (.BoolOp .Or [x,y] pos) ρ σ Q:=by
 intro A I s a R QQ E g
 refine isTrue_or (h A I s a R _ E fun b σ' I' s' q R' k=>?_)
 cases b with
 | true=>exact g true σ' I' s' q R' k
 | false =>
  refine isTrue_or (q A I' s' a R' _ E fun b σ'' I'' s'' q' R'' k'=>?_)
  have z:=g b σ'' I'' s'' q' R'' (k.trans k' R'.apartI)
  cases b with
  | true=>exact z
  | false=>exact isTrue_or_nil z
theorem ET.cmp {l r : Expr} {op : CmpOp} {pos : Pos} {Q : Bool→St→Prop} (hm : behindInMarks op r = false)
  (h : EV prog w C Φ l ρ σ fun x σ₁=>EV prog w C Φ r ρ σ₁ fun y σ₂=>∀ A I s vx vy,AOk Φ A→Rel w.params C Φ I ρ σ₂ s→VR C I x vx→VR C I y vy →
   TJ prog w C Φ A I ρ σ₂ s (compareOp op vx vy) fun v σ₃=>∃ b,v = .bool b∧Q b σ₃) : ET prog w C Φ (.Compare l [op] [r] pos) ρ σ Q:=by
 intro A I s a R QQ E g
 refine wpAny_isTrue_Compare1 (h A I s a R _ E fun x σ₁ I₁ s₁ vx q hx R₁ k₁=>?_) hm
 refine q A I₁ s₁ a R₁ _ E fun y σ₂ I₂ s₂ vy q₂ hy R₂ k₂=>?_
 refine q₂ A I₂ s₂ vx vy a R₂ (hx.mono k₂.im) hy _ E fun v σ₃ I₃ s₃ val q₃ hv R₃ k₃=>?_
 obtain ⟨b,rfl,q₃⟩:=q₃
 obtain ⟨_,rfl⟩:=hv.inv
 exact wpAny_truthy_bool (g b σ₃ I₃ s₃ q₃ R₃ ((k₁.trans k₂ R₁.apartI).trans k₃ R₂.apartI))
theorem EV.cmp {l r : Expr} {op : CmpOp} {pos : Pos} {Q : QV} (hm : behindInMarks op r = false)
  (h : EV prog w C Φ l ρ σ fun x σ₁=>EV prog w C Φ r ρ σ₁ fun y σ₂=>∀ A I s vx vy,AOk Φ A→Rel w.params C Φ I ρ σ₂ s→VR C I x vx→VR C I y vy →
   TJ prog w C Φ A I ρ σ₂ s (compareOp op vx vy) Q) : EV prog w C Φ (.Compare l [op] [r] pos) ρ σ Q:=by
 intro A I s a R QQ E g
 refine wpAny_Compare1 (h A I s a R _ E fun x σ₁ I₁ s₁ vx q hx R₁ k₁=>?_) hm
 refine q A I₁ s₁ a R₁ _ E fun y σ₂ I₂ s₂ vy q₂ hy R₂ k₂=>?_
 exact q₂ A I₂ s₂ vx vy a R₂ (hx.mono k₂.im) hy QQ E (g.after R₂ (k₁.trans k₂ R₁.apartI))
theorem ET.val {e : Expr} {Q : Bool→St→Prop} (he : ∀ env whole,isTrue e env whole = (do let v ← whole;standAt e.pos;holding [v] (truthy v)))
  (h : EV prog w C Φ e ρ σ fun x σ₁=>∀ A I s vx,AOk Φ A→Rel w.params C Φ I ρ σ₁ s→VR C I x vx→∀ (QQ : Bool→Shared→Prop) (E : Value→Shared→Prop),(∀ b,Q b σ₁→∀ tk,QQ b { s with toks:=tk })→wpAny (model prog w) A (truthy vx) QQ E s) :
  ET prog w C Φ e ρ σ Q:=by
 intro A I s a R QQ E g
 refine wpAny_isTrue_value (h A I s a R _ E fun x σ₁ I₁ s₁ vx q hx R₁ k₁=>?_) (he _ _)
 refine q A I₁ s₁ vx a R₁ hx _ E fun b hb tk=>?_
 haveI G : Gr I₁ I₁ s₁ { s₁ with heap:=s₁.heap,toks:=tk }:=Gr.same R₁.im fun _ _ e=>e
 exact g b σ₁ I₁ _ hb (R₁.grow G) (k₁.trans G.kp R₁.apartI)
end
inductive XGet2 (C : Addr) (I : Im) (xs : List (V × V)) (v : Array Value) (i : Nat) : Prop | mk (a b : V) (c d : Value) (e : xs[i]? = some (a,b)) (ev : v = #[c,d]) (h1 : VR C I a c) (h2 : VR C I b d)
section
noncomputable def NB (prog : Program) (w : World) (A : Around) (target : Expr) (It : Addr) (env : Env) (QQ : Shared→Prop) (E : Value→Shared→Prop) (s : Shared) : Prop :=
 wpAny (model prog w) A (pyNext (.ref It)) (fun r s₁=>match r with
  | none=>False
  | some v=>wpAny (model prog w) A (letOwnedTupleGo target (.ref It) v) (fun _ s₂=>wpAny (model prog w) A (assign target env v) (fun _ s₃=>QQ s₃) E s₂) E s₁) E s
structure Off (Φ : Fc) (wr : List Addr) (I : Im) (σ : St) : Prop where
 i : ∀ b∈wr,I b = none
 k : ∀ b∈wr,b ∉ keys σ
 o : ∀ b∈wr,b ∉ Φ.own
structure Itr (prog : Program) (w : World) (C : Addr) (Φ : Fc) (A : Around) (target : Expr) (It : Addr) (wr W : List Addr) (n : Nat) (bind : Nat→List (Option V)→List (Option V)) (nd : St) (Stt : Nat→Im→Heap→Prop) : Prop where
 item : ∀ k I ρ σ s,k < n→Rel w.params C Φ I ρ σ s→(∀ p∈nd,p∈σ)→Stt k I s.heap→Off Φ wr I σ→∀ (QQ : Shared→Prop) (E : Value→Shared→Prop),
  (∀ s',Rel w.params C Φ I (bind k ρ) σ s'→Stt (k + 1) I s'.heap→(∀ b o,b ∉ wr→b ∉ W→s.heap.get? b = some o→s'.heap.get? b = some o)→s'.os = s.os→QQ s') →
  NB prog w A target It Φ.env QQ E s
 done : ∀ I ρ σ s,Rel w.params C Φ I ρ σ s→(∀ p∈nd,p∈σ)→Stt n I s.heap→Off Φ wr I σ→∀ (QQ : Option Value→Shared→Prop) (E : Value→Shared→Prop),
  (∀ s',Rel w.params C Φ I ρ σ s'→(∀ b o,b ∉ wr→s.heap.get? b = some o→s'.heap.get? b = some o)→s'.os = s.os→QQ none s')→wpAny (model prog w) A (pyNext (.ref It)) QQ E s
 frame : ∀ k I I' h h',Stt k I h→(∀ b∈wr,∀ o,h.get? b = some o→h'.get? b = some o)→(∀ b o,I b = some o→I' b = some o)→(∀ b o,I' b = some o→h'.get? b = some o)→(∀ p∈nd,CellAt w.params C I' h' p.1 p.2)→Stt k I' h'
 alive : ∀ k I h,Stt k I h→∀ b∈wr,(h.get? b).isSome = true
 own : ∀ b∈W,b∈Φ.own
 self : ∀ k I (s : Shared) (Q : Value→Shared→Prop) (E : Value→Shared→Prop),Stt k I s.heap→Q (.ref It) s→wpAny (model prog w) A (pyIter (.ref It)) Q E s
theorem Rel.offset {I : Im} {wr : List Addr} {s : Shared} {h' : Heap} {tk : Nat} {P : Params} (R : Rel P C Φ I ρ σ s) (O : Off Φ wr I σ) (k : ∀ b o,b ∉ wr→s.heap.get? b = some o→h'.get? b = some o) : Rel P C Φ I ρ σ { s with heap:=h',toks:=tk }:=by
 haveI nI : ∀ b o,I b = some o→b ∉ wr:=fun b o e h=>by have:=O.i b h;replace this:=e ▸ this;exact snm this
 refine ⟨fun b o e=>k b o (nI b o e) (R.im b o e),R.base,fun a c ha=>?_,R.apart,R.nodup,R.ownI,?_,fun i x c hi=>?_,R.gens⟩
 ·obtain ⟨o,ho,hc⟩:=R.cell a c ha
  exact ⟨o,k a o (fun h=>O.k a h (List.mem_map_of_mem ha)) ho,hc⟩
 ·obtain ⟨m,hn,h⟩:=R.ns
  exact ⟨m,hn.at' fun o e=>k _ o (fun h=>O.o _ h (.head _)) e,h⟩
 ·obtain ⟨u,⟨o,ho,hd⟩,h⟩:=R.cells i x c hi
  exact ⟨u,⟨o,k c o (fun h=>O.o c h (.tail _ (filterMap_idx hi))) ho,hd⟩,h⟩
noncomputable def IT (prog : Program) (w : World) (C : Addr) (Φ : Fc) (target iter : Expr) (ρ : List (Option V)) (σ : St) (Q : Nat→(Nat→List (Option V)→List (Option V))→St→Prop) : Prop :=
 ∀ A I s,AOk Φ A→Rel w.params C Φ I ρ σ s→∀ (QQ : Value→Shared→Prop) (E : Value→Shared→Prop),
  (∀ n bind σ' I' s' It wr W Stt,Q n bind σ'→Itr prog w C Φ A target It wr W n bind [] Stt→Stt 0 I' s'.heap→Rel w.params C Φ I' ρ σ' s'→Kp [] I σ I' σ' s s'→Off Φ wr I' σ'→(∀ b∈wr,s.heap.get? b = none)→QQ (.ref It) s') →
  wpAny (model prog w) A (eval iter Φ.env) (fun xv s₁=>wpAny (model prog w) A (pyIter xv) QQ E s₁) E s
theorem EX1.for_ {target iter : Expr} {body : List Stmt} {pos : Pos} {Q : QX} (hs : ∀ x,foldedSetIterable iter Φ.env x = pure x)
  (h : IT prog w C Φ target iter ρ σ fun n bind σ'=>∃ J : Nat→List (Option V)→St→Prop,J 0 ρ σ' ∧
   (∀ k ρ₁ σ₁,k < n→J k ρ₁ σ₁→EX prog w C Φ body (bind k ρ₁) σ₁ fun f ρ₂ σ₂=>match f with
    | .next | .cont=>J (k + 1) ρ₂ σ₂
    | .brk=>Q .next ρ₂ σ₂
    | .ret v=>Q (.ret v) ρ₂ σ₂)∧∀ ρ₁ σ₁,J n ρ₁ σ₁→Q .next ρ₁ σ₁) : EX1 prog w C Φ (.For target iter body [] pos) ρ σ Q:=by
 intro A I s a R QQ E g
 refine wpAny_For (h A I s a R _ E ?_) hs
 rintro n bind σ' I' s' It wr W Stt ⟨J,hJ0,turn,fin⟩ X hst R' k' O' hnew
 refine codeAny_loop' rfl (fun m s₁=>∃ i ρ₁ σ₁ I₁,m = n - i∧i ≤ n∧J i ρ₁ σ₁∧Rel w.params C Φ I₁ ρ₁ σ₁ s₁∧Kp Φ.own I σ I₁ σ₁ s s₁∧Stt i I₁ s₁.heap∧Off Φ wr I₁ σ₁) (fun m s₁ hI=>?_) (n - 0) ⟨0,ρ,σ',I',rfl,Nat.zero_le _,hJ0,R',k'.wider (fun a h=>nomatch h),hst,O'⟩
 obtain ⟨i,ρ₁,σ₁,I₁,rfl,hi,hJ,R₁,k₁,st₁,O₁⟩:=hI
 show wpAny _ A ((forTurn target (.ref It) body [] Φ.env).onRaise (fun x=>do noteFrame x Φ.env;theTreesLotGoes x)) _ _ s₁
 refine wpAny_noted ?_
 by_cases hlt : i < n
 ·have nb:=X.item i I₁ ρ₁ σ₁ s₁ hlt R₁ (fun p h=>nomatch h) st₁ O₁ (fun s₃=>wpAny (model prog w) A (execs body Φ.env) (fun f s₃=>match f with
     | .next | .cont=>∃ i',i + 1 = i'∧∃ ρ₁ σ₁ I₁,J i' ρ₁ σ₁∧Rel w.params C Φ I₁ ρ₁ σ₁ s₃∧Kp Φ.own I σ I₁ σ₁ s s₃∧Stt i' I₁ s₃.heap∧Off Φ wr I₁ σ₁
     | .brk=>QQ .next s₃
     | .ret v=>QQ (.ret v) s₃) (notedBy (model prog w) A Φ.env fun e s'=>cameBackBy (model prog w) A Φ.env E e s') s₃) (notedBy (model prog w) A Φ.env fun e s'=>cameBackBy (model prog w) A Φ.env E e s') ?_
  ·refine wpAny_bind (wpAny_standAt (wpAny_bind (wpAny_onRaise (wpAny_mono nb (fun r s₂ h₂=>?_) fun _ _ h'=>wpAny_standAt h'))))
   cases r with
   | none=>exact h₂.elim
   | some v =>
    refine wpAny_bind (wpAny_mono h₂ (fun _ s₃ h₃=>wpAny_bind (wpAny_mono h₃ (fun _ s₄ h₄=>wpAny_bind (wpAny_mono h₄ (fun f s₅ h₅=>?_) fun _ _ h'=>h')) fun _ _ h'=>h')) fun _ _ h'=>h')
    cases f with
    | next =>
     obtain ⟨_,rfl,ρ₁,σ₁,I₁,z⟩:=h₅
     exact wpAny_pure (.inl ⟨rfl,n - (i + 1),by omega,i + 1,ρ₁,σ₁,I₁,rfl,hlt,z⟩)
    | cont =>
     obtain ⟨_,rfl,ρ₁,σ₁,I₁,z⟩:=h₅
     exact wpAny_pure (.inl ⟨rfl,n - (i + 1),by omega,i + 1,ρ₁,σ₁,I₁,rfl,hlt,z⟩)
    | brk=>exact wpAny_pure h₅
    | ret v=>exact wpAny_pure h₅
  ·intro s₂ R₂ st₂ kk os₂
   haveI k₂ : Kp Φ.own I σ I₁ σ₁ s s₂:=by
    have off : ∀ b o,s.heap.get? b = some o→b ∉ wr:=fun b o e h=>by replace e:=(hnew b h ..) ▸ e;exact nsm e
    refine ⟨fun b o e h1 h2=>kk b o (off b o e) (fun q=>h2 (X.own b q)) (k₁.keep b o e h1 h2),fun b e=>?_,k₁.new,k₁.im,os₂.trans k₁.os⟩
    by_cases q : b∈Φ.own
    ·obtain ⟨o,ho⟩:=R₂.own_alive q
     refine rr ho ?_;rfl
    ·obtain ⟨o,ho⟩:=Option.isSome_iff_exists.mp e
     obtain ⟨o',ho'⟩:=Option.isSome_iff_exists.mp (k₁.alive b e)
     refine rr (kk b o' (off b o ho) (fun z=>q (X.own b z)) ho' ..) ?_;rfl
   refine turn i ρ₁ σ₁ hlt hJ A I₁ s₂ a R₂ _ _ ?_
   intro f ρ₃ σ₃ I₃ s₃ fl q₃ hf R₃ k₃
   have k₃':=k₂.trans k₃ R₂.apartI
   have O₃ : Off Φ wr I₃ σ₃:=by
    have key : ∀ b∈wr,¬ ((I₃ b).isSome = true ∨ b∈keys σ₃):=fun b hb q=>by
     rcases k₃.new b q with z | z | z
     ·replace z:=(O₁.i b hb ..) ▸ z;exact ftm z
     ·exact O₁.k b hb z
     ·have:=X.alive _ _ _ st₂ b hb
      replace this:=z ▸ this;exact ftm this
    refine ⟨fun b hb=>?_,fun b hb q=>key b hb (.inr q),O₁.o⟩
    cases q : I₃ b with
    | none=>rfl
    | some o=>exact absurd (.inl (by refine rr q ?_;rfl)) (key b hb)
   have st₃ : Stt (i + 1) I₃ s₃.heap:=X.frame _ _ _ _ _ st₂ (fun b hb o e=>k₃.keep b o e (O₁.k b hb) (O₁.o b hb)) k₃.im R₃.im (fun p h=>nomatch h)
   cases hf with
   | next=>exact ⟨_,rfl,ρ₃,σ₃,I₃,q₃,R₃,k₃',st₃,O₃⟩
   | cont=>exact ⟨_,rfl,ρ₃,σ₃,I₃,q₃,R₃,k₃',st₃,O₃⟩
   | brk=>exact g .next _ _ _ _ _ q₃ .next R₃ k₃'
   | ret hv=>exact g _ _ _ _ _ _ q₃ (.ret hv) R₃ k₃'
 ·have hin : i = n:=by omega
  subst hin
  refine wpAny_bind (wpAny_standAt (wpAny_bind (wpAny_onRaise (X.done I₁ ρ₁ σ₁ s₁ R₁ (fun p h=>nomatch h) st₁ O₁ _ _ fun s₂ R₂ kk os₂=>?_))))
  refine wpAny_pure (.inr ⟨rfl,codeAny_block (wpAny_execs_nil ?_)⟩)
  have off : ∀ b o,s.heap.get? b = some o→b ∉ wr:=fun b o e h=>by replace e:=(hnew b h ..) ▸ e;exact nsm e
  refine g .next _ _ _ _ _ (fin ρ₁ σ₁ hJ) .next R₂ ⟨fun b o e h1 h2=>kk b o (off b o e) (k₁.keep b o e h1 h2),fun b e=>?_,k₁.new,k₁.im,os₂.trans k₁.os⟩
  obtain ⟨o,ho⟩:=Option.isSome_iff_exists.mp e
  obtain ⟨o',ho'⟩:=Option.isSome_iff_exists.mp (k₁.alive b e)
  refine rr (kk b o' (off b o ho) ho' ..) ?_;rfl
theorem Off.sub {wr hid : List Addr} {I : Im} (O : Off Φ hid I σ) (h : ∀ b∈wr,b∈hid) : Off Φ wr I σ:=⟨fun b q=>O.i b (h b q),fun b q=>O.k b (h b q),fun b q=>O.o b (h b q)⟩
noncomputable abbrev SttOf (St : Nat→Heap→Prop) (I₀ : Im) (k : Nat) (I : Im) (h : Heap) : Prop:=St k h∧(∀ b o,I₀ b = some o→I b = some o)∧∀ b o,I b = some o→h.get? b = some o
theorem stt_frame {fp hid : List Addr} {St : Nat→Heap→Prop} {I₀ : Im} (hfr : ∀ k h h',St k h→(∀ b∈fp,∀ o,h.get? b = some o→h'.get? b = some o)→St k h') (hfp : ∀ b∈fp,b∈hid ∨ (I₀ b).isSome = true)
  {k : Nat} {I I' : Im} {h h' : Heap} (st : SttOf St I₀ k I h) (hw : ∀ b∈hid,∀ o,h.get? b = some o→h'.get? b = some o) (hI : ∀ b o,I b = some o→I' b = some o) (hI' : ∀ b o,I' b = some o→h'.get? b = some o) : SttOf St I₀ k I' h':=by
 refine ⟨hfr k h h' st.1 fun b hb o e=>?_,fun b o e=>hI b o (st.2.1 b o e),hI'⟩
 rcases hfp b hb with q | q
 ·exact hw b q o e
 ·obtain ⟨o₀,ho₀⟩:=Option.isSome_iff_exists.mp q
  haveI e1:=st.2.2 b o₀ (st.2.1 b o₀ ho₀)
  replace e1:=e ▸ e1
  obtain rfl:=si e1
  exact hI' b o (hI b o (st.2.1 b o ho₀))
theorem Itr.ofWalks (Ok : Φ.Ok) {A : Around} {x : Str} {px : Pos} {i : Nat} {sl : Option Addr} (hi : Φ.slots[i]? = some (x,sl)) (hs : sl = none ∨ Φ.env.kindOf x = some .cell)
  {It : Addr} {fp wr hid : List Addr} {P : Nat→Value→Prop} {St : Nat→Heap→Prop} {vals : List V} {I₀ : Im} (W : Walks prog w A It fp wr vals.length P St) (hw : ∀ b∈wr,b∈hid)
  (hP : ∀ k v,P k v→XGet C I₀ vals v k) (hfp : ∀ b∈fp,b∈hid ∨ (I₀ b).isSome = true) (hal : ∀ k h,St k h→∀ b∈hid,(h.get? b).isSome = true) :
  Itr prog w C Φ A (.Name x px) It hid [sl.getD Φ.env.locals] vals.length (fun k ρ=>ρ.set i (vals[k]?)) [] (SttOf St I₀) where
 item:=fun k I ρ σ s hk R _ st O QQ E h=>by
  refine W.item k s _ E hk st.1 fun v h' tk hPv hst' kk=>?_
  obtain ⟨y,hy,hv⟩:=hP k v hPv
  have R':=R.offset (tk:=tk) (O.sub hw) kk
  refine wpAny_pure (wpAny_assign_Name ?_)
  refine store_slot Ok hi hs R' (hv.mono st.2.1) fun s' R'' k' ks=>?_
  replace h:=hy ▸ h
  exact h s' R'' (stt_frame W.frame hfp ⟨hst',st.2.1,R'.im⟩ (fun b hb o e=>ks b o (fun q=>O.o b hb (slot_own hi b q)) e) (fun _ _ e=>e) R''.im) (fun b o h1 h2 e=>ks b o h2 (kk b o (fun q=>h1 (hw b q)) e)) k'.os
 done:=fun I ρ σ s R _ st O QQ E h=>W.done s QQ E st.1 fun h' tk kk=>h _ (R.offset (O.sub hw) kk) (fun b o h1 e=>kk b o (fun q=>h1 (hw b q)) e) rfl
 frame:=fun k I I' h h' st hw hI hI' _=>stt_frame W.frame hfp st hw hI hI'
 alive:=fun k I h st=>hal k h st.1
 own:=slot_own hi
 self:=fun k I s Q E st q=>W.self k s Q E st.1 q
theorem assign_pair (Ok : Φ.Ok) {A : Around} (hh : A.handled = none) {x y : Str} {px py pt : Pos} {kt : Nat} {i j : Nat} {sl sl' : Option Addr} (hi : Φ.slots[i]? = some (x,sl)) (hs : sl = none ∨ Φ.env.kindOf x = some .cell)
  (hj : Φ.slots[j]? = some (y,sl')) (hs' : sl' = none ∨ Φ.env.kindOf y = some .cell) {I : Im} {s : Shared} {T : Addr} {v u : Value} {a b : V} (R : Rel w.params C Φ I ρ σ s) (hT : s.heap.IsTuple T #[v,u]) (hv : VR C I a v) (hu : VR C I b u)
  {Q : Unit→Shared→Prop} {E : Value→Shared→Prop}
  (h : ∀ s',Rel w.params C Φ I ((ρ.set i (some a)).set j (some b)) σ s'→Kp [sl.getD Φ.env.locals,sl'.getD Φ.env.locals] I σ I σ s s'→(∀ b o,b ∉ [sl.getD Φ.env.locals,sl'.getD Φ.env.locals]→s.heap.get? b = some o→s'.heap.get? b = some o)→Q () s') :
  wpAny (model prog w) A (assign (.Tuple [.Name x px,.Name y py] kt pt) Φ.env (.ref T)) Q E s:=by
 rw [arm_assign_Tuple]
 refine wpAny_bind (wpAny_standAt ?_)
 refine wpAny_unpack_tuple hh hT rfl rfl fun h' hx=>?_
 have k₀ : ∀ b o,s.heap.get? b = some o→h'.get? b = some o:=fun b o e=>hx b o (Nat.ne_of_lt (Heap.lt_size e)) e
 have G : Gr I I s { s with heap:=h',toks:=s.toks }:=Gr.same R.im k₀
 refine assignInOrder_cons (wpAny_assign_Name (store_slot Ok hi hs (R.grow G) hv fun s₁ R₁ k₁ ks₁=>?_))
 refine assignInOrder_cons (wpAny_assign_Name (store_slot Ok hj hs' R₁ hu fun s₂ R₂ k₂ ks₂=>?_))
 have m1 : ∀ a∈[sl.getD Φ.env.locals],a∈[sl.getD Φ.env.locals,sl'.getD Φ.env.locals]:=fun a h=>by refine rr (List.mem_singleton.mp h ..) ?_;exact .head _
 have m2 : ∀ a∈[sl'.getD Φ.env.locals],a∈[sl.getD Φ.env.locals,sl'.getD Φ.env.locals]:=fun a h=>by refine rr (List.mem_singleton.mp h ..) ?_;exact .tail _ (.head _)
 exact assignInOrder_nil (h s₂ R₂ ((G.kp.trans (k₁.wider m1) R.apartI).trans (k₂.wider m2) R₁.apartI) fun b o hb e=>ks₂ b o (fun q=>hb (m2 b q)) (ks₁ b o (fun q=>hb (m1 b q)) (k₀ b o e)))
theorem pair_own {i j : Nat} {x y : Str} {sl sl' : Option Addr} (hi : Φ.slots[i]? = some (x,sl)) (hj : Φ.slots[j]? = some (y,sl')) : ∀ a∈[sl.getD Φ.env.locals,sl'.getD Φ.env.locals],a∈Φ.own:=fun a h=>by
 rcases List.mem_cons.mp h with q | q
 ·exact slot_own hi a (List.mem_singleton.mpr q)
 ·exact slot_own hj a q
theorem Itr.ofWalksU (Ok : Φ.Ok) {A : Around} (hh : A.handled = none) {x y : Str} {px py pt : Pos} {kt : Nat} {i j : Nat} {sl sl' : Option Addr} (hi : Φ.slots[i]? = some (x,sl)) (hs : sl = none ∨ Φ.env.kindOf x = some .cell)
  (hj : Φ.slots[j]? = some (y,sl')) (hs' : sl' = none ∨ Φ.env.kindOf y = some .cell)
  {It : Addr} {fp wr hid : List Addr} {P : Nat→Array Value→Prop} {St : Nat→Heap→Prop} {Mid : Nat→Addr→Heap→Prop} {vals : List (V × V)} {I₀ : Im} (W : WalksU prog w A It fp wr vals.length P St Mid) (hw : ∀ b∈wr,b∈hid)
  (hP : ∀ k v,P k v→XGet2 C I₀ vals v k) (hfp : ∀ b∈fp,b∈hid ∨ (I₀ b).isSome = true)
  (hal : ∀ k h,St k h→∀ b∈hid,(h.get? b).isSome = true) :
  Itr prog w C Φ A (.Tuple [.Name x px,.Name y py] kt pt) It hid [sl.getD Φ.env.locals,sl'.getD Φ.env.locals] vals.length (fun k ρ=>(ρ.set i (vals[k]?.map (·.1))).set j (vals[k]?.map (·.2))) [] (SttOf St I₀) where
 item:=fun k I ρ σ s hk R _ st O QQ E h=>by
  refine W.item k s _ E hk st.1 fun T vs h' tk hPv hT hmid kk=>?_
  obtain ⟨a,b,c,d,hy,rfl,ha,hb⟩:=hP k vs hPv
  haveI R':=R.offset (tk:=tk) (O.sub hw) kk
  refine W.go _ _ _ k T _ _ E hmid fun h'' hst'' kk''=>?_
  haveI R'':=R'.offset (tk:=tk) (O.sub hw) kk''
  have hT' : h''.IsTuple T #[c,d]:=hT.at fun o e=>kk'' T o (W.apart _ _ _ hmid) e
  refine assign_pair Ok hh hi hs hj hs' R'' hT' (ha.mono st.2.1) (hb.mono st.2.1) fun s' R3 k3 ks=>?_
  replace h:=hy ▸ h
  exact h s' R3 (stt_frame W.frame hfp ⟨hst'',st.2.1,R''.im⟩ (fun b hb o e=>ks b o (fun q=>O.o b hb (pair_own hi hj b q)) e) (fun _ _ e=>e) R3.im) (fun b o h1 h2 e=>ks b o h2 (kk'' b o (fun q=>h1 (hw b q)) (kk b o (fun q=>h1 (hw b q)) e))) k3.os
 done:=fun I ρ σ s R _ st O QQ E h=>W.done s QQ E st.1 fun h' tk kk=>h _ (R.offset (O.sub hw) kk) (fun b o h1 e=>kk b o (fun q=>h1 (hw b q)) e) rfl
 frame:=fun k I I' h h' st hw hI hI' _=>stt_frame W.frame hfp st hw hI hI'
 alive:=fun k I h st=>hal k h st.1
 own:=pair_own hi hj
 self:=fun k I s Q E st q=>W.self k s Q E st.1 q
inductive Src1E (prog : Program) (w : World) (C : Addr) (A : Around) (It : Addr) (hid : List Addr) (vals : List V) (I₀ : Im) (St : Nat→Heap→Prop) : Prop
 | mk (fp wr : List Addr) (P : Nat→Value→Prop) (W : Walks prog w A It fp wr vals.length P St) (h1 : ∀ b∈wr,b∈hid) (h2 : ∀ k v,P k v→XGet C I₀ vals v k) (h3 : ∀ b∈fp,b∈hid ∨ (I₀ b).isSome = true)
inductive Src2E (prog : Program) (w : World) (C : Addr) (A : Around) (It : Addr) (hid : List Addr) (vals : List (V × V)) (I₀ : Im) (St : Nat→Heap→Prop) : Prop
 | mk (fp wr : List Addr) (P : Nat→Array Value→Prop) (Mid : _) (W : WalksU prog w A It fp wr vals.length P St Mid) (h1 : ∀ b∈wr,b∈hid) (h2 : ∀ k v,P k v→XGet2 C I₀ vals v k) (h3 : ∀ b∈fp,b∈hid ∨ (I₀ b).isSome = true)
structure Src1 (prog : Program) (w : World) (C : Addr) (A : Around) (It : Addr) (hid : List Addr) (vals : List V) (I₀ : Im) (St : Nat→Heap→Prop) : Prop where
 ex : Src1E prog w C A It hid vals I₀ St
 hal : ∀ k h,St k h→∀ b∈hid,(h.get? b).isSome = true
structure Src2 (prog : Program) (w : World) (C : Addr) (A : Around) (It : Addr) (hid : List Addr) (vals : List (V × V)) (I₀ : Im) (St : Nat→Heap→Prop) : Prop where
 ex : Src2E prog w C A It hid vals I₀ St
 hal : ∀ k h,St k h→∀ b∈hid,(h.get? b).isSome = true
inductive QLst (Q : List V→St→Prop) (v : V) (σ : St) : Prop | mk (xs : List V) (e : v = .lst xs) (q : Q xs σ)
noncomputable def IE1 (prog : Program) (w : World) (C : Addr) (Φ : Fc) (iter : Expr) (ρ : List (Option V)) (σ : St) (Q : List V→St→Prop) : Prop :=
 ∀ A I s,AOk Φ A→Rel w.params C Φ I ρ σ s→∀ (QQ : Value→Shared→Prop) (E : Value→Shared→Prop),
  (∀ vals σ' I' s' It hid St,Q vals σ'→Src1 prog w C A It hid vals I' St→St 0 s'.heap→Rel w.params C Φ I' ρ σ' s'→Kp [] I σ I' σ' s s'→Off Φ hid I' σ'→(∀ b∈hid,s.heap.get? b = none)→QQ (.ref It) s') →
  wpAny (model prog w) A (eval iter Φ.env) (fun xv s₁=>wpAny (model prog w) A (pyIter xv) QQ E s₁) E s
noncomputable def IE2 (prog : Program) (w : World) (C : Addr) (Φ : Fc) (iter : Expr) (ρ : List (Option V)) (σ : St) (Q : List (V × V)→St→Prop) : Prop :=
 ∀ A I s,AOk Φ A→Rel w.params C Φ I ρ σ s→∀ (QQ : Value→Shared→Prop) (E : Value→Shared→Prop),
  (∀ vals σ' I' s' It hid St,Q vals σ'→Src2 prog w C A It hid vals I' St→St 0 s'.heap→Rel w.params C Φ I' ρ σ' s'→Kp [] I σ I' σ' s s'→Off Φ hid I' σ'→(∀ b∈hid,s.heap.get? b = none)→QQ (.ref It) s') →
  wpAny (model prog w) A (eval iter Φ.env) (fun xv s₁=>wpAny (model prog w) A (pyIter xv) QQ E s₁) E s
theorem Src1.itr (Ok : Φ.Ok) {A : Around} {x : Str} {px : Pos} {i : Nat} {sl : Option Addr} (hi : Φ.slots[i]? = some (x,sl)) (hs : sl = none ∨ Φ.env.kindOf x = some .cell) {It : Addr} {hid : List Addr} {vals : List V} {I₀ : Im} {St : Nat→Heap→Prop}
  (S : Src1 prog w C A It hid vals I₀ St) : Itr prog w C Φ A (.Name x px) It hid [sl.getD Φ.env.locals] vals.length (fun k ρ=>ρ.set i (vals[k]?)) [] (SttOf St I₀):=by
 obtain ⟨fp,wr,P,W,h1,h2,h3⟩:=S.ex
 exact Itr.ofWalks Ok hi hs W h1 h2 h3 S.hal
theorem Src2.itr (Ok : Φ.Ok) {A : Around} (hh : A.handled = none) {x y : Str} {px py pt : Pos} {kt : Nat} {i j : Nat} {sl sl' : Option Addr} (hi : Φ.slots[i]? = some (x,sl)) (hs : sl = none ∨ Φ.env.kindOf x = some .cell)
  (hj : Φ.slots[j]? = some (y,sl')) (hs' : sl' = none ∨ Φ.env.kindOf y = some .cell) {It : Addr} {hid : List Addr} {vals : List (V × V)} {I₀ : Im} {St : Nat→Heap→Prop}
  (S : Src2 prog w C A It hid vals I₀ St) : Itr prog w C Φ A (.Tuple [.Name x px,.Name y py] kt pt) It hid [sl.getD Φ.env.locals,sl'.getD Φ.env.locals] vals.length (fun k ρ=>(ρ.set i (vals[k]?.map (·.1))).set j (vals[k]?.map (·.2))) [] (SttOf St I₀):=by
 obtain ⟨fp,wr,P,Mid,W,h1,h2,h3⟩:=S.ex
 exact Itr.ofWalksU Ok hh hi hs hj hs' W h1 h2 h3 S.hal
theorem IT.one (Ok : Φ.Ok) {x : Str} {px : Pos} {i : Nat} {sl : Option Addr} (hi : Φ.slots[i]? = some (x,sl)) (hs : sl = none ∨ Φ.env.kindOf x = some .cell) {iter : Expr} {Q : Nat→(Nat→List (Option V)→List (Option V))→St→Prop}
  (h : IE1 prog w C Φ iter ρ σ fun vals σ'=>Q vals.length (fun k ρ=>ρ.set i (vals[k]?)) σ') : IT prog w C Φ (.Name x px) iter ρ σ Q :=
 fun A I s a R QQ E g=>h A I s a R QQ E fun vals σ' I' s' It hid St q S st R' k' O' hn=>g _ _ σ' I' s' It hid _ _ q (S.itr Ok hi hs) ⟨st,fun _ _ e=>e,R'.im⟩ R' k' O' hn
theorem IT.two (Ok : Φ.Ok) (hh : Φ.hd = none) {x y : Str} {px py pt : Pos} {kt : Nat} {i j : Nat} {sl sl' : Option Addr} (hi : Φ.slots[i]? = some (x,sl)) (hs : sl = none ∨ Φ.env.kindOf x = some .cell)
  (hj : Φ.slots[j]? = some (y,sl')) (hs' : sl' = none ∨ Φ.env.kindOf y = some .cell) {iter : Expr} {Q : Nat→(Nat→List (Option V)→List (Option V))→St→Prop}
  (h : IE2 prog w C Φ iter ρ σ fun vals σ'=>Q vals.length (fun k ρ=>(ρ.set i (vals[k]?.map (·.1))).set j (vals[k]?.map (·.2))) σ') : IT prog w C Φ (.Tuple [.Name x px,.Name y py] kt pt) iter ρ σ Q :=
 fun A I s a R QQ E g=>h A I s a R QQ E fun vals σ' I' s' It hid St q S st R' k' O' hn=>g _ _ σ' I' s' It hid _ _ q (S.itr Ok (a.hd.trans hh) hi hs hj hs') ⟨st,fun _ _ e=>e,R'.im⟩ R' k' O' hn
theorem IE1.list (hh : Φ.hd = none) {iter : Expr} {Q : List V→St→Prop} (h : EV prog w C Φ iter ρ σ (QLst Q)) : IE1 prog w C Φ iter ρ σ Q:=by
 intro A I s a R QQ E g
 refine h A I s a R _ E fun v σ' I' s' val z0 hv R' k'=>?_
 obtain ⟨xs,hv',q⟩:=z0
 subst hv'
 obtain ⟨l,vs,n,rfl,hI,hvs⟩:=hv.lst_inv
 haveI hl : s'.heap.IsList l vs.toArray:=⟨_,R'.im _ _ hI,rfl,_,rfl⟩
 refine wpAny_pyIter_list hl ?_
 have hlt : l < s'.heap.objs.size:=Heap.lt_size (R'.im _ _ hI)
 have kk : ∀ b o,s'.heap.get? b = some o→(s'.heap.push { cls:=.type "list_iterator",data:=.fields #[.ref l,.int 0 0] }).get? b = some o:=fun b o e=>Heap.get?_push_of_some _ e
 haveI G : Gr I' I' s' { s' with heap:=s'.heap.push { cls:=.type "list_iterator",data:=.fields #[.ref l,.int 0 0] } }:=Gr.same (tk:=s'.toks) R'.im kk
 haveI hnone : s'.heap.get? s'.heap.objs.size = none:=Heap.get?_none_of_le (Nat.le_refl _)
 have hid : ∀ b∈[s'.heap.objs.size],s'.heap.get? b = none:=fun b hb=>by refine rr (List.mem_singleton.mp hb ..) ?_;exact hnone
 haveI W:=Walks.list (prog:=prog) (w:=w) (A:=A) (a.hd.trans hh) s'.heap.objs.size l (Nat.ne_of_lt hlt) vs.toArray
 haveI e1 : vs.toArray.size = xs.length:=by simp [hvs.1]
 replace W:=e1 ▸ W
 refine g xs σ' I' _ s'.heap.objs.size [s'.heap.objs.size] _ q ⟨⟨_,_,_,W,fun b hb=>hb,fun k v e=>?_,fun b hb=>?_⟩,fun k h st b hb=>?_⟩ ⟨⟨_,Heap.get?_push_size _ rfl,rfl,rfl⟩,_,kk _ _ (R'.im _ _ hI),rfl,_,rfl⟩ (R'.grow G) (k'.trans G.kp R'.apartI) ⟨fun b hb=>?_,fun b hb z=>?_,fun b hb z=>?_⟩ fun b hb=>?_
 ·haveI e : vs[k]? = some v:=by simpa using e
  exact hvs.get' e
 ·rcases List.mem_cons.mp hb with rfl | hb
  ·exact .inl (.head _)
  ·refine rr (List.mem_singleton.mp hb ..) ?_
   exact .inr (by refine rr hI ?_;rfl)
 ·refine rr (List.mem_singleton.mp hb ..) ?_
  obtain ⟨⟨o,ho,_⟩,_⟩:=st
  refine rr ho ?_;rfl
 ·cases z : I' b with
  | none=>rfl
  | some o=>have:=R'.im b o z;replace this:=(hid b hb ..) ▸ this;exact nsm this
 ·obtain ⟨o,ho⟩:=R'.key_alive z
  replace ho:=(hid b hb ..) ▸ ho;exact nsm ho
 ·obtain ⟨o,ho⟩:=R'.own_alive z
  replace ho:=(hid b hb ..) ▸ ho;exact nsm ho
 ·cases z : s.heap.get? b with
  | none=>rfl
  | some o =>
   have:=k'.alive b (by refine rr z ?_;rfl)
   replace this:=(hid b hb ..) ▸ this;exact ftm this
end
noncomputable def slotsOf : Nat→List (Str × NameKind)→List (Str × Option Addr)
 | _,[]=>[]
 | n,(x,.local) :: r=>(x,none) :: slotsOf n r
 | n,(x,.cell) :: r=>(x,some n) :: slotsOf (n + 1) r
 | n,(_,_) :: r=>slotsOf n r
theorem slotsOf_loc : ∀ {names : List (Str × NameKind)} {n : Nat} {x : Str},(x,none)∈slotsOf n names→(x,NameKind.local)∈names
 | (y,k) :: r,n,x,h=>by
  cases k
  ·rcases List.mem_cons.mp h with e | h
   ·cases e;exact .head _
   ·exact .tail _ (slotsOf_loc h)
  ·rcases List.mem_cons.mp h with e | h
   ·cases e
   ·exact .tail _ (slotsOf_loc h)
  all_goals exact .tail _ (slotsOf_loc h)
theorem cellsFrom_acc : ∀ (names : List (Str × NameKind)) (n : Nat) (acc : List (Str × Addr)) (p : Str × Addr),p∈acc→p∈cellsFrom n names acc
 | [],_,_,_,h=>h
 | (x,k) :: r,n,acc,p,h=>by
  unfold cellsFrom
  split
  ·exact cellsFrom_acc r _ _ _ (.tail _ h)
  ·exact cellsFrom_acc r _ _ _ h
theorem slotsOf_cel : ∀ {names : List (Str × NameKind)} {n : Nat} {x : Str} {c : Addr} (acc : List (Str × Addr)),(x,some c)∈slotsOf n names→(x,NameKind.cell)∈names∧n ≤ c∧(x,c)∈cellsFrom n names acc
 | (y,k) :: r,n,x,c,acc,h=>by
  cases k
  ·rcases List.mem_cons.mp h with e | h
   ·cases e
   ·obtain ⟨a,b,d⟩:=slotsOf_cel (names:=r) acc h;exact ⟨.tail _ a,b,d⟩
  ·rcases List.mem_cons.mp h with e | h
   ·cases e
    exact ⟨.head _,Nat.le_refl _,cellsFrom_acc r _ _ _ (.head _)⟩
   ·obtain ⟨a,b,d⟩:=slotsOf_cel ((y,n) :: acc) h;exact ⟨.tail _ a,by lia,d⟩
  all_goals (obtain ⟨a,b,d⟩:=slotsOf_cel (names:=r) acc h;exact ⟨.tail _ a,b,d⟩)
theorem slotsOf_sub : ∀ {names : List (Str × NameKind)} {n : Nat},((slotsOf n names).map (·.1)).Sublist (names.map (·.1))
 | [],_=>.slnil
 | (y,k) :: r,n=>by
  cases k
  ·exact .cons_cons _ slotsOf_sub
  ·exact .cons_cons _ slotsOf_sub
  all_goals exact .cons _ (slotsOf_sub (names:=r))
theorem slotsOf_ge : ∀ {names : List (Str × NameKind)} {n : Nat} {c : Addr},c∈(slotsOf n names).filterMap (·.2)→n ≤ c:=fun {names n c} h=>by
 obtain ⟨⟨x,o⟩,hm,e⟩:=List.mem_filterMap.mp h
 dsimp only at e
 subst e
 exact (slotsOf_cel [] hm).2.1
theorem slotsOf_nd : ∀ {names : List (Str × NameKind)} {n : Nat},((slotsOf n names).filterMap (·.2)).Nodup
 | [],_=>.nil
 | (y,k) :: r,n=>by
  cases k
  ·exact slotsOf_nd (names:=r)
  ·exact List.nodup_cons.mpr ⟨fun h=>by have:=slotsOf_ge h;lia,slotsOf_nd⟩
  all_goals exact slotsOf_nd (names:=r)
theorem lookup_nodup {β : Type} : ∀ {l : List (Str × β)} {x : Str} {k : β},(l.map (·.1)).Nodup→(x,k)∈l→l.lookup x = some k
 | (y,k') :: l,x,k,nd,h=>by
  replace nd:=(List.map_cons ..) ▸ nd;rw [List.nodup_cons] at nd
  rcases List.mem_cons.mp h with e | h
  ·cases e;simp
  ·have hne : x ≠ y:=fun e=>nd.1 (e ▸ List.mem_map.mpr ⟨(x,k),h,rfl⟩)
   refine rr (List.lookup_cons ..) ?_;refine rr (beq_eq_false_iff_ne.mpr hne ..) ?_
   exact lookup_nodup nd.2 h
theorem cellsFrom_nd : ∀ (names : List (Str × NameKind)) (n : Nat) (acc : List (Str × Addr)),(names.map (·.1)).Nodup→(acc.map (·.1)).Nodup→(∀ p∈acc,p.1 ∉ names.map (·.1))→((cellsFrom n names acc).map (·.1)).Nodup
 | [],_,_,_,h,_=>h
 | (x,k) :: r,n,acc,nd,na,hd=>by
  replace nd:=(List.map_cons ..) ▸ nd;rw [List.nodup_cons] at nd
  unfold cellsFrom
  split
  ·refine cellsFrom_nd r _ _ nd.2 ?_ fun p hp=>?_
   ·refine rr (List.map_cons ..) ?_;rw [List.nodup_cons]
    refine ⟨fun h=>?_,na⟩
    obtain ⟨p,hp,e⟩:=List.mem_map.mp h
    exact hd p hp (by refine rr e ?_;exact .head _)
   ·rcases List.mem_cons.mp hp with rfl | hp
    ·exact nd.1
    ·exact fun h=>hd p hp (.tail _ h)
  ·exact cellsFrom_nd r _ _ nd.2 na fun p hp h=>hd p hp (.tail _ h)
theorem cellsFrom_nd0 {names : List (Str × NameKind)} {n : Nat} (nd : (names.map (·.1)).Nodup) : ((cellsFrom n names []).map (·.1)).Nodup:=cellsFrom_nd names n [] nd .nil fun p hp=>nomatch hp
theorem bindL_out {kindOf : Str→Option NameKind} {p : Str} : ∀ {binds : List (Str × Value)} {m : Str→Option Value},p ∉ binds.map (·.1)→bindL kindOf binds m p = m p
 | [],_,_=>rfl
 | (n,v) :: r,m,h=>by
  have hn : p ≠ n:=fun e=>h (e ▸ .head _)
  rw [bindL];refine rr (bindL_out fun q=>h (.tail _ q) ..) ?_
  split
  ·simp [hn]
  ·rfl
theorem bindL_in {kindOf : Str→Option NameKind} {p : Str} {v : Value} (hk : kindOf p = some .local) : ∀ {binds : List (Str × Value)} {m : Str→Option Value},(binds.map (·.1)).Nodup→(p,v)∈binds→bindL kindOf binds m p = some v
 | (n,u) :: r,m,nd,h=>by
  replace nd:=(List.map_cons ..) ▸ nd;rw [List.nodup_cons] at nd
  rw [bindL]
  rcases List.mem_cons.mp h with e | h
  ·cases e
   refine rr (bindL_out nd.1 ..) ?_;refine rr (if_pos hk ..) ?_
   simp
  ·exact bindL_in hk nd.2 h
theorem bindC_out {kindOf : Str→Option NameKind} {p : Str} : ∀ {binds : List (Str × Value)} {m : Str→Option Value},p ∉ binds.map (·.1)→bindC kindOf binds m p = m p
 | [],_,_=>rfl
 | (n,v) :: r,m,h=>by
  have hn : p ≠ n:=fun e=>h (e ▸ .head _)
  rw [bindC];refine rr (bindC_out fun q=>h (.tail _ q) ..) ?_
  split
  ·rfl
  ·simp [hn]
theorem bindC_in {kindOf : Str→Option NameKind} {p : Str} {v : Value} (hk : kindOf p ≠ some .local) : ∀ {binds : List (Str × Value)} {m : Str→Option Value},(binds.map (·.1)).Nodup→(p,v)∈binds→bindC kindOf binds m p = some v
 | (n,u) :: r,m,nd,h=>by
  replace nd:=(List.map_cons ..) ▸ nd;rw [List.nodup_cons] at nd
  rw [bindC]
  rcases List.mem_cons.mp h with e | h
  ·cases e
   refine rr (bindC_out nd.1 ..) ?_;refine rr (if_neg hk ..) ?_
   simp
  ·exact bindC_in hk nd.2 h
section
noncomputable def EA (prog : Program) (w : World) (C : Addr) (Φ : Fc) (pos : Pos) (es : List Expr) (ρ : List (Option V)) (σ : St) (Q : List V→St→Prop) : Prop :=
 ∀ A I s,AOk Φ A→Rel w.params C Φ I ρ σ s→∀ (QQ : List Value→Shared→Prop) (E : Value→Shared→Prop),
  (∀ xs σ' I' s' vals,Q xs σ'→VRs C I' xs vals→Rel w.params C Φ I' ρ σ' s'→Kp [] I σ I' σ' s s'→QQ vals s')→wpAny (model prog w) A (spliced (backTo pos (starEach es Φ.env))) QQ E s
section
variable (prog : Program) (w : World) (C : Addr) (Φ : Fc)
noncomputable abbrev kCons2 (x : V) (Q : List V→St→Prop) : List V→St→Prop:=fun xs σ₂=>Q (x :: xs) σ₂
noncomputable abbrev kCons (pos : Pos) (rest : List Expr) (ρ : List (Option V)) (Q : List V→St→Prop) : V→St→Prop:=fun x σ₁=>EA prog w C Φ pos rest ρ σ₁ (kCons2 x Q)
end
theorem EA.nil {pos : Pos} {Q : List V→St→Prop} (q : Q [] σ) : EA prog w C Φ pos [] ρ σ Q :=
 fun A I s a R QQ E g=>Calls.spliced_nil (g [] σ I s [] q .nil R .refl)
theorem EA.cons {pos : Pos} {e : Expr} {rest : List Expr} {Q : List V→St→Prop} (he : starEach (e :: rest) Φ.env = (false,eval e Φ.env) :: starEach rest Φ.env)
  (h : EV prog w C Φ e ρ σ (kCons prog w C Φ pos rest ρ Q)) : EA prog w C Φ pos (e :: rest) ρ σ Q:=by
 intro A I s a R QQ E g
 refine rr he ?_
 refine Calls.spliced_cons (h A I s a R _ E fun x σ₁ I₁ s₁ v q hx R₁ k₁=>?_)
 refine q A I₁ s₁ a R₁ _ E fun xs σ₂ I₂ s₂ vals q₂ hxs R₂ k₂=>?_
 exact g (x :: xs) σ₂ I₂ s₂ (v :: vals) q₂ (.cons (hx.mono k₂.im) hxs) R₂ (k₁.trans k₂ R₁.apartI)
structure Tx (h₀ : Heap) (mg mb : Str→Option Value) : Prop where
 g : h₀.Ns mainGlobals mg
 b : h₀.Ns builtinsNs mb
 bi : ∀ x : Str,x ≠ ("__name__" : Str)→mb x = bootBuiltins x
 nl : h₀.NoLimit
theorem Rel.h₀ {P : Params} {I : Im} {s : Shared} (R : Rel P C Φ I ρ σ s) : ∀ b o,Φ.h₀.get? b = some o→s.heap.get? b = some o:=fun b o e=>R.im b o (R.base b o e)
theorem load_glob (Ok : Φ.Ok) {mg mb : Str→Option Value} (T : Tx Φ.h₀ mg mb) {A : Around} {I : Im} {s : Shared} (R : Rel w.params C Φ I ρ σ s) {x : Str} {pos : Pos} {v : Value} (hx : Φ.env.kindOf x = some .globalImplicit) (hd : (x == ("__debug__" : Str)) = false) (hm : mg x = some v)
  {Q : Value→Shared→Prop} {E : Value→Shared→Prop} (h : Q v s) : wpAny (model prog w) A (eval (.Name x pos) Φ.env) Q E s :=
 Calls.Name_function_global Ok.kind hx (Calls.loadGlobal_global (by refine rr (Ok.globals ..) ?_;exact T.g.keeps R.h₀) hm h) hd
theorem load_boot (Ok : Φ.Ok) (hb : Φ.env.builtins = builtinsNs) {mg mb : Str→Option Value} (T : Tx Φ.h₀ mg mb) {A : Around} {I : Im} {s : Shared} (R : Rel w.params C Φ I ρ σ s) {x : Str} {pos : Pos} {v : Value} (hx : Φ.env.kindOf x = some .globalImplicit) (hd : (x == ("__debug__" : Str)) = false)
  (hm : mg x = none) (hv : bootBuiltins x = some v) (hn : x ≠ ("__name__" : Str)) {Q : Value→Shared→Prop} {E : Value→Shared→Prop} (h : Q v s) : wpAny (model prog w) A (eval (.Name x pos) Φ.env) Q E s :=
 Calls.Name_function_global Ok.kind hx (Calls.loadGlobal_builtin (by refine rr (Ok.globals ..) ?_;exact T.g.keeps R.h₀) hm (by refine rr hb ?_;exact T.b.keeps R.h₀) ((T.bi x hn).trans hv) h) hd
theorem EV.glob (Ok : Φ.Ok) {mg mb : Str→Option Value} (T : Tx Φ.h₀ mg mb) {x : Str} {pos : Pos} {v : V} {val : Value} {Q : QV} (hx : Φ.env.kindOf x = some .globalImplicit) (hd : (x == ("__debug__" : Str)) = false) (hm : mg x = some val)
  (hv : ∀ I : Im,(∀ b o,Φ.h₀.get? b = some o→I b = some o)→VR C I v val) (q : Q v σ) : EV prog w C Φ (.Name x pos) ρ σ Q :=
 fun A I s a R QQ E g=>load_glob Ok T R hx hd hm (g.here R (hv I R.base) q)
theorem EV.callB (Ok : Φ.Ok) (hb : Φ.env.builtins = builtinsNs) {mg mb : Str→Option Value} (T : Tx Φ.h₀ mg mb) {x : Str} {p pos : Pos} {e : Expr} {args : List Expr} {id : String} {Q : QV} (hx : Φ.env.kindOf x = some .globalImplicit)
  (hd : (x == ("__debug__" : Str)) = false) (hm : mg x = none) (hv : bootBuiltins x = some (.builtin id)) (hn : x ≠ ("__name__" : Str)) (he : starEach (e :: args) Φ.env = (false,eval e Φ.env) :: starEach args Φ.env) (hpl : (backTo pos (starEach args Φ.env)).any (·.1) = false)
  (h : EA prog w C Φ pos (e :: args) ρ σ fun xs σ₁=>∀ A I s vals,AOk Φ A→Rel w.params C Φ I ρ σ₁ s→VRs C I xs vals→TJ prog w C Φ A I ρ σ₁ s (call (.builtin id) vals) Q) :
  EV prog w C Φ (.Call (.Name x p) (e :: args) [] pos) ρ σ Q:=by
 intro A I s a R QQ E g
 refine Call_Name rfl (load_boot Ok hb T R hx hd hm hv hn ?_)
 refine rr he ?_
 refine Calls.callWith_builtin (by show (false || (backTo pos (starEach args Φ.env)).any (·.1)) = false;refine rr hpl ?_;rfl) (Calls.evalArgs_plain ?_)
 haveI h':=h A I s a R (fun vs s₁=>wpAny (model prog w) A (call (.builtin id) vs) QQ E s₁) E fun xs σ₁ I₁ s₁ vals q hxs R₁ k₁=>q A I₁ s₁ vals a R₁ hxs QQ E (g.after R₁ k₁)
 replace h':=he ▸ h'
 exact h'
theorem EV.callT (Ok : Φ.Ok) (hb : Φ.env.builtins = builtinsNs) {mg mb : Str→Option Value} (T : Tx Φ.h₀ mg mb) {x : Str} {p pos : Pos} {e : Expr} {args : List Expr} {id : String} {Q : QV} (hx : Φ.env.kindOf x = some .globalImplicit)
  (hd : (x == ("__debug__" : Str)) = false) (hm : mg x = none) (hv : bootBuiltins x = some (.type id)) (hn : x ≠ ("__name__" : Str)) (he : starEach (e :: args) Φ.env = (false,eval e Φ.env) :: starEach args Φ.env) (hpl : (backTo pos (starEach args Φ.env)).any (·.1) = false)
  (h : EA prog w C Φ pos (e :: args) ρ σ fun xs σ₁=>∀ A I s vals,AOk Φ A→Rel w.params C Φ I ρ σ₁ s→VRs C I xs vals→TJ prog w C Φ A I ρ σ₁ s (call (.type id) vals) Q) :
  EV prog w C Φ (.Call (.Name x p) (e :: args) [] pos) ρ σ Q:=by
 intro A I s a R QQ E g
 refine Call_Name rfl (load_boot Ok hb T R hx hd hm hv hn ?_)
 refine rr he ?_
 refine PyProof.Rows.callWith_type (by show (false || (backTo pos (starEach args Φ.env)).any (·.1)) = false;refine rr hpl ?_;rfl) (Calls.evalArgs_plain ?_)
 haveI h':=h A I s a R (fun vs s₁=>wpAny (model prog w) A (call (.type id) vs) QQ E s₁) E fun xs σ₁ I₁ s₁ vals q hxs R₁ k₁=>q A I₁ s₁ vals a R₁ hxs QQ E (g.after R₁ k₁)
 replace h':=he ▸ h'
 exact h'
structure Fn where
 name : Str
 qual : Str
 params : Arguments
 body : List Stmt
 scope : Scope
inductive FnAt (h₀ : Heap) (f : Addr) (d : Fn) (cdv : Value) : Prop
 | mk (o : _) (doc : _) (pm : _) (an : _) (ct : _) (h0 : h₀.get? f = some o) (h1 : o.data = .func (fnX d.name d.qual d.params d.body d.scope [] .none .none doc pm an cdv ct)) (h2 : h₀.CodeRec cdv d.qual)
noncomputable def BindOk (d : Fn) (ps : List Str) : Prop:=∀ cdv doc pm an ct (vals : List Value),vals.length = ps.length→bindArgs (fnX d.name d.qual d.params d.body d.scope [] .none .none doc pm an cdv ct) ⟨vals,[]⟩ = pure (ps.zip vals)
theorem len_succ {α : Type} {l : List α} {n : Nat} (h : l.length = n + 1) : ∃ a r,l = a :: r∧r.length = n:=by
 cases l with
 | nil=>cases h
 | cons a r=>exact ⟨a,r,rfl,Nat.succ.inj h⟩
theorem BindOk.n1 {d : Fn} {x : Str} (h : ∀ cdv doc pm an ct v,bindArgs (fnX d.name d.qual d.params d.body d.scope [] .none .none doc pm an cdv ct) ⟨[v],[]⟩ = pure [(x,v)]) : BindOk d [x]:=fun cdv doc pm an ct vals hl=>by
 obtain ⟨v,r1,rfl,h1⟩:=len_succ (n:=0) hl
 exact (List.length_eq_zero_iff.mp h1) ▸ h cdv doc pm an ct v
theorem BindOk.n2 {d : Fn} {x y : Str} (h : ∀ cdv doc pm an ct v u,bindArgs (fnX d.name d.qual d.params d.body d.scope [] .none .none doc pm an cdv ct) ⟨[v,u],[]⟩ = pure [(x,v),(y,u)]) : BindOk d [x,y]:=fun cdv doc pm an ct vals hl=>by
 obtain ⟨v,r1,rfl,h1⟩:=len_succ (n:=1) hl
 obtain ⟨u,r2,rfl,h2⟩:=len_succ (n:=0) h1
 exact (List.length_eq_zero_iff.mp h2) ▸ h cdv doc pm an ct v u
theorem BindOk.n4 {d : Fn} {x y z t : Str} (h : ∀ cdv doc pm an ct v u p q,bindArgs (fnX d.name d.qual d.params d.body d.scope [] .none .none doc pm an cdv ct) ⟨[v,u,p,q],[]⟩ = pure [(x,v),(y,u),(z,p),(t,q)]) : BindOk d [x,y,z,t]:=fun cdv doc pm an ct vals hl=>by
 obtain ⟨v,r1,rfl,h1⟩:=len_succ (n:=3) hl
 obtain ⟨u,r2,rfl,h2⟩:=len_succ (n:=2) h1
 obtain ⟨p,r3,rfl,h3⟩:=len_succ (n:=1) h2
 obtain ⟨q,r4,rfl,h4⟩:=len_succ (n:=0) h3
 exact (List.length_eq_zero_iff.mp h4) ▸ h cdv doc pm an ct v u p q
noncomputable def Fn.ok (d : Fn) (ps : List Str) : Bool :=
 (d.scope.kind == .function) && !d.scope.isCoroutine && !d.scope.isGenerator && decide (d.scope.names.map (·.1)).Nodup && (((slotsOf 0 d.scope.names).map (·.1)).take ps.length == ps) &&
  ((slotsOf 0 d.scope.names).all fun x=>x.1 != ("__debug__" : Str) && x.1 != ("__classdict__" : Str))
theorem slotsOf_names : ∀ {names : List (Str × NameKind)} {n m : Nat},(slotsOf n names).map (·.1) = (slotsOf m names).map (·.1)
 | [],_,_=>rfl
 | (y,k) :: r,n,m=>by
  cases k
  ·exact congrArg (y :: ·) (slotsOf_names (names:=r))
  ·exact congrArg (y :: ·) (slotsOf_names (names:=r))
  all_goals exact slotsOf_names (names:=r)
noncomputable def Fc.enter (Φ : Fc) (d : Fn) (L f : Addr) (cdv : Value) : Fc :=
 { env:=envOfC d.qual d.scope L f cdv,slots:=slotsOf (L + 1) d.scope.names,h₀:=Φ.h₀,frames:=Φ.frames.map (envOfC d.qual d.scope L f cdv :: ·),hd:=Φ.hd,lvl:=Φ.lvl - 1,gs:=Φ.gs }
theorem Fn.enterOk {d : Fn} {ps : List Str} (ok : d.ok ps = true) (hl : 2 ≤ Φ.lvl) (L f : Addr) (cdv : Value) : (Φ.enter d L f cdv).Ok:=by
 unfold Fn.ok at ok
 simp only [Bool.and_eq_true,beq_iff_eq,decide_eq_true_eq,Bool.not_eq_true'] at ok
 obtain ⟨⟨⟨⟨⟨hk,hc⟩,hg⟩,nd⟩,hps⟩,hdb⟩:=ok
 refine ⟨hk,?_,slotsOf_sub.nodup nd,fun x h=>lookup_nodup nd (slotsOf_loc h),fun x c h=>?_,fun x h=>?_,rfl,by show 1 ≤ Φ.lvl - 1;lia⟩
 ·show (L :: (slotsOf (L + 1) d.scope.names).filterMap (·.2)).Nodup
  refine List.nodup_cons.mpr ⟨fun h=>by have:=slotsOf_ge h;lia,slotsOf_nd⟩
 ·obtain ⟨h1,_,h3⟩:=slotsOf_cel [] h
  exact ⟨.inl (lookup_nodup nd h1),lookup_nodup (cellsFrom_nd0 nd) h3⟩
 ·haveI hm : x.1∈(slotsOf 0 d.scope.names).map (·.1):=by
   refine rr (slotsOf_names (n:=0) (m:=L + 1) ..) ?_
   exact List.mem_map_of_mem h
  obtain ⟨y,hy,e⟩:=List.mem_map.mp hm
  have:=List.all_eq_true.mp hdb y hy
  simp only [Bool.and_eq_true,bne_iff_ne] at this
  exact ⟨by refine rl e ?_;exact beq_eq_false_iff_ne.mpr this.1,by refine rl e ?_;exact beq_eq_false_iff_ne.mpr this.2⟩
theorem Rel.back {P : Params} {Φ' : Fc} {I I' : Im} {ρ' : List (Option V)} {σ' : St} {s s' : Shared} {W : List Addr} (R : Rel P C Φ I ρ σ s) (R' : Rel P C Φ' I' ρ' σ' s') (k : Kp W I σ I' σ' s s') (hW : ∀ b∈W,s.heap.get? b = none)
  (hb : Φ'.h₀ = Φ.h₀) (hgs : Φ'.gs = Φ.gs:=by rfl) : Rel P C Φ I' ρ σ' s':=by
 have own : ∀ a∈Φ.own,¬ ((I' a).isSome = true ∨ a∈keys σ'):=fun a ha q=>by
  rcases k.new a q with z | z | z
  ·replace z:=(R.ownI a ha ..) ▸ z;exact ftm z
  ·exact (R.apart a z).2 ha
  ·obtain ⟨o,ho⟩:=R.own_alive ha
   replace ho:=z ▸ ho;exact nsm ho
 have keep : ∀ a∈Φ.own,∀ o,s.heap.get? a = some o→s'.heap.get? a = some o:=fun a ha o e=>k.keep a o e (fun q=>(R.apart a q).2 ha) fun q=>by replace e:=(hW a q ..) ▸ e;exact nsm e
 refine ⟨R'.im,fun b o e=>R'.base b o (hb ▸ e),R'.cell,fun a ha=>⟨R'.apartI a ha,fun q=>own a q (.inr ha)⟩,R'.nodup,fun a ha=>?_,?_,fun i x c hi=>?_,hgs ▸ R'.gens⟩
 ·cases q : I' a with
  | none=>rfl
  | some o=>exact absurd (.inl (by refine rr q ?_;rfl)) (own a ha)
 ·obtain ⟨m,hn,h⟩:=R.ns
  exact ⟨m,hn.at' fun o e=>keep _ (.head _) o e,fun i x v a b=>let ⟨val,e,r⟩:=h i x v a b;⟨val,e,r.mono k.im⟩⟩
 ·obtain ⟨u,⟨o,ho,hd⟩,h⟩:=R.cells i x c hi
  exact ⟨u,⟨o,keep c (.tail _ (filterMap_idx hi)) o ho,hd⟩,fun v e=>let ⟨val,e',r⟩:=h v e;⟨val,e',r.mono k.im⟩⟩
theorem Kp.narrow {I I' : Im} {σ' : St} {s s' : Shared} {W : List Addr} (k : Kp W I σ I' σ' s s') (hW : ∀ b∈W,s.heap.get? b = none) : Kp [] I σ I' σ' s s' :=
 ⟨fun b o e h _=>k.keep b o e h (fun q=>by replace e:=(hW b q ..) ▸ e;exact nsm e),k.alive,k.new,k.im,k.os⟩
noncomputable def FnBody (prog : Program) (w : World) (C : Addr) (Φ : Fc) (d : Fn) (vs : List V) (σ : St) (Q : QV) : Prop :=
 ∀ L f cdv,EX prog w C (Φ.enter d L f cdv) d.body (vs.map some ++ List.replicate ((slotsOf 0 d.scope.names).length - vs.length) none) σ fun fl _ σ'=>match fl with
  | .ret v=>Q v σ'
  | _=>Q .none σ'
structure Rel0 (P : Params) (C : Addr) (Φ : Fc) (I : Im) (σ : St) (s : Shared) : Prop where
 im : ∀ b o,I b = some o→s.heap.get? b = some o
 base : ∀ b o,Φ.h₀.get? b = some o→I b = some o
 cell : ∀ a c,(a,c)∈σ→CellAt P C I s.heap a c
 apartI : ∀ a∈keys σ,I a = none
 nodup : (keys σ).Nodup
 gens : Φ.gs s.gens s.drawn
theorem Rel0.h₀ {P : Params} {I : Im} {s : Shared} (R : Rel0 P C Φ I σ s) : ∀ b o,Φ.h₀.get? b = some o→s.heap.get? b = some o:=fun b o e=>R.im b o (R.base b o e)
theorem Rel0.key_alive {P : Params} {I : Im} {s : Shared} (R : Rel0 P C Φ I σ s) {a : Addr} (h : a∈keys σ) : ∃ o,s.heap.get? a = some o:=by
 obtain ⟨⟨b,c⟩,hm,rfl⟩:=List.mem_map.mp h
 obtain ⟨o,ho,_⟩:=R.cell b c hm
 exact ⟨o,ho⟩
theorem Rel.to0 {P : Params} {I : Im} {s : Shared} (R : Rel P C Φ I ρ σ s) : Rel0 P C Φ I σ s:=⟨R.im,R.base,R.cell,R.apartI,R.nodup,R.gens⟩
theorem enter_fn0 {d : Fn} {ps : List Str} (ok : d.ok ps = true) (hl : 2 ≤ Φ.lvl) {mg mb : Str→Option Value} (T : Tx Φ.h₀ mg mb) {f : Addr} {cdv : Value} (hf : FnAt Φ.h₀ f d cdv)
  (hbind : BindOk d ps)
  {A : Around} {I : Im} {s : Shared} (a : AOk Φ A) (R : Rel0 w.params C Φ I σ s) {xs : List V} {vals : List Value} (hx : VRs C I xs vals) (hlen : xs.length = ps.length) {RR : Result→Shared→Prop}
  (h : ∀ s₁,AOk (Φ.enter d s.heap.objs.size f cdv) (A.deeper (Φ.enter d s.heap.objs.size f cdv).env)→Rel w.params C (Φ.enter d s.heap.objs.size f cdv) I (xs.map some ++ List.replicate ((slotsOf 0 d.scope.names).length - xs.length) none) σ s₁ →
   Kp (Φ.enter d s.heap.objs.size f cdv).own I σ I σ s s₁→(∀ b∈(Φ.enter d s.heap.objs.size f cdv).own,s.heap.get? b = none)→(∀ b o,s.heap.get? b = some o→s₁.heap.get? b = some o) →
   wpAny (model prog w) (A.deeper (Φ.enter d s.heap.objs.size f cdv).env) (execs d.body (Φ.enter d s.heap.objs.size f cdv).env) (fun f' s'=>RR (.ok (.ret (match f' with | .ret v=>v | _=>.none))) s')
    (fun e s'=>wpAny (model prog w) (A.deeper (Φ.enter d s.heap.objs.size f cdv).env) (leaving (Φ.enter d s.heap.objs.size f cdv).env e) (fun _ s''=>RR (.error e) s'') (fun e' s''=>RR (.error e') s'') s') s₁) :
  codeAny (model prog w) A (.call (.ref f) ⟨vals,[]⟩) RR s:=by
 obtain ⟨o,doc,pm,an,ct,ho,hd,hcd⟩:=hf
 have ok':=ok
 unfold Fn.ok at ok'
 simp only [Bool.and_eq_true,beq_iff_eq,decide_eq_true_eq,Bool.not_eq_true'] at ok'
 obtain ⟨⟨⟨⟨⟨hk,hc⟩,hg⟩,nd⟩,hps⟩,hdb⟩:=ok'
 have hlv : vals.length = ps.length:=hx.1.trans hlen
 have psn : ∀ n,((slotsOf n d.scope.names).map (·.1)).take ps.length = ps:=fun n=>by refine rr (slotsOf_names (n:=n) (m:=0) ..) ?_;exact hps
 have pnd : ps.Nodup:=by
  refine rl hps ?_
  exact (List.take_sublist _ _).nodup (slotsOf_sub.nodup nd)
 have zn : (ps.zip vals).map (·.1) = ps:=List.map_fst_zip (by lia)
 haveI pk : ∀ n,∀ p∈ps,(∃ i o,(slotsOf n d.scope.names)[i]? = some (p,o)):=fun n p hp=>by
  have : p∈(slotsOf n d.scope.names).map (·.1):=(List.take_sublist ps.length _).subset (by refine rr (psn n ..) ?_;exact hp)
  obtain ⟨⟨y,o⟩,hm,rfl⟩:=List.mem_map.mp this
  obtain ⟨i,hi,e⟩:=List.getElem_of_mem hm
  exact ⟨i,o,by refine rr (List.getElem?_eq_getElem hi ..) ?_;refine rr e ?_;rfl⟩
 haveI kinds : ∀ n,∀ p∈ps,d.scope.names.lookup p = some .local ∨ (d.scope.names.lookup p = some .cell∧((cellsFrom n d.scope.names []).lookup p).isSome = true):=fun n p hp=>by
  obtain ⟨i,o,hi⟩:=pk n p hp
  haveI hm:=List.mem_of_getElem? hi
  cases o with
  | none=>exact .inl (lookup_nodup nd (slotsOf_loc hm))
  | some c =>
   obtain ⟨h1,_,h3⟩:=slotsOf_cel [] hm
   refine .inr ⟨lookup_nodup nd h1,?_⟩
   refine rr (lookup_nodup (cellsFrom_nd0 nd) h3 ..) ?_;rfl
 refine codeAny_call_function a.depth (R.h₀ _ _ ho) hd hc hg rfl (hcd.keeps R.h₀) ?_
 refine rr (hbind cdv doc pm an ct vals hlv ..) ?_
 refine wpAny_pure (wpAny_newFunctionEnv_cells hk (fun y hy=>?_) fun env' he s' x=>?_)
 ·refine kinds _ y.1 ?_
  refine rl zn ?_;exact List.mem_map_of_mem hy
 subst he
 obtain ⟨h₁,tk,rfl,_⟩:=x.done
 have k₁ : ∀ b o,s.heap.get? b = some o→h₁.get? b = some o:=x.toInCall.keep
 refine ⟨(T.nl.keeps R.h₀).keeps k₁,codeAny_func ?_⟩
 haveI Ok':=Fn.enterOk (Φ:=Φ) ok hl s.heap.objs.size f cdv
 have hfresh : ∀ b∈(Φ.enter d s.heap.objs.size f cdv).own,s.heap.get? b = none:=fun b hb=>by
  refine Heap.get?_none_of_le ?_
  rcases List.mem_cons.mp hb with rfl | hb
  ·exact Nat.le_refl _
  ·have:=slotsOf_ge hb
   have : s.heap.objs.size + 1 ≤ b:=this
   lia
 haveI nI : ∀ b∈(Φ.enter d s.heap.objs.size f cdv).own,I b = none:=fun b hb=>by
  cases q : I b with
  | none=>rfl
  | some o=>have:=R.im b o q;replace this:=(hfresh b hb ..) ▸ this;exact nsm this
 have slotv : ∀ i x o' v,(slotsOf (s.heap.objs.size + 1) d.scope.names)[i]? = some (x,o')→(xs.map some ++ List.replicate ((slotsOf 0 d.scope.names).length - xs.length) none)[i]? = some (some v)→∃ val,(x,val)∈ps.zip vals∧VR C I v val:=fun i x o' v hi hv=>by
  have hlt : i < xs.length:=by
   rcases Nat.lt_or_ge i xs.length with q | q
   ·exact q
   ·rw [List.getElem?_append_right (by simpa using q)] at hv
    replace hv:=(List.getElem?_replicate ..) ▸ hv
    split at hv <;> cases hv
  rw [List.getElem?_append_left (by simpa using hlt)] at hv;replace hv:=(List.getElem?_map ..) ▸ hv
  obtain ⟨y,hy,e⟩:=Option.map_eq_some_iff.mp hv
  obtain rfl:=si e
  obtain ⟨val,hval,r⟩:=hx.get hy
  refine ⟨val,?_,r⟩
  haveI hp : ps[i]? = some x:=by
   refine rl (psn (s.heap.objs.size + 1) ..) ?_;refine rr (List.getElem?_take_of_lt (by lia) ..) ?_;refine rr (List.getElem?_map ..) ?_;refine rr hi ?_;rfl
  have : (ps.zip vals)[i]? = some (x,val):=by exact List.getElem?_zip_eq_some.mpr ⟨hp,hval⟩
  exact List.mem_of_getElem? this
 have R' : Rel w.params C (Φ.enter d s.heap.objs.size f cdv) I (xs.map some ++ List.replicate ((slotsOf 0 d.scope.names).length - xs.length) none) σ { s with heap:=h₁,toks:=tk }:=by
  refine ⟨fun b o e=>k₁ b o (R.im b o e),R.base,fun a c ha=>?_,fun b hb=>⟨R.apartI b hb,fun q=>?_⟩,R.nodup,nI,⟨_,x.toInCall.ns,fun i y v hi hv=>?_⟩,fun i y c hi=>?_,R.gens⟩
  ·obtain ⟨o,ho,hc⟩:=R.cell a c ha
   exact ⟨o,k₁ a o ho,hc⟩
  ·obtain ⟨o,ho⟩:=R.key_alive hb
   replace ho:=(hfresh b q ..) ▸ ho;exact nsm ho
  ·obtain ⟨val,hm,r⟩:=slotv i y none v hi hv
   exact ⟨val,bindL_in (lookup_nodup nd (slotsOf_loc (List.mem_of_getElem? hi))) (by refine rr zn ?_;exact pnd) hm,r⟩
  ·obtain ⟨h1,_,h3⟩:=slotsOf_cel [] (List.mem_of_getElem? hi)
   refine ⟨_,x.cell y c (lookup_nodup (cellsFrom_nd0 nd) h3),fun v hv=>?_⟩
   obtain ⟨val,hm,r⟩:=slotv i y (some c) v hi hv
   refine ⟨val,bindC_in ?_ (by refine rr zn ?_;exact pnd) hm,r⟩
   show d.scope.names.lookup y ≠ some .local
   refine rr (lookup_nodup nd h1 ..) ?_
   exact fun e=>nomatch e
 haveI a' : AOk (Φ.enter d s.heap.objs.size f cdv) (A.deeper (envOfC d.qual d.scope s.heap.objs.size f cdv)):=by
  refine ⟨a.hd,?_,?_,?_⟩
  ·show A.frames.map _ = _
   refine rr (a.fr ..) ?_;rfl
  ·have:=a.dp
   show A.depth + 1 + 20 * (Φ.lvl - 1) ≤ 600
   lia
  ·have:=a.un
   show A.units + 3 + 50 * (Φ.lvl - 1) ≤ 5000
   lia
 haveI K₀ : Kp (Φ.enter d s.heap.objs.size f cdv).own I σ I σ s { s with heap:=h₁,toks:=tk } :=
  ⟨fun b o e _ _=>k₁ b o e,fun b e=>let ⟨o,ho⟩:=Option.isSome_iff_exists.mp e;by show (h₁.get? b).isSome = true;refine rr (k₁ b o ho ..) ?_;rfl,fun b q=>q.elim .inl fun q=>.inr (.inl q),fun _ _ e=>e,rfl⟩
 exact h _ a' R' K₀ hfresh k₁
theorem enter_fn {d : Fn} {ps : List Str} (ok : d.ok ps = true) (hl : 2 ≤ Φ.lvl) {mg mb : Str→Option Value} (T : Tx Φ.h₀ mg mb) {f : Addr} {cdv : Value} (hf : FnAt Φ.h₀ f d cdv)
  (hbind : BindOk d ps)
  {A : Around} {I : Im} {s : Shared} (a : AOk Φ A) (R : Rel w.params C Φ I ρ σ s) {xs : List V} {vals : List Value} (hx : VRs C I xs vals) (hlen : xs.length = ps.length) {RR : Result→Shared→Prop}
  (h : ∀ s₁,AOk (Φ.enter d s.heap.objs.size f cdv) (A.deeper (Φ.enter d s.heap.objs.size f cdv).env)→Rel w.params C (Φ.enter d s.heap.objs.size f cdv) I (xs.map some ++ List.replicate ((slotsOf 0 d.scope.names).length - xs.length) none) σ s₁ →
   Kp (Φ.enter d s.heap.objs.size f cdv).own I σ I σ s s₁→(∀ b∈(Φ.enter d s.heap.objs.size f cdv).own,s.heap.get? b = none)→(∀ b o,s.heap.get? b = some o→s₁.heap.get? b = some o) →
   wpAny (model prog w) (A.deeper (Φ.enter d s.heap.objs.size f cdv).env) (execs d.body (Φ.enter d s.heap.objs.size f cdv).env) (fun f' s'=>RR (.ok (.ret (match f' with | .ret v=>v | _=>.none))) s')
    (fun e s'=>wpAny (model prog w) (A.deeper (Φ.enter d s.heap.objs.size f cdv).env) (leaving (Φ.enter d s.heap.objs.size f cdv).env e) (fun _ s''=>RR (.error e) s'') (fun e' s''=>RR (.error e') s'') s') s₁) :
  codeAny (model prog w) A (.call (.ref f) ⟨vals,[]⟩) RR s :=
 enter_fn0 ok hl T hf hbind a R.to0 hx hlen h
theorem call_fn_code {d : Fn} {ps : List Str} (ok : d.ok ps = true) (hl : 2 ≤ Φ.lvl) {mg mb : Str→Option Value} (T : Tx Φ.h₀ mg mb) {f : Addr} {cdv : Value} (hf : FnAt Φ.h₀ f d cdv)
  (hbind : BindOk d ps)
  {A : Around} {I : Im} {s : Shared} (a : AOk Φ A) (R : Rel w.params C Φ I ρ σ s) {xs : List V} {vals : List Value} (hx : VRs C I xs vals) (hlen : xs.length = ps.length) {Q : QV} (h : FnBody prog w C Φ d xs σ Q)
  {QQ : Value→Shared→Prop} {E : Value→Shared→Prop} (g : Got w C Φ ρ I σ s Q QQ) : codeAny (model prog w) A (.call (.ref f) ⟨vals,[]⟩) (fun r s'=>match r with | .ok (.ret v)=>QQ v s' | .ok _=>False | .error e=>E e s') s:=by
 refine enter_fn ok hl T hf hbind a R hx hlen fun s₁ a' R' K₀ hfresh k₁=>?_
 refine h s.heap.objs.size f cdv _ I _ a' R' _ _ fun fl ρ' σ' I' s' flow q hfl R₂ k₂=>?_
 have k₂':=K₀.trans k₂ R'.apartI
 have Rb:=R.back R₂ k₂' hfresh rfl
 cases hfl with
 | ret hv=>exact g _ σ' I' s' _ q hv Rb (k₂'.narrow hfresh)
 | next=>exact g .none σ' I' s' .none q .none Rb (k₂'.narrow hfresh)
 | brk=>exact g .none σ' I' s' .none q .none Rb (k₂'.narrow hfresh)
 | cont=>exact g .none σ' I' s' .none q .none Rb (k₂'.narrow hfresh)
theorem call_fn {d : Fn} {ps : List Str} (ok : d.ok ps = true) (hl : 2 ≤ Φ.lvl) {mg mb : Str→Option Value} (T : Tx Φ.h₀ mg mb) {f : Addr} {cdv : Value} (hf : FnAt Φ.h₀ f d cdv)
  (hbind : BindOk d ps)
  {A : Around} {I : Im} {s : Shared} (a : AOk Φ A) (R : Rel w.params C Φ I ρ σ s) {xs : List V} {vals : List Value} (hx : VRs C I xs vals) (hlen : xs.length = ps.length) {Q : QV} (h : FnBody prog w C Φ d xs σ Q)
  {QQ : Value→Shared→Prop} {E : Value→Shared→Prop} (g : Got w C Φ ρ I σ s Q QQ) : wpAny (model prog w) A (call (.ref f) vals) QQ E s :=
 wpAny_call (call_fn_code ok hl T hf hbind a R hx hlen h g)
noncomputable abbrev kFn (prog : Program) (w : World) (C : Addr) (Φ : Fc) (d : Fn) (ps : List Str) (Q : QV) : List V→St→Prop:=fun xs σ₁=>xs.length = ps.length∧FnBody prog w C Φ d xs σ₁ Q
theorem EV.callF (Ok : Φ.Ok) {mg mb : Str→Option Value} (T : Tx Φ.h₀ mg mb) {d : Fn} {ps : List Str} (ok : d.ok ps = true) (hl : 2 ≤ Φ.lvl) {f : Addr} {cdv : Value} (hf : FnAt Φ.h₀ f d cdv)
  (hbind : BindOk d ps)
  {x : Str} {p pos : Pos} {e : Expr} {args : List Expr} {Q : QV} (hx : Φ.env.kindOf x = some .globalImplicit)
  (hd : (x == ("__debug__" : Str)) = false) (hm : mg x = some (.ref f)) (he : starEach (e :: args) Φ.env = (false,eval e Φ.env) :: starEach args Φ.env)
  (h : EA prog w C Φ pos (e :: args) ρ σ (kFn prog w C Φ d ps Q)) :
  EV prog w C Φ (.Call (.Name x p) (e :: args) [] pos) ρ σ Q:=by
 intro A I s a R QQ E g
 refine Call_Name rfl (load_glob Ok T R hx hd hm ?_)
 obtain ⟨o,doc,pm,an,ct,ho,hdat,hcd⟩:=hf
 refine rr he ?_
 refine Calls.callWith_function (o:=o) (fd:=fnX d.name d.qual d.params d.body d.scope [] .none .none doc pm an cdv ct) (Calls.evalArgs_plain ?_)
 haveI h':=h A I s a R (fun vs s₁=>(s₁.heap.get? f = some o∧o.data = .func (fnX d.name d.qual d.params d.body d.scope [] .none .none doc pm an cdv ct))∧wpAny (model prog w) A (call (.ref f) vs) QQ E s₁) E fun xs σ₁ I₁ s₁ vals q hxs R₁ k₁ =>
  ⟨⟨R₁.h₀ _ _ ho,hdat⟩,call_fn ok hl T ⟨o,doc,pm,an,ct,ho,hdat,hcd⟩ hbind a R₁ hxs q.1 q.2 (g.after R₁ k₁)⟩
 replace h':=he ▸ h'
 exact h'
end
section
theorem nd_idx : ∀ {l : List Addr},l.Nodup→∀ {i j : Nat} {a : Addr},l[i]? = some a→l[j]? = some a→i = j
 | [],_,i,j,a,hi,_=>by simp at hi
 | z :: l,nd,i,j,a,hi,hj=>by
  haveI nd':=List.nodup_cons.mp nd
  cases i with
  | zero =>
   cases j with
   | zero=>rfl
   | succ j =>
    simp at hi hj
    subst hi
    exact absurd (List.mem_of_getElem? hj) nd'.1
  | succ i =>
   cases j with
   | zero =>
    simp at hi hj
    subst hj
    exact absurd (List.mem_of_getElem? hi) nd'.1
   | succ j=>exact congrArg Nat.succ (nd_idx nd'.2 (by simpa using hi) (by simpa using hj))
theorem key_idx {P : Params} {I : Im} {s : Shared} (R : Rel P C Φ I ρ σ s) {i j : Nat} {a : Addr} {c d : Cell} (hi : σ[i]? = some (a,c)) (hj : σ[j]? = some (a,d)) : i = j :=
 nd_idx R.nodup (a:=a) (by unfold keys;refine rr (List.getElem?_map ..) ?_;refine rr hi ?_;rfl) (by unfold keys;refine rr (List.getElem?_map ..) ?_;refine rr hj ?_;rfl)
theorem keys_sub {σ₀ σ : St} (h : σ₀.Sublist σ) : (keys σ₀).Sublist (keys σ):=h.map _
theorem Rel.sub {P : Params} {I : Im} {σ₀ : St} {s : Shared} (R : Rel P C Φ I ρ σ s) (h : σ₀.Sublist σ) : Rel P C Φ I ρ σ₀ s :=
 ⟨R.im,R.base,fun a c ha=>R.cell a c (h.subset ha),fun a ha=>R.apart a ((keys_sub h).subset ha),(keys_sub h).nodup R.nodup,R.ownI,R.ns,R.cells,R.gens⟩
theorem Kp.sub {W : List Addr} {I I' : Im} {σ' σ₀ : St} {s s' : Shared} (k : Kp W I σ I' σ' s s') (h : σ₀.Sublist σ') : Kp W I σ I' σ₀ s s' :=
 ⟨k.keep,k.alive,fun a q=>k.new a (q.imp id fun q=>(keys_sub h).subset q),k.im,k.os⟩
theorem keys_set {i : Nat} {a : Addr} {c c' : Cell} (h : σ[i]? = some (a,c)) : keys (σ.set i (a,c')) = keys σ:=by
 unfold keys
 refine rr (List.map_set ..) ?_
 refine List.ext_getElem? fun j=>?_
 by_cases q : i = j
 ·subst q
  obtain ⟨hl,e⟩:=List.getElem?_eq_some_iff.mp h
  refine rr (List.getElem?_set_self (by simpa using hl) ..) ?_;refine rr (List.getElem?_map ..) ?_;refine rr h ?_;rfl
 ·refine rr (List.getElem?_set_ne q ..) ?_;rfl
theorem Rel.set {P : Params} {I : Im} {s : Shared} (R : Rel P C Φ I ρ σ s) {i : Nat} {a : Addr} {c c' : Cell} (hi : σ[i]? = some (a,c)) {h' : Heap} {tk : Nat} (hs : Heap.SameBut a s.heap h') {o : Obj} (ho : h'.get? a = some o) (hc : c'.Is P C I o) :
  Rel P C Φ I ρ (σ.set i (a,c')) { s with heap:=h',toks:=tk }∧Kp [] I σ I (σ.set i (a,c')) s { s with heap:=h',toks:=tk }:=by
 have ka : a∈keys σ:=List.mem_map.mpr ⟨(a,c),List.mem_of_getElem? hi,rfl⟩
 haveI nI : ∀ b o,I b = some o→b ≠ a:=fun b o e q=>by
  have:=R.apartI a ka
  replace e:=q ▸ e;replace this:=e ▸ this;exact snm this
 have no : ∀ b∈Φ.own,b ≠ a:=fun b hb q=>(R.apart a ka).2 (q ▸ hb)
 have ks:=keys_set (c':=c') hi
 refine ⟨⟨fun b o e=>(hs.2 b (nI b o e)).trans (R.im b o e),R.base,fun b d hb=>?_,ks ▸ R.apart,ks ▸ R.nodup,R.ownI,?_,fun j x d hj=>?_,R.gens⟩,
  ⟨fun b o e h _=>(hs.2 b fun q=>h (q ▸ ka)).trans e,fun b e=>?_,fun b q=>?_,fun _ _ e=>e,rfl⟩⟩
 ·by_cases q : b = a
  ·subst q
   obtain ⟨j,hj,e⟩:=List.getElem_of_mem hb
   by_cases z : i = j
   ·subst z
    replace e:=(List.getElem_set_self ..) ▸ e
    cases e
    exact ⟨o,ho,hc⟩
   ·exfalso
    rw [List.getElem_set_ne z] at e
    have hj' : j < σ.length:=by simpa using hj
    exact z (key_idx R hi (by refine rr (List.getElem?_eq_getElem hj' ..) ?_;refine rr e ?_;rfl))
  ·have hb' : (b,d)∈σ:=by
    rcases List.mem_or_eq_of_mem_set hb with z | z
    ·exact z
    ·cases z;exact absurd rfl q
   obtain ⟨o',ho',hc'⟩:=R.cell b d hb'
   exact ⟨o',(hs.2 b q).trans ho',hc'⟩
 ·obtain ⟨m,hn,h⟩:=R.ns
  exact ⟨m,hn.sameBut hs (no _ (.head _)),h⟩
 ·obtain ⟨u,⟨o',ho',hd'⟩,h⟩:=R.cells j x d hj
  exact ⟨u,⟨o',(hs.2 d (no d (.tail _ (filterMap_idx hj)))).trans ho',hd'⟩,h⟩
 ·by_cases q : b = a
  ·subst q
   refine rr ho ?_;rfl
  ·refine rr (hs.2 b q ..) ?_;exact e
 ·replace q:=ks ▸ q
  exact q.elim .inl fun q=>.inr (.inl q)
theorem Rel.new {P : Params} {I : Im} {s : Shared} (R : Rel P C Φ I ρ σ s) {a : Addr} {c : Cell} {o : Obj} {h' : Heap} {tk : Nat} (ha : s.heap.get? a = none) (k : ∀ b o,s.heap.get? b = some o→h'.get? b = some o) (ho : h'.get? a = some o) (hc : c.Is P C I o) :
  Rel P C Φ I ρ ((a,c) :: σ) { s with heap:=h',toks:=tk }∧Kp [] I σ I ((a,c) :: σ) s { s with heap:=h',toks:=tk }:=by
 have nI : I a = none:=by
  cases q : I a with
  | none=>rfl
  | some o=>replace ha:=(R.im a o q ..) ▸ ha;exact snm ha
 have no : a ∉ Φ.own:=fun q=>by
  obtain ⟨o,ho⟩:=R.own_alive q
  replace ha:=ho ▸ ha;exact snm ha
 have nk : a ∉ keys σ:=fun q=>by
  obtain ⟨o,ho⟩:=R.key_alive q
  replace ha:=ho ▸ ha;exact snm ha
 have G : Gr I I s { s with heap:=h',toks:=tk }:=Gr.same R.im k
 have R':=R.grow G
 refine ⟨⟨R'.im,R'.base,fun b d hb=>?_,fun b hb=>?_,List.nodup_cons.mpr ⟨nk,R.nodup⟩,R'.ownI,R'.ns,R'.cells,R'.gens⟩,⟨fun b o e _ _=>k b o e,G.kp (W:=[]) (σ:=σ) |>.alive,fun b q=>?_,fun _ _ e=>e,rfl⟩⟩
 ·rcases List.mem_cons.mp hb with e | hb
  ·cases e;exact ⟨o,ho,hc⟩
  ·exact R'.cell b d hb
 ·rcases List.mem_cons.mp hb with rfl | hb
  ·exact ⟨nI,no⟩
  ·exact R'.apart b hb
 ·rcases q with q | q
  ·exact .inl q
  ·rcases List.mem_cons.mp q with rfl | q
   ·exact .inr (.inr ha)
   ·exact .inr (.inl q)
theorem Rel.freeze {P : Params} {I : Im} {s : Shared} (R : Rel P C Φ I ρ σ s) {i : Nat} {a : Addr} {xs : List V} (hi : σ[i]? = some (a,.lst xs)) :
  ∃ I',Rel P C Φ I' ρ (σ.eraseIdx i) s∧VR C I' (.lst xs) (.ref a)∧(∀ W I₀ σ₀ s₀,Kp W I₀ σ₀ I σ s₀ s→Kp W I₀ σ₀ I' (σ.eraseIdx i) s₀ s)∧∀ b o,I b = some o→I' b = some o:=by
 haveI hm:=List.mem_of_getElem? hi
 have ka : a∈keys σ:=List.mem_map.mpr ⟨(a,.lst xs),hm,rfl⟩
 obtain ⟨o,ho,vs,n,rfl,hvs⟩:=R.cell a _ hm
 have im : ∀ b o,I b = some o→I.put a (listOf vs.toArray n) b = some o:=fun b o e=>by
  have : b ≠ a:=fun q=>by have:=R.apartI a ka;replace e:=q ▸ e;replace this:=e ▸ this;exact snm this
  refine rr (Im.put_ne this ..) ?_;exact e
 have sub:=List.eraseIdx_sublist σ i
 have na : a ∉ keys (σ.eraseIdx i):=fun q=>by
  obtain ⟨p,hp,e⟩:=List.mem_map.mp q
  obtain ⟨j,hj,e'⟩:=List.mem_eraseIdx_iff_getElem?.mp hp
  obtain ⟨b,d⟩:=p
  dsimp only at e
  subst e
  exact hj (key_idx R e' hi)
 refine ⟨I.put a (listOf vs.toArray n),⟨fun b o e=>?_,fun b o e=>im b o (R.base b o e),fun b c hb=>?_,fun b hb=>⟨?_,(R.apart b ((keys_sub sub).subset hb)).2⟩,(keys_sub sub).nodup R.nodup,fun b hb=>?_,?_,fun j x c hj=>?_,R.gens⟩,.mk_lst Im.put_self (hvs.mono im),fun W I₀ σ₀ s₀ k=>⟨k.keep,k.alive,fun b q=>?_,fun b o e=>im b o (k.im b o e),k.os⟩,im⟩
 ·by_cases q : b = a
  ·subst q;replace e:=(Im.put_self ..) ▸ e;obtain rfl:=si e;exact ho
  ·replace e:=(Im.put_ne q ..) ▸ e;exact R.im b o e
 ·obtain ⟨o',ho',hc'⟩:=R.cell b c (sub.subset hb)
  exact ⟨o',ho',hc'.mono im⟩
 ·haveI z : b ≠ a:=fun q=>na (by refine rl q ?_;exact hb)
  refine rr (Im.put_ne z ..) ?_
  exact R.apartI b ((keys_sub sub).subset hb)
 ·haveI z : b ≠ a:=fun q=>(R.apart a ka).2 (by refine rl q ?_;exact hb)
  refine rr (Im.put_ne z ..) ?_
  exact R.ownI b hb
 ·obtain ⟨m,hn,h⟩:=R.ns
  exact ⟨m,hn,fun i x v a b=>let ⟨val,e,r⟩:=h i x v a b;⟨val,e,r.mono im⟩⟩
 ·obtain ⟨u,hc,h⟩:=R.cells j x c hj
  exact ⟨u,hc,fun v e=>let ⟨val,e',r⟩:=h v e;⟨val,e',r.mono im⟩⟩
 ·refine k.new b ?_
  rcases q with q | q
  ·by_cases z : b = a
   ·exact .inr (z ▸ ka)
   ·replace q:=(Im.put_ne z ..) ▸ q;exact .inl q
  ·exact .inr ((keys_sub sub).subset q)
theorem EV.freeze {e : Expr} {Q : QV} (h : EV prog w C Φ e ρ σ fun v σ'=>∃ a xs i,v = .ref a∧σ'[i]? = some (a,.lst xs)∧Q (.lst xs) (σ'.eraseIdx i)) : EV prog w C Φ e ρ σ Q:=by
 intro A I s a R QQ E g
 refine h A I s a R QQ E fun v σ' I' s' val z0 hv R' k=>?_
 obtain ⟨b,xs,i,hv',hi,q⟩:=z0
 subst hv'
 obtain ⟨_,rfl⟩:=hv.inv
 obtain ⟨I₂,R₂,hx,hk,_⟩:=R'.freeze hi
 exact g _ _ I₂ s' _ q hx R₂ (hk _ _ _ _ k)
theorem Rel.freezeSlot {P : Params} {I : Im} {s : Shared} (R : Rel P C Φ I ρ σ s) {i j : Nat} {a : Addr} {xs : List V} (hρ : j < ρ.length→ρ[j]? = some (some (.ref a))) (hi : σ[i]? = some (a,.lst xs)) :
  ∃ I',Rel P C Φ I' (ρ.set j (some (.lst xs))) (σ.eraseIdx i) s∧VR C I' (.lst xs) (.ref a)∧(∀ W I₀ σ₀ s₀,Kp W I₀ σ₀ I σ s₀ s→Kp W I₀ σ₀ I' (σ.eraseIdx i) s₀ s)∧∀ b o,I b = some o→I' b = some o:=by
 obtain ⟨I₂,R₂,hx,hk,im⟩:=R.freeze hi
 refine ⟨I₂,?_,hx,hk,im⟩
 by_cases hjl : j < ρ.length
 ·have hρ:=hρ hjl
  refine ⟨R₂.im,R₂.base,R₂.cell,R₂.apart,R₂.nodup,R₂.ownI,?_,fun l x c hl=>?_,R₂.gens⟩
  ·obtain ⟨m,hn,h⟩:=R₂.ns
   refine ⟨m,hn,fun l x v hl hv=>?_⟩
   by_cases z : j = l
   ·subst z
    obtain ⟨val,e,r⟩:=h j x _ hl hρ
    obtain ⟨_,rfl⟩:=r.inv
    replace hv:=(List.getElem?_set_self hjl ..) ▸ hv
    cases hv
    exact ⟨_,e,hx⟩
   ·replace hv:=(List.getElem?_set_ne z ..) ▸ hv
    exact h l x v hl hv
  ·obtain ⟨u,hc,h⟩:=R₂.cells l x c hl
   refine ⟨u,hc,fun v hv=>?_⟩
   by_cases z : j = l
   ·subst z
    obtain ⟨val,e,r⟩:=h _ hρ
    obtain ⟨_,rfl⟩:=r.inv
    replace hv:=(List.getElem?_set_self hjl ..) ▸ hv
    cases hv
    exact ⟨_,e,hx⟩
   ·replace hv:=(List.getElem?_set_ne z ..) ▸ hv
    exact h v hv
 ·refine rr (List.set_eq_of_length_le (by lia) ..) ?_
  exact R₂
theorem EX.freeze {ss : List Stmt} {Q : QX} {i j : Nat} {a : Addr} {xs : List V} (hρ : ρ[j]? = some (some (.ref a))) (hi : σ[i]? = some (a,.lst xs)) (h : EX prog w C Φ ss (ρ.set j (some (.lst xs))) (σ.eraseIdx i) Q) : EX prog w C Φ ss ρ σ Q:=by
 intro A I s ak R QQ E g
 obtain ⟨I₂,R₃,hx,hk,im⟩:=R.freezeSlot (fun _=>hρ) hi
 exact h A I₂ s ak R₃ QQ E (g.after R₃ (hk _ _ _ _ .refl))
end
noncomputable def slotsC (outer : List (Str × Option Addr)) : List (Str × NameKind)→List (Str × Option Addr)
 | []=>[]
 | (x,.local) :: r=>(x,none) :: slotsC outer r
 | (x,.free) :: r=>(x,(outer.lookup x).join) :: slotsC outer r
 | (_,_) :: r=>slotsC outer r
noncomputable def capVal : List (Str × Option Addr)→List (Option V)→Str→Option V
 | (y,_) :: os,v :: vs,x=>if x == y then v else capVal os vs x
 | _,_,_=>none
noncomputable def rhoC (outer : List (Str × Option Addr)) (ρ : List (Option V)) : List (Str × NameKind)→List (Option V)
 | []=>[]
 | (_,.local) :: r=>none :: rhoC outer ρ r
 | (x,.free) :: r=>capVal outer ρ x :: rhoC outer ρ r
 | (_,_) :: r=>rhoC outer ρ r
noncomputable def capCl (outer : List (Str × Option Addr)) : List (Str × NameKind)→List (Str × Addr)→List (Str × Addr)
 | [],acc=>acc
 | (x,.free) :: r,acc=>capCl outer r ((x,((outer.lookup x).join).getD 0) :: acc)
 | (_,_) :: r,acc=>capCl outer r acc
noncomputable def capOk (outer : List (Str × Option Addr)) (names : List (Str × NameKind)) : Bool:=names.all fun x=>match x.2 with
 | .free=>((outer.lookup x.1).join).isSome
 | .cell=>false
 | _=>true
noncomputable def scopeC (scope : Scope) : Bool:=(scope.kind == .function) && decide (scope.names.map (·.1)).Nodup && scope.names.all fun x=>x.1 != ("__debug__" : Str) && x.1 != ("__classdict__" : Str)
theorem lookup_mem {α β : Type} [BEq α] [LawfulBEq α] : ∀ {l : List (α × β)} {x : α} {k : β},l.lookup x = some k→(x,k)∈l:=fun {l x k} h=>by
 induction l with
 | nil=>exact nsm h
 | cons p l ih =>
  rw [List.lookup_cons] at h
  cases q : x == p.1 with
  | true=>replace h:=q ▸ h;cases h;exact beq_iff_eq.mp q ▸ .head _
  | false=>replace h:=q ▸ h;exact .tail _ (ih h)
theorem join_mem {outer : List (Str × Option Addr)} {x : Str} {c : Addr} (h : (outer.lookup x).join = some c) : (x,some c)∈outer:=by
 cases q : outer.lookup x with
 | none=>replace h:=q ▸ h;exact nsm h
 | some o=>replace h:=q ▸ h;cases o with
  | none=>exact nsm h
  | some d=>obtain rfl:=si h;exact lookup_mem q
theorem slotsC_loc {outer : List (Str × Option Addr)} : ∀ {names : List (Str × NameKind)} {x : Str},capOk outer names = true→(x,none)∈slotsC outer names→(x,NameKind.local)∈names
 | (y,k) :: r,x,ok,h=>by
  unfold capOk at ok
  replace ok:=(List.all_cons ..) ▸ ok;replace ok:=(Bool.and_eq_true ..) ▸ ok
  cases k
  ·rcases List.mem_cons.mp h with e | h
   ·cases e;exact .head _
   ·exact .tail _ (slotsC_loc ok.2 h)
  ·cases ok.1
  ·rcases List.mem_cons.mp h with e | h
   ·have:=ok.1
    dsimp only at this
    replace this:=((Prod.mk.inj e).2 ..).symm ▸ this
    exact ftm this
   ·exact .tail _ (slotsC_loc ok.2 h)
  all_goals exact .tail _ (slotsC_loc ok.2 h)
theorem slotsC_cel {outer : List (Str × Option Addr)} : ∀ {names : List (Str × NameKind)} {x : Str} {c : Addr},(x,some c)∈slotsC outer names→(x,NameKind.free)∈names∧(x,some c)∈outer∧(outer.lookup x).join = some c
 | (y,k) :: r,x,c,h=>by
  cases k
  ·rcases List.mem_cons.mp h with e | h
   ·cases e
   ·obtain ⟨a,b,d⟩:=slotsC_cel (names:=r) h;exact ⟨.tail _ a,b,d⟩
  ·obtain ⟨a,b,d⟩:=slotsC_cel (names:=r) h;exact ⟨.tail _ a,b,d⟩
  ·rcases List.mem_cons.mp h with e | h
   ·obtain ⟨rfl,e2⟩:=Prod.mk.inj e
    exact ⟨.head _,join_mem e2.symm,e2.symm⟩
   ·obtain ⟨a,b,d⟩:=slotsC_cel (names:=r) h;exact ⟨.tail _ a,b,d⟩
  all_goals (obtain ⟨a,b,d⟩:=slotsC_cel (names:=r) h;exact ⟨.tail _ a,b,d⟩)
theorem slotsC_names {outer : List (Str × Option Addr)} : ∀ {names : List (Str × NameKind)},((slotsC outer names).map (·.1)).Sublist (names.map (·.1))
 | []=>.slnil
 | (y,k) :: r=>by
  cases k
  ·exact .cons_cons _ slotsC_names
  ·exact .cons _ (slotsC_names (names:=r))
  ·exact .cons_cons _ slotsC_names
  all_goals exact .cons _ (slotsC_names (names:=r))
theorem capCl_acc {outer : List (Str × Option Addr)} : ∀ (names : List (Str × NameKind)) (acc : List (Str × Addr)) (p : Str × Addr),p∈acc→p∈capCl outer names acc
 | [],_,_,h=>h
 | (x,k) :: r,acc,p,h=>by
  cases k
  case free=>exact capCl_acc r _ p (.tail _ h)
  all_goals exact capCl_acc r _ p h
theorem capCl_mem {outer : List (Str × Option Addr)} : ∀ {names : List (Str × NameKind)} {acc : List (Str × Addr)} {x : Str} {c : Addr},(x,NameKind.free)∈names→(outer.lookup x).join = some c→(x,c)∈capCl outer names acc
 | (y,k) :: r,acc,x,c,h,e=>by
  rcases List.mem_cons.mp h with q | h2
  ·cases q
   exact capCl_acc r _ _ (by refine rr e ?_;exact .head _)
  ·cases k <;> exact capCl_mem (names:=r) h2 e
theorem capCl_nd {outer : List (Str × Option Addr)} : ∀ (names : List (Str × NameKind)) (acc : List (Str × Addr)),(names.map (·.1)).Nodup→(acc.map (·.1)).Nodup→(∀ p∈acc,p.1 ∉ names.map (·.1))→((capCl outer names acc).map (·.1)).Nodup
 | [],_,_,h,_=>h
 | (x,k) :: r,acc,nd,na,hd=>by
  replace nd:=(List.map_cons ..) ▸ nd;rw [List.nodup_cons] at nd
  cases k
  case free =>
   refine capCl_nd r _ nd.2 ?_ fun p hp=>?_
   ·refine rr (List.map_cons ..) ?_;rw [List.nodup_cons]
    refine ⟨fun h=>?_,na⟩
    obtain ⟨p,hp,e⟩:=List.mem_map.mp h
    exact hd p hp (by refine rr e ?_;exact .head _)
   ·rcases List.mem_cons.mp hp with rfl | hp
    ·exact nd.1
    ·exact fun h=>hd p hp (.tail _ h)
  all_goals exact capCl_nd r _ nd.2 na fun p hp h=>hd p hp (.tail _ h)
theorem capVal_some : ∀ {outer : List (Str × Option Addr)} {ρ : List (Option V)} {x : Str} {v : V},capVal outer ρ x = some v→∃ (j : Nat) (o : Option Addr),outer[j]? = some (x,o)∧ρ[j]? = some (some v)
 | (y,o) :: os,u :: us,x,v,h=>by
  replace h : (if x == y then u else capVal os us x) = some v:=h
  cases q : x == y with
  | true =>
   replace h:=q ▸ h
   cases beq_iff_eq.mp q
   exact ⟨0,o,rfl,congrArg some h⟩
  | false =>
   replace h:=q ▸ h
   obtain ⟨j,o',a,b⟩:=capVal_some (outer:=os) (ρ:=us) h
   exact ⟨j + 1,o',a,b⟩
theorem rhoC_get {outer : List (Str × Option Addr)} {ρ : List (Option V)} : ∀ {names : List (Str × NameKind)} {i : Nat} {x : Str} {o : Option Addr} {v : V},(slotsC outer names)[i]? = some (x,o)→(rhoC outer ρ names)[i]? = some (some v)→capVal outer ρ x = some v∧(x,NameKind.free)∈names
 | (y,k) :: r,i,x,o,v,h,e=>by
  cases k
  ·cases i with
   | zero=>cases e
   | succ i=>obtain ⟨a,b⟩:=rhoC_get (names:=r) (i:=i) h e;exact ⟨a,.tail _ b⟩
  ·obtain ⟨a,b⟩:=rhoC_get (names:=r) h e;exact ⟨a,.tail _ b⟩
  ·cases i with
   | zero=>cases h;exact ⟨Option.some.inj e,.head _⟩
   | succ i=>obtain ⟨a,b⟩:=rhoC_get (names:=r) (i:=i) h e;exact ⟨a,.tail _ b⟩
  all_goals (obtain ⟨a,b⟩:=rhoC_get (names:=r) h e;exact ⟨a,.tail _ b⟩)
section
noncomputable def Fc.comp (Φ : Fc) (scope : Scope) (L : Addr) : Fc :=
 { env:=compEnvC scope (capCl Φ.slots scope.names []) L Φ.env,slots:=slotsC Φ.slots scope.names,h₀:=Φ.h₀,frames:=Φ.frames,hd:=Φ.hd,lvl:=Φ.lvl,gs:=Φ.gs }
theorem closure_cap (Ok : Φ.Ok) (scope : Scope) (hc : capOk Φ.slots scope.names = true) : closureFor scope Φ.env = pure (capCl Φ.slots scope.names []):=by
 haveI key : ∀ (names : List (Str × NameKind)) (acc : List (Str × Addr)),capOk Φ.slots names = true →
   (forIn names acc fun (x : Str × NameKind) cs=>if (x.2 == NameKind.free) = true then (do let a ← cellOf Φ.env x.1;pure (ForInStep.yield ((x.1,a) :: cs))) else pure (ForInStep.yield cs) : Sem (List (Str × Addr))) = pure (capCl Φ.slots names acc):=by
  intro names
  induction names with
  | nil=>intro acc _;rfl
  | cons p r ih =>
   intro acc ok
   obtain ⟨x,k⟩:=p
   unfold capOk at ok
   replace ok:=(List.all_cons ..) ▸ ok;replace ok:=(Bool.and_eq_true ..) ▸ ok
   refine rr (List.forIn_cons ..) ?_
   cases k with
   | free =>
    haveI h1 : ((Φ.slots.lookup x).join).isSome = true:=ok.1
    obtain ⟨c,hc⟩:=Option.isSome_iff_exists.mp h1
    have h2:=(Ok.cel x c (join_mem hc)).2
    have h3 : cellOf Φ.env x = pure c:=by unfold cellOf;refine rr h2 ?_;rfl
    rw [show capCl Φ.slots ((x,.free) :: r) acc = capCl Φ.slots r ((x,c) :: acc) by show capCl Φ.slots r ((x,((Φ.slots.lookup x).join).getD 0) :: acc) = _;rw [hc];rfl]
    show ((cellOf Φ.env x >>= fun a=>pure (ForInStep.yield ((x,a) :: acc))) >>= _) = _
    refine rr h3 ?_
    exact ih _ ok.2
   | «local»=>exact ih _ ok.2
   | cell=>exact absurd ok.1 (by simp)
   | globalExplicit=>exact ih _ ok.2
   | globalImplicit=>exact ih _ ok.2
 exact congrArg (fun t=>t >>= fun cs=>pure cs) (key scope.names [] hc)
theorem Fc.compOk (Ok : Φ.Ok) {scope : Scope} (hs : scopeC scope = true) (hc : capOk Φ.slots scope.names = true) {L : Addr} (hL : L ∉ Φ.own) : (Φ.comp scope L).Ok:=by
 unfold scopeC at hs
 simp only [Bool.and_eq_true,beq_iff_eq,decide_eq_true_eq] at hs
 obtain ⟨⟨hk,nd⟩,hdb⟩:=hs
 haveI nd' : ((relabel scope Φ.env).names.map (·.1)).Nodup:=by
  have : (relabel scope Φ.env).names.map (·.1) = scope.names.map (·.1):=by
   simp only [relabel,List.map_map]
   refine List.map_congr_left fun x _=>?_
   obtain ⟨n,k⟩:=x
   simp only [Function.comp]
   split <;> rfl
  refine rr this ?_;exact nd
 refine ⟨hk,?_,slotsC_names.nodup nd,fun x h=>lookup_relabel_local (lookup_nodup nd (slotsC_loc hc h)),fun x c h=>?_,fun x h=>?_,Ok.globals,Ok.lv⟩
 ·show (L :: (slotsC Φ.slots scope.names).filterMap (·.2)).Nodup
  refine List.nodup_cons.mpr ⟨fun h=>?_,?_⟩
  ·obtain ⟨⟨x,o⟩,hm,e⟩:=List.mem_filterMap.mp h
   dsimp only at e
   subst e
   exact hL (.tail _ (List.mem_filterMap.mpr ⟨_,(slotsC_cel hm).2.1,rfl⟩))
  ·haveI key : ∀ l : List (Str × Option Addr),(l.map (·.1)).Nodup→(∀ x c,(x,some c)∈l→(x,some c)∈Φ.slots)→(l.filterMap (·.2)).Nodup:=by
    intro l
    induction l with
    | nil=>intro _ _;exact .nil
    | cons p l ih =>
     intro nd hm
     obtain ⟨x,o⟩:=p
     replace nd:=(List.map_cons ..) ▸ nd;rw [List.nodup_cons] at nd
     cases o with
     | none=>exact ih nd.2 fun x c h=>hm x c (.tail _ h)
     | some c =>
      refine List.nodup_cons.mpr ⟨fun h=>?_,ih nd.2 fun x c h=>hm x c (.tail _ h)⟩
      obtain ⟨⟨y,o⟩,hy,e⟩:=List.mem_filterMap.mp h
      dsimp only at e
      subst e
      obtain ⟨i,hi,e1⟩:=List.getElem_of_mem (hm x c (.head _))
      obtain ⟨j,hj,e2⟩:=List.getElem_of_mem (hm y c (.tail _ hy))
      have a1 : Φ.slots[i]? = some (x,some c):=by refine rr (List.getElem?_eq_getElem hi ..) ?_;refine rr e1 ?_;rfl
      have a2 : Φ.slots[j]? = some (y,some c):=by refine rr (List.getElem?_eq_getElem hj ..) ?_;refine rr e2 ?_;rfl
      have:=cell_inj (List.nodup_cons.mp Ok.nd).2 a1 a2
      subst this
      replace a2:=a1 ▸ a2
      cases a2
      exact nd.1 (List.mem_map_of_mem hy)
   exact key _ (slotsC_names.nodup nd) fun x c h=>(slotsC_cel h).2.1
 ·obtain ⟨h1,h2,h3⟩:=slotsC_cel h
  haveI h4:=(Ok.cel x c h2).1
  refine ⟨?_,lookup_nodup (capCl_nd _ _ nd .nil fun p hp=>nomatch hp) (capCl_mem h1 h3)⟩
  haveI hm : ((x,if (Φ.env.scope.kind == .function && Φ.env.kindOf x == some .cell) = true then NameKind.cell else NameKind.free))∈(relabel scope Φ.env).names:=by
   refine List.mem_map.mpr ⟨(x,.free),h1,?_⟩
   have e1 : (NameKind.free == NameKind.free) = true:=rfl
   simp only [e1,Bool.true_and]
   split <;> rfl
  have hlk:=lookup_nodup nd' hm
  show (relabel scope Φ.env).names.lookup x = some .cell ∨ (relabel scope Φ.env).names.lookup x = some .free
  refine rr hlk ?_
  split
  ·exact .inl rfl
  ·exact .inr rfl
 ·haveI hm : x.1∈scope.names.map (·.1):=slotsC_names.subset (List.mem_map_of_mem h)
  obtain ⟨y,hy,e⟩:=List.mem_map.mp hm
  have:=List.all_eq_true.mp hdb y hy
  simp only [Bool.and_eq_true,bne_iff_ne] at this
  exact ⟨by refine rl e ?_;exact beq_eq_false_iff_ne.mpr this.1,by refine rl e ?_;exact beq_eq_false_iff_ne.mpr this.2⟩
theorem Rel.comp (Ok : Φ.Ok) {P : Params} {I : Im} {s : Shared} (R : Rel P C Φ I ρ σ s) {scope : Scope} (hs : scopeC scope = true) (hc : capOk Φ.slots scope.names = true) {L : Addr} {m : Str→Option Value} (hL : L ∉ Φ.own) (hLk : L ∉ keys σ) (hLI : I L = none) (hn : s.heap.Ns L m) :
  Rel P C (Φ.comp scope L) I (rhoC Φ.slots ρ scope.names) σ s:=by
 have own : ∀ a∈(Φ.comp scope L).own,a = L ∨ a∈Φ.own:=fun a h=>by
  rcases List.mem_cons.mp h with rfl | h
  ·exact .inl rfl
  ·obtain ⟨⟨x,o⟩,hm,e⟩:=List.mem_filterMap.mp h
   dsimp only at e
   subst e
   exact .inr (.tail _ (List.mem_filterMap.mpr ⟨_,(slotsC_cel hm).2.1,rfl⟩))
 refine ⟨R.im,R.base,R.cell,fun a ha=>⟨R.apartI a ha,fun q=>?_⟩,R.nodup,fun a ha=>?_,⟨m,hn,fun i x v hi hv=>?_⟩,fun i x c hi=>?_,R.gens⟩
 ·rcases own a q with rfl | q
  ·exact hLk ha
  ·exact (R.apart a ha).2 q
 ·rcases own a ha with rfl | q
  ·exact hLI
  ·exact R.ownI a q
 ·haveI hloc : (slotsC Φ.slots scope.names)[i]? = some (x,none):=hi
  obtain ⟨h1,h2⟩:=rhoC_get hloc hv
  unfold scopeC at hs
  simp only [Bool.and_eq_true,beq_iff_eq,decide_eq_true_eq] at hs
  haveI e1:=lookup_nodup hs.1.2 (slotsC_loc hc (List.mem_of_getElem? hloc))
  replace e1:=(lookup_nodup hs.1.2 h2 ..) ▸ e1
  cases e1
 ·haveI hcel : (slotsC Φ.slots scope.names)[i]? = some (x,some c):=hi
  obtain ⟨h1,h2,h3⟩:=slotsC_cel (List.mem_of_getElem? hcel)
  obtain ⟨j,hj,e⟩:=List.getElem_of_mem h2
  have hj' : Φ.slots[j]? = some (x,some c):=by refine rr (List.getElem?_eq_getElem hj ..) ?_;refine rr e ?_;rfl
  obtain ⟨u,hc,h⟩:=R.cells j x c hj'
  refine ⟨u,hc,fun v hv=>?_⟩
  obtain ⟨q1,_⟩:=rhoC_get hcel hv
  obtain ⟨j',o,hj2,hv2⟩:=capVal_some q1
  have:=slots_inj Ok hj' hj2
  subst this
  exact h v hv2
end
section
noncomputable def turnTree (p : Pos) (target : Expr) (ifs : List Expr) (It : Addr) (env : Env) (T : Sem Unit) (c : Code) : Sem Fin:=do
 standAt p
 match ← pyNext (.ref It) with
 | none=>pure (.done .next)
 | some v =>
  letOwnedTupleGo target (.ref It) v
  assign target env v
  let mut ok:=true
  for c in ifs do
   if ok then ok ← isTrue c env (eval c env)
  if ok then T
  again c
noncomputable abbrev testsOf (ifs : List Expr) (env : Env) : Sem Bool:=forIn ifs true fun c r=>if r = true then do let ok ← isTrue c env (eval c env);pure (ForInStep.yield ok) else pure (ForInStep.yield r)
noncomputable def CB (prog : Program) (w : World) (C : Addr) (Φ : Fc) (W : List Addr) (D : Addr) (ifs : List Expr) (T : Sem Unit) (ys : List V) (ρ : List (Option V)) (σ : St) (Q : List V→List (Option V)→St→Prop) : Prop :=
 ∀ A I s,AOk Φ A→Rel w.params C Φ I ρ ((D,.lst ys) :: σ) s→∀ (QQ : Shared→Prop) (E : Value→Shared→Prop),
  (∀ ys' ρ' σ' I' s',Q ys' ρ' σ'→Rel w.params C Φ I' ρ' ((D,.lst ys') :: σ') s'→Kp W I ((D,.lst ys) :: σ) I' ((D,.lst ys') :: σ') s s'→QQ s') →
  wpAny (model prog w) A (testsOf ifs Φ.env) (fun ok s₁=>if ok = true then wpAny (model prog w) A T (fun _ s₂=>QQ s₂) E s₁ else QQ s₁) E s
theorem turn_wp {M : Model} {A : Around} {E : Value→Shared→Prop} {s : Shared} {p : Pos} {target : Expr} {ifs : List Expr} {It : Addr} {env : Env} {T : Sem Unit} {c : Code} {Q : Fin→Shared→Prop}
  (h : wpAny M A (pyNext (.ref It)) (fun r s₁=>match r with
   | none=>Q (.done .next) s₁
   | some v=>wpAny M A (letOwnedTupleGo target (.ref It) v) (fun _ s₂=>wpAny M A (assign target env v) (fun _ s₃ =>
     wpAny M A (testsOf ifs env) (fun ok s₄=>if ok = true then wpAny M A T (fun _ s₅=>Q (.again c) s₅) E s₄ else Q (.again c) s₄) E s₃) E s₂) E s₁) E s) : wpAny M A (turnTree p target ifs It env T c) Q E s:=by
 refine wpAny_bind (wpAny_standAt (wpAny_bind (wpAny_mono h (fun r s₁ h₁=>?_) fun _ _ x=>x)))
 cases r with
 | none=>exact wpAny_pure h₁
 | some v =>
  refine wpAny_bind (wpAny_mono h₁ (fun _ s₂ h₂=>wpAny_bind (wpAny_mono h₂ (fun _ s₃ h₃=>wpAny_bind (wpAny_mono h₃ (fun ok s₄ h₄=>?_) fun _ _ x=>x)) fun _ _ x=>x)) fun _ _ x=>x)
  cases ok with
  | false=>exact wpAny_pure h₄
  | true=>exact wpAny_bind (wpAny_mono h₄ (fun _ s₅ h₅=>wpAny_pure h₅) fun _ _ x=>x)
theorem compLoop_T {A : Around} (a : AOk Φ A) {elt : Expr} {gens : List Comprehension} {scope : Scope} {pos p : Pos} {d : Nat} {target : Expr} {ifs : List Expr} {It D : Addr} {hid W : List Addr} {n : Nat} {bind : Nat→List (Option V)→List (Option V)} {nd : St} {Stt : Nat→Im→Heap→Prop} {T : Sem Unit}
  (he : compTurn (.ListComp elt gens scope pos) d (.ref It) (.ref D) Φ.env = turnTree p target ifs It Φ.env T (.compLoop (.ListComp elt gens scope pos) d (.ref It) (.ref D) Φ.env))
  (X : Itr prog w C Φ A target It hid W n bind nd Stt) (J : Nat→List V→List (Option V)→St→Prop)
  (turn : ∀ k ys ρ₁ σ₁,k < n→J k ys ρ₁ σ₁→CB prog w C Φ W D ifs T ys (bind k ρ₁) σ₁ fun ys' ρ₂ σ₂=>J (k + 1) ys' ρ₂ σ₂)
  (hnd : ∀ k ys ρ₁ σ₁,J k ys ρ₁ σ₁→∀ p∈nd,p∈σ₁)
  {I₀ : Im} {σ₀ : St} {s₀ : Shared} (hnew : ∀ b∈hid,s₀.heap.get? b = none) {I : Im} {ys : List V} {s : Shared} {R : Result→Shared→Prop}
  (Rl : Rel w.params C Φ I ρ ((D,.lst ys) :: σ) s) (k₀ : Kp W I₀ σ₀ I ((D,.lst ys) :: σ) s₀ s) (st : Stt 0 I s.heap) (O : Off Φ hid I ((D,.lst ys) :: σ)) (hJ : J 0 ys ρ σ)
  (fin : ∀ ys' ρ' σ' I' s',J n ys' ρ' σ'→Rel w.params C Φ I' ρ' ((D,.lst ys') :: σ') s'→Kp W I₀ σ₀ I' ((D,.lst ys') :: σ') s₀ s'→R (.ok .next) s') :
  codeAny (model prog w) A (.compLoop (.ListComp elt gens scope pos) d (.ref It) (.ref D) Φ.env) R s:=by
 refine codeAny_loop (by rfl) (fun m s₁=>∃ i ys₁ ρ₁ σ₁ I₁,m = n - i∧i ≤ n∧J i ys₁ ρ₁ σ₁∧Rel w.params C Φ I₁ ρ₁ ((D,.lst ys₁) :: σ₁) s₁∧Kp W I₀ σ₀ I₁ ((D,.lst ys₁) :: σ₁) s₀ s₁∧Stt i I₁ s₁.heap∧Off Φ hid I₁ ((D,.lst ys₁) :: σ₁)) (fun m s₁ hI=>?_) (n - 0) ⟨0,ys,ρ,σ,I,rfl,Nat.zero_le _,hJ,Rl,k₀,st,O⟩
 obtain ⟨i,ys₁,ρ₁,σ₁,I₁,rfl,hi,hJ,R₁,k₁,st₁,O₁⟩:=hI
 show wpAny _ A ((compTurn (.ListComp elt gens scope pos) d (.ref It) (.ref D) Φ.env).onRaise (fun x=>do noteFrame x Φ.env;theTreesLotGoes x)) _ _ s₁
 refine wpAny_noted ?_
 refine rr he ?_
 refine turn_wp ?_
 have off : ∀ b o,s₀.heap.get? b = some o→b ∉ hid:=fun b o e h=>by replace e:=(hnew b h ..) ▸ e;exact nsm e
 by_cases hlt : i < n
 ·refine wpAny_mono (X.item i I₁ ρ₁ _ s₁ hlt R₁ (fun p h=>.tail _ (hnd _ _ _ _ hJ p h)) st₁ O₁ (fun s₃=>wpAny (model prog w) A (testsOf ifs Φ.env) (fun ok s₄=>if ok = true then wpAny (model prog w) A T (fun _ s₅=>∃ ys₁ ρ₁ σ₁ I₁,J (i + 1) ys₁ ρ₁ σ₁∧Rel w.params C Φ I₁ ρ₁ ((D,.lst ys₁) :: σ₁) s₅∧Kp W I₀ σ₀ I₁ ((D,.lst ys₁) :: σ₁) s₀ s₅∧Stt (i + 1) I₁ s₅.heap∧Off Φ hid I₁ ((D,.lst ys₁) :: σ₁)) (notedBy (model prog w) A Φ.env fun e s'=>R (.error e) s') s₄
    else ∃ ys₁ ρ₁ σ₁ I₁,J (i + 1) ys₁ ρ₁ σ₁∧Rel w.params C Φ I₁ ρ₁ ((D,.lst ys₁) :: σ₁) s₄∧Kp W I₀ σ₀ I₁ ((D,.lst ys₁) :: σ₁) s₀ s₄∧Stt (i + 1) I₁ s₄.heap∧Off Φ hid I₁ ((D,.lst ys₁) :: σ₁)) (notedBy (model prog w) A Φ.env fun e s'=>R (.error e) s') s₃) (notedBy (model prog w) A Φ.env fun e s'=>R (.error e) s') ?_) (fun r s₂ h₂=>?_) fun _ _ x=>x
  ·intro s₂ R₂ st₂ kk os₂
   haveI k₂ : Kp W I₀ σ₀ I₁ ((D,.lst ys₁) :: σ₁) s₀ s₂:=by
    refine ⟨fun b o e h1 h2=>kk b o (off b o e) h2 (k₁.keep b o e h1 h2),fun b e=>?_,k₁.new,k₁.im,os₂.trans k₁.os⟩
    by_cases q : b∈W
    ·obtain ⟨o,ho⟩:=R₂.own_alive (X.own b q)
     refine rr ho ?_;rfl
    ·obtain ⟨o,ho⟩:=Option.isSome_iff_exists.mp e
     obtain ⟨o',ho'⟩:=Option.isSome_iff_exists.mp (k₁.alive b e)
     refine rr (kk b o' (off b o ho) q ho' ..) ?_;rfl
   refine turn i ys₁ ρ₁ σ₁ hlt hJ A I₁ s₂ a R₂ _ _ fun ys₃ ρ₃ σ₃ I₃ s₃ q₃ R₃ k₃=>?_
   refine ⟨ys₃,ρ₃,σ₃,I₃,q₃,R₃,k₂.trans k₃ R₂.apartI,X.frame _ _ _ _ _ st₂ (fun b hb o e=>k₃.keep b o e (O₁.k b hb) fun q=>O₁.o b hb (X.own b q)) k₃.im R₃.im (fun p h=>R₃.cell p.1 p.2 (.tail _ (hnd _ _ _ _ q₃ p h))),?_⟩
   have key : ∀ b∈hid,¬ ((I₃ b).isSome = true ∨ b∈keys ((D,.lst ys₃) :: σ₃)):=fun b hb q=>by
    rcases k₃.new b q with z | z | z
    ·replace z:=(O₁.i b hb ..) ▸ z;exact ftm z
    ·exact O₁.k b hb z
    ·have:=X.alive _ _ _ st₂ b hb
     replace this:=z ▸ this;exact ftm this
   refine ⟨fun b hb=>?_,fun b hb q=>key b hb (.inr q),O₁.o⟩
   cases q : I₃ b with
   | none=>rfl
   | some o=>exact absurd (.inl (by refine rr q ?_;rfl)) (key b hb)
  ·cases r with
   | none=>exact h₂.elim
   | some v =>
    refine wpAny_mono h₂ (fun _ s₃ h₃=>wpAny_mono h₃ (fun _ s₄ h₄=>wpAny_mono h₄ (fun ok s₅ h₅=>?_) fun _ _ x=>x) fun _ _ x=>x) fun _ _ x=>x
    have last : ∀ s₆ : Shared,(∃ ys₁ ρ₁ σ₁ I₁,J (i + 1) ys₁ ρ₁ σ₁∧Rel w.params C Φ I₁ ρ₁ ((D,.lst ys₁) :: σ₁) s₆∧Kp W I₀ σ₀ I₁ ((D,.lst ys₁) :: σ₁) s₀ s₆∧Stt (i + 1) I₁ s₆.heap∧Off Φ hid I₁ ((D,.lst ys₁) :: σ₁)) →
      ∃ m,m < n - i∧∃ i ys₁ ρ₁ σ₁ I₁,m = n - i∧i ≤ n∧J i ys₁ ρ₁ σ₁∧Rel w.params C Φ I₁ ρ₁ ((D,.lst ys₁) :: σ₁) s₆∧Kp W I₀ σ₀ I₁ ((D,.lst ys₁) :: σ₁) s₀ s₆∧Stt i I₁ s₆.heap∧Off Φ hid I₁ ((D,.lst ys₁) :: σ₁) :=
     fun s₆ ⟨ys₁,ρ₁,σ₁,I₁,z⟩=>⟨n - (i + 1),by omega,i + 1,ys₁,ρ₁,σ₁,I₁,rfl,hlt,z⟩
    cases ok with
    | true=>exact wpAny_mono h₅ (fun _ s₆ h₆=>⟨rfl,last s₆ h₆⟩) fun _ _ x=>x
    | false=>exact ⟨rfl,last s₅ h₅⟩
 ·haveI hin : i = n:=by omega
  subst hin
  refine X.done I₁ ρ₁ _ s₁ R₁ (fun p h=>.tail _ (hnd _ _ _ _ hJ p h)) st₁ O₁ _ _ fun s₂ R₂ kk os₂=>?_
  refine fin ys₁ ρ₁ σ₁ I₁ s₂ hJ R₂ ⟨fun b o e h1 h2=>kk b o (off b o e) (k₁.keep b o e h1 h2),fun b e=>?_,k₁.new,k₁.im,os₂.trans k₁.os⟩
  obtain ⟨o,ho⟩:=Option.isSome_iff_exists.mp e
  obtain ⟨o',ho'⟩:=Option.isSome_iff_exists.mp (k₁.alive b e)
  refine rr (kk b o' (off b o ho) ho' ..) ?_;rfl
noncomputable abbrev emitOf (elt : Expr) (D : Addr) (env : Env) : Sem Unit:=do let _ ← call (.builtin "list.append") [.ref D,← eval elt env]
theorem emit_wp {A : Around} (a : AOk Φ A) {elt : Expr} {D : Addr} {ys : List V} {W : List Addr} {Q : List V→List (Option V)→St→Prop} (hlen : ys.length ≤ sizeLine)
  (h : EV prog w C Φ elt ρ ((D,.lst ys) :: σ) fun v σ'=>∃ σ₁,((D,.lst ys) :: σ₁ : St).Sublist σ'∧Q (ys ++ [v]) ρ σ₁) {I : Im} {s : Shared} (R : Rel w.params C Φ I ρ ((D,.lst ys) :: σ) s) {QQ : Shared→Prop} {E : Value→Shared→Prop}
  (g : ∀ ys' ρ' σ' I' s',Q ys' ρ' σ'→Rel w.params C Φ I' ρ' ((D,.lst ys') :: σ') s'→Kp W I ((D,.lst ys) :: σ) I' ((D,.lst ys') :: σ') s s'→QQ s') : wpAny (model prog w) A (emitOf elt D Φ.env) (fun _ s₂=>QQ s₂) E s:=by
 refine wpAny_bind (h A I s a R _ E fun v σ' I' s' val z0 hv R' k=>?_)
 obtain ⟨σ₁,hs,q⟩:=z0
 have R₁:=R'.sub hs
 haveI k₁:=k.sub hs
 obtain ⟨o,ho,vs,n,rfl,hvs⟩:=R₁.cell D (.lst ys) (.head _)
 refine wpAny_bind (wpAny_list_append_plain ⟨n,ho⟩ (fun h' hl hs'=>wpAny_pure ?_) (by simpa [hvs.1] using hlen))
 obtain ⟨n',ho'⟩:=hl
 haveI z:=R₁.set (i:=0) (c':=.lst (ys ++ [v])) rfl (tk:=s'.toks) hs' ho' ⟨vs ++ [val],n',by simp,hvs.append (.one hv)⟩
 exact g _ ρ σ₁ I' _ q z.1 ((k₁.trans z.2 R₁.apartI).wider fun a h=>nomatch h)
noncomputable def CT (prog : Program) (w : World) (C : Addr) (Φ : Fc) (W : List Addr) (D : Addr) (T : Sem Unit) (ys : List V) (ρ : List (Option V)) (σ : St) (Q : List V→List (Option V)→St→Prop) : Prop :=
 ∀ A I s,AOk Φ A→Rel w.params C Φ I ρ ((D,.lst ys) :: σ) s→∀ (QQ : Shared→Prop) (E : Value→Shared→Prop),
   (∀ ys' ρ' σ' I' s',Q ys' ρ' σ'→Rel w.params C Φ I' ρ' ((D,.lst ys') :: σ') s'→Kp W I ((D,.lst ys) :: σ) I' ((D,.lst ys') :: σ') s s'→QQ s')→wpAny (model prog w) A T (fun _ s₂=>QQ s₂) E s
theorem CB.nil {W : List Addr} {D : Addr} {T : Sem Unit} {ys : List V} {Q : List V→List (Option V)→St→Prop}
  (h : CT prog w C Φ W D T ys ρ σ Q) : CB prog w C Φ W D [] T ys ρ σ Q:=fun A I s a R QQ E g=>wpAny_tests_nil (h A I s a R QQ E g)
theorem CB.one {W : List Addr} {D : Addr} {T : Sem Unit} {c : Expr} {ys : List V} {Q : List V→List (Option V)→St→Prop}
  (h : ET prog w C Φ c ρ ((D,.lst ys) :: σ) fun b σ'=>∃ σ₁,((D,.lst ys) :: σ₁ : St).Sublist σ'∧if b then CT prog w C Φ W D T ys ρ σ₁ Q else Q ys ρ σ₁) :
  CB prog w C Φ W D [c] T ys ρ σ Q:=by
 intro A I s a R QQ E g
 refine wpAny_tests_one (h A I s a R _ E fun b σ' I' s' z0 R' k=>?_)
 obtain ⟨σ₁,hs,q⟩:=z0
 have R₁:=R'.sub hs
 have k₁:=(k.sub hs).wider (W':=W) fun a h=>nomatch h
 cases b with
 | true=>exact q A I' s' a R₁ QQ E fun ys' ρ' σ'' I'' s'' q' R'' k'=>g ys' ρ' σ'' I'' s'' q' R'' (k₁.trans k' R₁.apartI)
 | false=>exact g ys ρ σ₁ I' s' q R₁ k₁
theorem CT.emit {W : List Addr} {D : Addr} {elt : Expr} {ys : List V} {Q : List V→List (Option V)→St→Prop} (hlen : ys.length ≤ sizeLine)
  (h : EV prog w C Φ elt ρ ((D,.lst ys) :: σ) fun v σ'=>∃ σ₁,((D,.lst ys) :: σ₁ : St).Sublist σ'∧Q (ys ++ [v]) ρ σ₁) : CT prog w C Φ W D (emitOf elt D Φ.env) ys ρ σ Q :=
 fun A I s a R QQ E g=>emit_wp a hlen h R g
end
section
theorem Itr.wider {A : Around} {target : Expr} {It : Addr} {hid W W' : List Addr} {n : Nat} {bind : Nat→List (Option V)→List (Option V)} {nd : St} {Stt : Nat→Im→Heap→Prop}
  (X : Itr prog w C Φ A target It hid W n bind nd Stt) (h : ∀ b∈W,b∈W') (ho : ∀ b∈W',b∈Φ.own) : Itr prog w C Φ A target It hid W' n bind nd Stt :=
 ⟨fun k I ρ σ s hk R hn st O QQ E g=>X.item k I ρ σ s hk R hn st O QQ E fun s' R' st' kk os=>g s' R' st' (fun b o h1 h2 e=>kk b o h1 (fun q=>h2 (h b q)) e) os,X.done,X.frame,X.alive,ho,X.self⟩
noncomputable def ITC (prog : Program) (w : World) (C : Addr) (Φ : Fc) (scope : Scope) (target iter : Expr) (ρ : List (Option V)) (σ : St) (nd : St) (Q : Nat→(Nat→List (Option V)→List (Option V))→St→Prop) : Prop :=
 ∀ A I s,AOk Φ A→Rel w.params C Φ I ρ σ s→∀ (QQ : Value→Shared→Prop) (E : Value→Shared→Prop),
  (∀ n bind σ' I' s' It hid Stt,Q n bind σ'→(∀ L,L ∉ Φ.own→Itr prog w C (Φ.comp scope L) A target It hid [L] n bind nd Stt)→Stt 0 I' s'.heap→Rel w.params C Φ I' ρ σ' s'→Kp [] I σ I' σ' s s'→Off Φ hid I' σ'→(∀ b∈hid,s.heap.get? b = none)→QQ (.ref It) s') →
  wpAny (model prog w) A (eval iter Φ.env) (fun xv s₁=>wpAny (model prog w) A (pyIter xv) QQ E s₁) E s
theorem ITC.one (Ok : Φ.Ok) {scope : Scope} (hs : scopeC scope = true) (hc : capOk Φ.slots scope.names = true) {x : Str} {px : Pos} {i : Nat} (hi : (slotsC Φ.slots scope.names)[i]? = some (x,none)) {iter : Expr} {Q : Nat→(Nat→List (Option V)→List (Option V))→St→Prop}
  (h : IE1 prog w C Φ iter ρ σ fun vals σ'=>Q vals.length (fun k ρ=>ρ.set i (vals[k]?)) σ') : ITC prog w C Φ scope (.Name x px) iter ρ σ [] Q :=
 fun A I s a R QQ E g=>h A I s a R QQ E fun vals σ' I' s' It hid St q S st R' k' O' hn=>g _ _ σ' I' s' It hid _ q (fun L hL=>S.itr (Fc.compOk Ok hs hc hL) hi (.inl rfl)) ⟨st,fun _ _ e=>e,R'.im⟩ R' k' O' hn
theorem ITC.two (Ok : Φ.Ok) (hh : Φ.hd = none) {scope : Scope} (hs : scopeC scope = true) (hc : capOk Φ.slots scope.names = true) {x y : Str} {px py pt : Pos} {kt : Nat} {i j : Nat} (hi : (slotsC Φ.slots scope.names)[i]? = some (x,none)) (hj : (slotsC Φ.slots scope.names)[j]? = some (y,none))
  {iter : Expr} {Q : Nat→(Nat→List (Option V)→List (Option V))→St→Prop}
  (h : IE2 prog w C Φ iter ρ σ fun vals σ'=>Q vals.length (fun k ρ=>(ρ.set i (vals[k]?.map (·.1))).set j (vals[k]?.map (·.2))) σ') : ITC prog w C Φ scope (.Tuple [.Name x px,.Name y py] kt pt) iter ρ σ [] Q :=
 fun A I s a R QQ E g=>h A I s a R QQ E fun vals σ' I' s' It hid St q S st R' k' O' hn=>g _ _ σ' I' s' It hid _ q (fun L hL=>(S.itr (Fc.compOk Ok hs hc hL) (a.hd.trans hh) hi (.inl rfl) hj (.inl rfl)).wider (fun b hb=>by
  rcases List.mem_cons.mp hb with q | q
  ·exact List.mem_singleton.mpr q
  ·exact q) fun b hb=>by refine rr (List.mem_singleton.mp hb ..) ?_;exact .head _) ⟨st,fun _ _ e=>e,R'.im⟩ R' k' O' hn
inductive QComp (prog : Program) (w : World) (C : Addr) (Φ : Fc) (scope : Scope) (ifs : List Expr) (T : Addr→Env→Sem Unit) (ρ : List (Option V)) (nd : St) (P : Addr→List V→St→Prop) (n : Nat) (bind : Nat→List (Option V)→List (Option V)) (σ' : St) : Prop
 | mk (J : Nat→List V→List (Option V)→St→Prop) (h0 : J 0 [] (rhoC Φ.slots ρ scope.names) σ') (hn : ∀ k ys ρ₁ σ₁,J k ys ρ₁ σ₁→∀ p∈nd,p∈σ₁)
  (turn : ∀ k ys ρ₁ σ₁ L D,(Φ.comp scope L).Ok→k < n→J k ys ρ₁ σ₁→CB prog w C (Φ.comp scope L) [L] D ifs (T D (Φ.comp scope L).env) ys (bind k ρ₁) σ₁ (J (k + 1))) (fin : ∀ D ys ρ₁ σ₁,J n ys ρ₁ σ₁→P D ys σ₁)
noncomputable abbrev kNewC (Q : QV) : Addr→List V→St→Prop:=fun D ys σ₁=>Q (.ref D) ((D,.lst ys) :: σ₁)
theorem comp_core (Ok : Φ.Ok) {elt target iter : Expr} {ifs : List Expr} {rest : List Comprehension} {scope : Scope} {pos : Pos} (hs : scopeC scope = true) (hc : capOk Φ.slots scope.names = true)
  (hfs : ∀ x,foldedSetIterable iter Φ.env x = pure x) (T : Addr→Env→Sem Unit)
  (he : ∀ It D env,compTurn (.ListComp elt (⟨target,iter,ifs,0⟩ :: rest) scope pos) 0 (.ref It) (.ref D) env = turnTree iter.pos target ifs It env (T D env) (.compLoop (.ListComp elt (⟨target,iter,ifs,0⟩ :: rest) scope pos) 0 (.ref It) (.ref D) env))
  {nd : St} {Q : Addr→List V→St→Prop} {use : Option (Value→Sem Unit)} {A : Around} {I : Im} {s : Shared} (a : AOk Φ A) (R : Rel w.params C Φ I ρ σ s) {E : Value→Shared→Prop} {QQ : Value→Shared→Prop}
  (h : ITC prog w C Φ scope target iter ρ σ nd (QComp prog w C Φ scope ifs T ρ nd Q))
  (fin : ∀ D ys σ' I' s' L m,Q D ys σ'→Rel w.params C Φ I' ρ ((D,.lst ys) :: σ') s'→Kp [] I σ I' ((D,.lst ys) :: σ') s s'→L ∉ Φ.own→L ∉ keys ((D,.lst ys) :: σ')→I' L = none→s.heap.get? L = none→s'.heap.Ns L m→compPost (model prog w) A E use QQ (.ref D) L (.ok .next) s') :
  wpAny (model prog w) A (comprehension (.ListComp elt (⟨target,iter,ifs,0⟩ :: rest) scope pos) scope Φ.env (firstIterPos (⟨target,iter,ifs,0⟩ :: rest) pos) (newList []) false (eval iter Φ.env) use) QQ E s:=by
 haveI hs':=hs
 unfold scopeC at hs'
 simp only [Bool.and_eq_true,beq_iff_eq,decide_eq_true_eq] at hs'
 obtain ⟨⟨hk,nd⟩,hdb⟩:=hs'
 refine wpAny_comprehension_free (g:=⟨target,iter,ifs,0⟩) (gs:=rest) rfl hfs (closure_cap Ok scope hc) hk (fun x hx hl=>by obtain ⟨n,k⟩:=x;dsimp only at hl;subst hl;exact lookup_nodup nd hx) ?_
 refine h A I s a R _ E fun n bind σ' I' s' It hid Stt z0 mk st R' k' O' hn=>?_
 obtain ⟨J,hJ0,hnd,turn,hfin⟩:=z0
 refine wpAny_newObj_type ?_ (by size_fits)
 have hD : s'.heap.get? s'.heap.objs.size = none:=Heap.get?_none_of_le (Nat.le_refl _)
 obtain ⟨R₁,k₁⟩:=R'.new (c:=.lst []) (o:={ cls:=.type "list",data:=.seq ([] : List Value).toArray }) (h':=s'.heap.push { cls:=.type "list",data:=.seq ([] : List Value).toArray }) (tk:=s'.toks) hD (fun b o e=>Heap.get?_push_of_some _ e) (Heap.get?_push_size _ rfl) ⟨[],0,rfl,.nil⟩
 haveI hnc : ∀ x∈scope.names,x.2 ≠ .cell:=fun x hx q=>by
  have:=List.all_eq_true.mp hc x hx
  replace this:=q ▸ this
  exact ftm this
 refine wpAny_newFunctionEnv hnc (fun x hx=>nomatch hx) (fun h' hns hsb=>?_) hk
 generalize hH2 : s'.heap.push { cls:=.type "list",dict:=none,data:=.seq ([] : List Value).toArray } = H2 at hns hsb R₁ k₁ ⊢
 generalize hLe : H2.objs.size = L at hns hsb ⊢
 have hL2 : H2.get? L = none:=Heap.get?_none_of_le (Nat.le_of_eq hLe)
 have kk : ∀ b o,H2.get? b = some o→h'.get? b = some o:=fun b o e=>by
  haveI hb : b ≠ L:=fun q=>by replace e:=q ▸ e;replace e:=hL2 ▸ e;exact nsm e
  exact (hsb.2 b hb).trans (Heap.get?_push_of_some _ e)
 have G₂ : Gr I' I' { s' with heap:=H2,toks:=s'.toks } { s' with heap:=h',toks:=s'.toks + ([] : List (Str × Value)).length }:=⟨fun _ _ e=>e,kk,fun _ e=>.inl e,fun b o e=>kk b o (R₁.im b o e),⟨rfl,rfl⟩,rfl⟩
 haveI R₂:=R₁.grow G₂
 have hLo : L ∉ Φ.own:=fun q=>by
  obtain ⟨o,ho⟩:=R₁.own_alive q
  have : H2.get? L = some o:=ho
  replace this:=hL2 ▸ this;exact nsm this
 haveI hLk : L ∉ keys ((s'.heap.objs.size,Cell.lst []) :: σ'):=fun q=>by
  obtain ⟨o,ho⟩:=R₁.key_alive q
  have : H2.get? L = some o:=ho
  replace this:=hL2 ▸ this;exact nsm this
 haveI hLI : I' L = none:=by
  cases q : I' L with
  | none=>rfl
  | some o =>
   have : H2.get? L = some o:=R₁.im L o q
   replace this:=hL2 ▸ this;exact nsm this
 have R₃:=R₂.comp Ok hs hc hLo hLk hLI hns
 haveI K₃ : Kp [L] I σ I' ((s'.heap.objs.size,Cell.lst []) :: σ') s { s' with heap:=h',toks:=s'.toks + ([] : List (Str × Value)).length } :=
  ((k'.trans k₁ R'.apartI).trans G₂.kp R₁.apartI).wider fun a h=>nomatch h
 have hLs : s.heap.get? L = none:=by
  cases q : s.heap.get? L with
  | none=>rfl
  | some o =>
   have h1:=k'.alive L (by refine rr q ?_;rfl)
   obtain ⟨o',ho'⟩:=Option.isSome_iff_exists.mp h1
   have : H2.get? L = some o':=by refine rl hH2 ?_;exact Heap.get?_push_of_some _ ho'
   replace this:=hL2 ▸ this;exact nsm this
 haveI X:=mk L hLo
 haveI ac : AOk (Φ.comp scope L) A:=⟨a.hd,a.fr,a.dp,a.un⟩
 haveI hold : ∀ b o,s'.heap.get? b = some o→h'.get? b = some o:=fun b o e=>kk b o (by refine rl hH2 ?_;exact Heap.get?_push_of_some _ e)
 have st₃ : Stt 0 I' h':=X.frame _ _ _ _ _ st (fun b hb o e=>hold b o e) (fun _ _ e=>e) R₃.im (fun p h=>R₃.cell p.1 p.2 (.tail _ (hnd _ _ _ _ hJ0 p h)))
 haveI O₃ : Off (Φ.comp scope L) hid I' ((s'.heap.objs.size,Cell.lst []) :: σ'):=by
  have al : ∀ b∈hid,(s'.heap.get? b).isSome = true:=fun b hb=>X.alive _ _ _ st b hb
  refine ⟨O'.i,fun b hb q=>?_,fun b hb q=>?_⟩
  ·rcases List.mem_cons.mp q with e | q
   ·have:=al b hb
    replace this:=e ▸ this;replace this:=hD ▸ this;exact ftm this
   ·exact O'.k b hb q
  ·rcases List.mem_cons.mp q with e | q
   ·have:=al b hb
    obtain ⟨o,ho⟩:=Option.isSome_iff_exists.mp this
    have : H2.get? b = some o:=by refine rl hH2 ?_;exact Heap.get?_push_of_some _ ho
    haveI e' : b = L:=e
    replace this:=e' ▸ this;replace this:=hL2 ▸ this;exact nsm this
   ·obtain ⟨⟨x,o⟩,hm,e⟩:=List.mem_filterMap.mp q
    subst e
    exact O'.o b hb (.tail _ (List.mem_filterMap.mpr ⟨_,(slotsC_cel hm).2.1,rfl⟩))
 haveI loop:=compLoop_T (R:=compPost (model prog w) A E use QQ (.ref s'.heap.objs.size) L) ac (he It s'.heap.objs.size (Φ.comp scope L).env) X J (fun k ys ρ₁ σ₁ hk hJ=>turn k ys ρ₁ σ₁ L _ (Fc.compOk Ok hs hc hLo) hk hJ) hnd (I₀:=I) (σ₀:=σ) (s₀:=s) hn R₃ K₃ st₃ O₃ hJ0
  fun ys' ρ' σ'' I'' s'' hJ R₄ K₄=>by
   obtain ⟨m,hm,_⟩:=R₄.ns
   haveI hW : ∀ b∈[L],s.heap.get? b = none:=fun b hb=>by refine rr (List.mem_singleton.mp hb ..) ?_;exact hLs
   exact fin _ ys' σ'' I'' s'' L m (hfin _ _ _ _ hJ) (R.back R₄ K₄ hW rfl) (K₄.narrow hW) hLo (fun q=>(R₄.apart L q).2 (.head _)) (R₄.ownI L (.head _)) hLs hm
 exact codeAny_compStart_list loop (X.self 0 I' _ _ _ st₃ loop)
theorem comp_let {D : Addr} {ys : List V} {I I' : Im} {s s' : Shared} {L : Addr} {σ' : St} (R : Rel w.params C Φ I ρ σ s) (R' : Rel w.params C Φ I' ρ ((D,.lst ys) :: σ') s') (k : Kp [] I σ I' ((D,.lst ys) :: σ') s s') (h1 : L ∉ Φ.own) (h2 : L ∉ keys ((D,.lst ys) :: σ')) (h3 : I' L = none) (h4 : s.heap.get? L = none)
  {h' : Heap} (hsb : Heap.SameBut L s'.heap h') : Rel w.params C Φ I' ρ ((D,.lst ys) :: σ') { s' with heap:=h' }∧Kp [] I σ I' ((D,.lst ys) :: σ') s { s' with heap:=h' }:=by
 have kb : ∀ b o,b ∉ [L]→s'.heap.get? b = some o→h'.get? b = some o:=fun b o hb e=>(hsb.2 b fun q=>hb (List.mem_singleton.mpr q)).trans e
 have hl : ∀ b o,s.heap.get? b = some o→b ∉ [L]:=fun b o e q=>by replace e:=(List.mem_singleton.mp q ..) ▸ e;replace e:=h4 ▸ e;exact nsm e
 refine ⟨R'.offset (tk:=s'.toks) (wr:=[L]) ⟨fun b hb=>by refine rr (List.mem_singleton.mp hb ..) ?_;exact h3,fun b hb=>by refine rr (List.mem_singleton.mp hb ..) ?_;exact h2,fun b hb=>by refine rr (List.mem_singleton.mp hb ..) ?_;exact h1⟩ kb,
  ⟨fun b o e x y=>kb b o (hl b o e) (k.keep b o e x y),fun b e=>?_,k.new,k.im,k.os⟩⟩
 obtain ⟨o,ho⟩:=Option.isSome_iff_exists.mp e
 obtain ⟨o',ho'⟩:=Option.isSome_iff_exists.mp (k.alive b e)
 refine rr (kb b o' (hl b o ho) ho' ..) ?_;rfl
theorem EV.comp (Ok : Φ.Ok) {elt target iter : Expr} {ifs : List Expr} {scope : Scope} {pos : Pos} (hs : scopeC scope = true) (hc : capOk Φ.slots scope.names = true) (hfs : ∀ x,foldedSetIterable iter Φ.env x = pure x) {nd : St} {Q : QV}
  (h : ITC prog w C Φ scope target iter ρ σ nd (QComp prog w C Φ scope ifs (emitOf elt) ρ nd (kNewC Q))) :
  EV prog w C Φ (.ListComp elt [⟨target,iter,ifs,0⟩] scope pos) ρ σ Q:=by
 intro A I s a R QQ E g
 rw [arm_eval_ListComp]
 refine comp_core Ok hs hc hfs (emitOf elt) (fun It D env=>rfl) (Q:=kNewC Q) (use:=none) a R h fun D ys σ' I' s' L m q R' k h1 h2 h3 h4 hm=>⟨m,hm,fun h' hsb=>?_⟩
 obtain ⟨R₂,k₂⟩:=comp_let R R' k h1 h2 h3 h4 hsb
 exact g _ _ I' _ _ q (.ref D) R₂ k₂
end
section
noncomputable def OP (prog : Program) (w : World) (C : Addr) (Φ : Fc) (ρ : List (Option V)) (σ : St) (op : Operator) (x y : V) (Q : QV) : Prop :=
 ∀ A I s vx vy,AOk Φ A→Rel w.params C Φ I ρ σ s→VR C I x vx→VR C I y vy→TJ prog w C Φ A I ρ σ s (binaryOp op vx vy) Q
noncomputable def CO (prog : Program) (w : World) (C : Addr) (Φ : Fc) (ρ : List (Option V)) (σ : St) (op : CmpOp) (x y : V) (Q : Bool→St→Prop) : Prop :=
 ∀ A I s vx vy,AOk Φ A→Rel w.params C Φ I ρ σ s→VR C I x vx→VR C I y vy→TJ prog w C Φ A I ρ σ s (compareOp op vx vy) fun v σ₃=>∃ b,v = .bool b∧Q b σ₃
noncomputable def BJ (prog : Program) (w : World) (C : Addr) (Φ : Fc) (ρ : List (Option V)) (σ : St) (id : String) (xs : List V) (Q : QV) : Prop :=
 ∀ A I s vals,AOk Φ A→Rel w.params C Φ I ρ σ s→VRs C I xs vals→TJ prog w C Φ A I ρ σ s (call (.builtin id) vals) Q
noncomputable def BT (prog : Program) (w : World) (C : Addr) (Φ : Fc) (ρ : List (Option V)) (σ : St) (id : String) (xs : List V) (Q : QV) : Prop :=
 ∀ A I s vals,AOk Φ A→Rel w.params C Φ I ρ σ s→VRs C I xs vals→TJ prog w C Φ A I ρ σ s (call (.type id) vals) Q
section
variable (prog : Program) (w : World) (C : Addr) (Φ : Fc)
noncomputable abbrev kOp2 (ρ : List (Option V)) (op : Operator) (x : V) (Q : QV) : V→St→Prop:=fun y σ₂=>OP prog w C Φ ρ σ₂ op x y Q
noncomputable abbrev kOp (b : Expr) (ρ : List (Option V)) (op : Operator) (Q : QV) : V→St→Prop:=fun x σ₁=>EV prog w C Φ b ρ σ₁ (kOp2 prog w C Φ ρ op x Q)
noncomputable abbrev kCo2 (ρ : List (Option V)) (op : CmpOp) (x : V) (Q : Bool→St→Prop) : V→St→Prop:=fun y σ₂=>CO prog w C Φ ρ σ₂ op x y Q
noncomputable abbrev kCo (b : Expr) (ρ : List (Option V)) (op : CmpOp) (Q : Bool→St→Prop) : V→St→Prop:=fun x σ₁=>EV prog w C Φ b ρ σ₁ (kCo2 prog w C Φ ρ op x Q)
noncomputable abbrev kB (Q : QV) : Bool→St→Prop:=fun b σ'=>Q (.bool b) σ'
noncomputable abbrev kLst (Q : QV) : List V→St→Prop:=fun xs σ'=>xs.length ≤ sizeLine∧Q (.lst xs) σ'
noncomputable abbrev kTup (Q : QV) : List V→St→Prop:=fun xs σ'=>xs.length ≤ sizeLine∧Q (.tup xs) σ'
noncomputable abbrev kNewL (Q : QV) : List V→St→Prop:=fun xs σ'=>xs.length ≤ sizeLine∧∀ a,Q (.ref a) ((a,.lst xs) :: σ')
noncomputable abbrev kBJ (ρ : List (Option V)) (id : String) (Q : QV) : List V→St→Prop:=fun xs σ₁=>BJ prog w C Φ ρ σ₁ id xs Q
noncomputable abbrev kBT (ρ : List (Option V)) (id : String) (Q : QV) : List V→St→Prop:=fun xs σ₁=>BT prog w C Φ ρ σ₁ id xs Q
noncomputable abbrev kM2 (ρ : List (Option V)) (id : String) (ov : V) (Q : QV) : List V→St→Prop:=fun xs σ₂=>BJ prog w C Φ ρ σ₂ id (ov :: xs) Q
end
theorem EV.op {a b : Expr} {op : Operator} {pos : Pos} {Q : QV}
  (h : EV prog w C Φ a ρ σ (kOp prog w C Φ b ρ op Q)) : EV prog w C Φ (.BinOp a op b pos) ρ σ Q:=EV.bin h
theorem ET.co {l r : Expr} {op : CmpOp} {pos : Pos} {Q : Bool→St→Prop} (hm : behindInMarks op r = false)
  (h : EV prog w C Φ l ρ σ (kCo prog w C Φ r ρ op Q)) : ET prog w C Φ (.Compare l [op] [r] pos) ρ σ Q:=ET.cmp hm h
theorem EV.co {l r : Expr} {op : CmpOp} {pos : Pos} {Q : QV} (hm : behindInMarks op r = false)
  (h : EV prog w C Φ l ρ σ (kCo prog w C Φ r ρ op (kB Q))) : EV prog w C Φ (.Compare l [op] [r] pos) ρ σ Q :=
 EV.cmp hm (h.mono fun x σ₁ q=>q.mono fun y σ₂ q A I s vx vy a R hx hy QQ E g=>q A I s vx vy a R hx hy QQ E fun v σ' I' s' val ⟨b,hv,q⟩ hval=>g v σ' I' s' val (by refine rr hv ?_;exact q) hval)
section
variable {i j : Int} {Q : QV}
theorem Rel.toks {P : Params} {I : Im} {s : Shared} (R : Rel P C Φ I ρ σ s) (tk : Nat) : Rel P C Φ I ρ σ { s with toks:=tk }:=R.grow (Gr.same (h':=s.heap) R.im fun _ _ e=>e)
theorem OP.addI (q : Q (.int (i + j)) σ) : OP prog w C Φ ρ σ .Add (.int i) (.int j) Q:=fun A I s vx vy a R hx hy QQ E g=>by
 obtain ⟨_,rfl⟩:=hx.inv;obtain ⟨_,rfl⟩:=hy.inv;exact PyProof.Rows.add_int (g.toks R (.int _ _) q)
theorem OP.subI (q : Q (.int (i - j)) σ) : OP prog w C Φ ρ σ .Sub (.int i) (.int j) Q:=fun A I s vx vy a R hx hy QQ E g=>by
 obtain ⟨_,rfl⟩:=hx.inv;obtain ⟨_,rfl⟩:=hy.inv;exact PyProof.Rows.sub_int (g.toks R (.int _ _) q)
theorem OP.mulI (hm : IntMulOk i j) (q : Q (.int (i * j)) σ) : OP prog w C Φ ρ σ .Mult (.int i) (.int j) Q:=fun A I s vx vy a R hx hy QQ E g=>by
 obtain ⟨_,rfl⟩:=hx.inv;obtain ⟨_,rfl⟩:=hy.inv;exact PyProof.Rows.mul_int (g.toks R (.int _ _) q) hm
theorem OP.divI (h0 : j ≠ 0) (hd : Builtin.divisionGoesByPylong i j = false) (q : Q (.int (i.fdiv j)) σ) : OP prog w C Φ ρ σ .FloorDiv (.int i) (.int j) Q:=fun A I s vx vy a R hx hy QQ E g=>by
 obtain ⟨_,rfl⟩:=hx.inv;obtain ⟨_,rfl⟩:=hy.inv;exact PyProof.Rows.floordiv_int h0 (g.toks R (.int _ _) q) (.inl hd)
theorem OP.modI (h0 : j ≠ 0) (q : Q (.int (i.fmod j)) σ) : OP prog w C Φ ρ σ .Mod (.int i) (.int j) Q:=fun A I s vx vy a R hx hy QQ E g=>by
 obtain ⟨_,rfl⟩:=hx.inv;obtain ⟨_,rfl⟩:=hy.inv;exact PyProof.Rows.mod_int h0 (g.toks R (.int _ _) q)
theorem OP.andI (q : Q (.int (Builtin.bitAnd i j)) σ) : OP prog w C Φ ρ σ .BitAnd (.int i) (.int j) Q:=fun A I s vx vy a R hx hy QQ E g=>by
 obtain ⟨_,rfl⟩:=hx.inv;obtain ⟨_,rfl⟩:=hy.inv;exact PyProof.Rows.and_int (g.toks R (.int _ _) q)
theorem OP.powI (h0 : 0 ≤ j) (h1 : j ≤ 1000000) (h2 : i.natAbs < 2 ^ 64) (q : Q (.int (i ^ j.toNat)) σ) : OP prog w C Φ ρ σ .Pow (.int i) (.int j) Q:=fun A I s vx vy a R hx hy QQ E g=>by
 obtain ⟨_,rfl⟩:=hx.inv;obtain ⟨_,rfl⟩:=hy.inv;exact PyProof.Rows.pow_int_small h0 h1 h2 (g.toks R (.int _ _) q)
theorem str_app {x y : List Nat} : (⟨x.toArray⟩ : Str) ++ (⟨y.toArray⟩ : Str) = ⟨(x ++ y).toArray⟩:=by
 show (⟨x.toArray ++ y.toArray⟩ : Str) = _
 simp
theorem str_len {x : List Nat} : (⟨x.toArray⟩ : Str).length = x.length:=by simp [Str.length]
theorem OP.addS {x y : List Nat} (hz : x.length + y.length ≤ sizeLine) (q : Q (.str (x ++ y)) σ) : OP prog w C Φ ρ σ .Add (.str x) (.str y) Q:=fun A I s vx vy a R hx hy QQ E g=>by
 obtain ⟨_,rfl⟩:=hx.inv;obtain ⟨_,rfl⟩:=hy.inv
 exact PyProof.Rows.add_str (fun t' tk=>by refine rr str_app ?_;exact g.toks R (.str _ _) q) (by simpa [str_len] using hz)
theorem Got.push {I : Im} {s : Shared} {QQ : Value→Shared→Prop} {v : V} {o : Obj} {tk : Nat} (g : Got w C Φ ρ I σ s Q QQ) (R : Rel w.params C Φ I ρ σ s) (h : ∀ I' : Im,(∀ b o,I b = some o→I' b = some o)→I' s.heap.objs.size = some o→VR C I' v (.ref s.heap.objs.size)) (hne : o.isFreed = false) (q : Q v σ) :
  QQ (.ref s.heap.objs.size) { s with heap:=s.heap.push o,toks:=tk }:=by
 haveI hn : s.heap.get? s.heap.objs.size = none:=Heap.get?_none_of_le (Nat.le_refl _)
 haveI G:=Gr.put (tk:=tk) (h':=s.heap.push o) (o:=o) R.im (fun b o e=>Heap.get?_push_of_some _ e) hn (Heap.get?_push_size _ hne)
 exact g.gr R G (h _ G.im Im.put_self) q
theorem EV.lstF {es : List Expr} {pos : Pos} (h : EA prog w C Φ pos es ρ σ (kLst Q)) : EV prog w C Φ (.List es pos) ρ σ Q:=by
 intro A I s a R QQ E g
 refine wpAny_List_spliced (h A I s a R _ E fun xs σ' I' s' vals ⟨hl,q⟩ hx R' k=>⟨by refine rr (hx.1 ..) ?_;exact hl,?_⟩)
 exact (g.after R' k).push R' (fun I'' im hI=>.mk_lst hI (hx.mono im)) rfl q
theorem EV.tupF {es : List Expr} {k : Nat} {pos : Pos} (h : EA prog w C Φ pos es ρ σ (kTup Q)) : EV prog w C Φ (.Tuple es k pos) ρ σ Q:=by
 intro A I s a R QQ E g
 refine wpAny_Tuple_spliced (h A I s a R _ E fun xs σ' I' s' vals ⟨hl,q⟩ hx R' k=>⟨by refine rr (hx.1 ..) ?_;exact hl,?_⟩)
 exact (g.after R' k).push R' (fun I'' im hI=>.mk_tup hI (hx.mono im)) rfl q
theorem Got.new {I : Im} {s : Shared} {QQ : Value→Shared→Prop} {c : Cell} {o : Obj} {tk : Nat} (g : Got w C Φ ρ I σ s Q QQ) (R : Rel w.params C Φ I ρ σ s) (hc : c.Is w.params C I o) (hne : o.isFreed = false) (q : ∀ a,Q (.ref a) ((a,c) :: σ)) :
  QQ (.ref s.heap.objs.size) { s with heap:=s.heap.push o,toks:=tk }:=by
 haveI hn : s.heap.get? s.heap.objs.size = none:=Heap.get?_none_of_le (Nat.le_refl _)
 haveI z:=R.new (tk:=tk) (c:=c) (o:=o) (h':=s.heap.push o) hn (fun b o e=>Heap.get?_push_of_some _ e) (Heap.get?_push_size _ hne) hc
 exact g _ _ I _ _ (q _) (.ref _) z.1 z.2
theorem EV.lstM {es : List Expr} {pos : Pos} (h : EA prog w C Φ pos es ρ σ (kNewL Q)) : EV prog w C Φ (.List es pos) ρ σ Q:=by
 intro A I s a R QQ E g
 refine wpAny_List_spliced (h A I s a R _ E fun xs σ' I' s' vals ⟨hl,q⟩ hx R' k=>⟨by refine rr (hx.1 ..) ?_;exact hl,?_⟩)
 exact (g.after R' k).new (c:=.lst xs) R' ⟨vals,0,rfl,hx⟩ rfl q
section
variable {Q : Bool→St→Prop}
theorem CO.eqI (q : Q (decide (i = j)) σ) : CO prog w C Φ ρ σ .Eq (.int i) (.int j) Q:=fun A I s vx vy a R hx hy QQ E g=>by
 obtain ⟨_,rfl⟩:=hx.inv;obtain ⟨_,rfl⟩:=hy.inv
 refine PyProof.Rows.eq_int (g.here R (.bool _) ⟨_,rfl,?_⟩)
 haveI : (i == j) = decide (i = j):=rfl
 refine rr this ?_;exact q
theorem CO.eqS {x y : List Nat} (q : Q (decide (x = y)) σ) : CO prog w C Φ ρ σ .Eq (.str x) (.str y) Q:=fun A I s vx vy a R hx hy QQ E g=>by
 obtain ⟨_,rfl⟩:=hx.inv;obtain ⟨_,rfl⟩:=hy.inv
 refine PySem.P.eq_str (g.here R (.bool _) ⟨_,rfl,?_⟩)
 haveI : (x.toArray.toList == y.toArray.toList) = decide (x = y):=by
  by_cases e : x = y
  ·simp [e]
  ·simp [e]
 refine rr this ?_;exact q
theorem CO.geI (q : Q (decide (j ≤ i)) σ) : CO prog w C Φ ρ σ .GtE (.int i) (.int j) Q:=fun A I s vx vy a R hx hy QQ E g=>by
 obtain ⟨_,rfl⟩:=hx.inv;obtain ⟨_,rfl⟩:=hy.inv;exact PyProof.Rows.ge_int (g.here R (.bool _) ⟨_,rfl,q⟩)
theorem CO.leI (q : Q (decide (i ≤ j)) σ) : CO prog w C Φ ρ σ .LtE (.int i) (.int j) Q:=fun A I s vx vy a R hx hy QQ E g=>by
 obtain ⟨_,rfl⟩:=hx.inv;obtain ⟨_,rfl⟩:=hy.inv;exact PyProof.Rows.le_int (g.here R (.bool _) ⟨_,rfl,q⟩)
theorem CO.gtI (q : Q (decide (j < i)) σ) : CO prog w C Φ ρ σ .Gt (.int i) (.int j) Q:=fun A I s vx vy a R hx hy QQ E g=>by
 obtain ⟨_,rfl⟩:=hx.inv;obtain ⟨_,rfl⟩:=hy.inv;exact PyProof.Rows.gt_int (g.here R (.bool _) ⟨_,rfl,q⟩)
theorem CO.neI (q : Q (!decide (i = j)) σ) : CO prog w C Φ ρ σ .NotEq (.int i) (.int j) Q:=fun A I s vx vy a R hx hy QQ E g=>by
 obtain ⟨_,rfl⟩:=hx.inv;obtain ⟨_,rfl⟩:=hy.inv
 refine PyProof.Rows.ne_int (g.here R (.bool _) ⟨_,rfl,?_⟩)
 haveI : (i != j) = !decide (i = j):=rfl
 refine rr this ?_;exact q
noncomputable def VI (ns : List Int) : V:=.lst (ns.map .int)
noncomputable def VS (ss : List (List Nat)) : V:=.lst (ss.map .str)
theorem VRs.ints {I : Im} {ns : List Int} {vs : List Value} (h : VRs C I (ns.map .int) vs) : IntsAre vs ns:=by
 induction ns generalizing vs with
 | nil=>refine rr (h.nil_inv ..) ?_;exact .nil
 | cons n ns ih =>
  obtain ⟨v,us,rfl,h1,h2⟩:=h.cons_inv
  obtain ⟨_,rfl⟩:=h1.inv
  exact .cons _ _ (ih h2)
noncomputable abbrev mkS (x : List Nat) : Str:=⟨x.toArray⟩
theorem VRs.strs {I : Im} {ss : List (List Nat)} {vs : List Value} (h : VRs C I (ss.map .str) vs) : StrsAre vs (ss.map mkS):=by
 induction ss generalizing vs with
 | nil=>refine rr (h.nil_inv ..) ?_;exact .nil
 | cons n ns ih =>
  obtain ⟨v,us,rfl,h1,h2⟩:=h.cons_inv
  obtain ⟨_,rfl⟩:=h1.inv
  exact .cons _ _ (ih h2)
theorem mkS_inj {x y : List Nat} (h : mkS x = mkS y) : x = y:=by
 haveI:=congrArg Str.cps h
 simpa using this
theorem eqAt_at {A : Around} {s : Shared} {I : Im} {x y : V} {vx vy : Value} (hx : VR C I x vx) (hy : VR C I y vy) :
  (∀ i j,x = .int i→y = .int j→SeqAt.EqAt A s vx vy (decide (i = j)))∧(∀ i j,x = .str i→y = .str j→SeqAt.EqAt A s vx vy (decide (i = j))):=by
 refine ⟨fun i j ex ey=>?_,fun i j ex ey=>?_⟩
 ·subst ex ey;obtain ⟨_,rfl⟩:=hx.inv;obtain ⟨_,rfl⟩:=hy.inv;exact SeqAt.EqAt.int_int _ _ _ _
 ·subst ex ey;obtain ⟨_,rfl⟩:=hx.inv;obtain ⟨_,rfl⟩:=hy.inv
  haveI e : (mkS i == mkS j) = decide (i = j):=by
   by_cases q : i = j
   ·subst q;simp
   ·refine rr (decide_eq_false q ..) ?_;exact beq_eq_false_iff_ne.mpr fun z=>q (mkS_inj z)
  refine rl e ?_;exact SeqAt.EqAt.str_str _ _ _ _
theorem all_idx {α : Type} [DecidableEq α] : ∀ (xs ys : List α),xs.length = ys.length→(List.range xs.length).all (fun i=>decide (xs[i]? = ys[i]?)) = decide (xs = ys)
 | xs,ys,h=>by
  by_cases q : xs = ys
  ·subst q;simp
  ·refine rr (decide_eq_false q ..) ?_
   rw [List.all_eq_false]
   apply Classical.byContradiction
   intro hn
   refine q (List.ext_getElem? fun i=>?_)
   by_cases z : i < xs.length
   ·apply Classical.byContradiction
    intro hne
    exact hn ⟨i,List.mem_range.mpr z,by simpa using hne⟩
   ·refine rr (List.getElem?_eq_none (by lia) ..) ?_;refine rr (List.getElem?_eq_none (by lia) ..) ?_;rfl
theorem rc_lists {α : Type} [DecidableEq α] {f : α→V} {A : Around} {s : Shared} {I : Im} {xs ys : List α} {l b : Addr} {vs us : List Value} (hf : ∀ x y vx vy,VR C I (f x) vx→VR C I (f y) vy→SeqAt.EqAt A.in1 s vx vy (decide (x = y)))
  (hl : s.heap.IsList l vs.toArray) (hb : s.heap.IsList b us.toArray) (hx : VRs C I (xs.map f) vs) (hy : VRs C I (ys.map f) us) (hu : A.units < cLine) : SeqAt.RcAt A s (.ref l) (.ref b) (decide (xs = ys)):=by
 haveI lx : vs.length = xs.length:=by simpa using hx.1
 haveI ly : us.length = ys.length:=by simpa using hy.1
 by_cases e : xs.length = ys.length
 ·haveI:=SeqAt.RcAt.lists (A:=A) (s:=s) (e:=fun i=>decide (xs[i]? = ys[i]?)) hl hb (by simp;lia) hu fun j h1 h2=>by
   haveI h1' : j < vs.length:=by simpa using h1
   haveI h2' : j < us.length:=by simpa using h2
   haveI hxj:=hx.2 j (f xs[j]) vs[j] (by simp [lx ▸ h1']) (List.getElem?_eq_getElem h1')
   haveI hyj:=hy.2 j (f ys[j]) us[j] (by simp [ly ▸ h2']) (List.getElem?_eq_getElem h2')
   haveI z:=hf _ _ _ _ hxj hyj
   haveI e1 : xs[j]? = some xs[j]:=List.getElem?_eq_getElem (by lia)
   haveI e2 : ys[j]? = some ys[j]:=List.getElem?_eq_getElem (by lia)
   refine rr e1 ?_;refine rr e2 ?_
   simpa using z
  haveI e3 : vs.toArray.size = xs.length:=by simp [lx]
  replace this:=e3 ▸ this;replace this:=(all_idx xs ys e ..) ▸ this
  exact this
 ·haveI:=SeqAt.RcAt.lists_lengths (A:=A) (s:=s) hl hb (by simp;lia) hu
  rw [decide_eq_false (fun q=>e (by rw [q]))]
  exact this
theorem isList_of {h : Heap} {l : Addr} {vs : List Value} {n : Nat} (e : h.get? l = some (listOf vs.toArray n)) : h.IsList l vs.toArray:=⟨_,e,rfl,_,rfl⟩
noncomputable def IsL (σ : St) (x : V) (xs : List V) : Prop:=x = .lst xs ∨ ∃ a,x = .ref a∧(a,.lst xs)∈σ
theorem IsL.at {P : Params} {I : Im} {s : Shared} {x : V} {xs : List V} {v : Value} (h : IsL σ x xs) (R : Rel P C Φ I ρ σ s) (hv : VR C I x v) : ∃ l vs n,v = .ref l∧s.heap.get? l = some (listOf vs.toArray n)∧VRs C I xs vs:=by
 rcases h with rfl | ⟨a,rfl,hm⟩
 ·obtain ⟨l,vs,n,rfl,hI,hvs⟩:=hv.lst_inv
  exact ⟨l,vs,n,rfl,R.im _ _ hI,hvs⟩
 ·obtain ⟨_,rfl⟩:=hv.inv
  obtain ⟨o,ho,vs,n,rfl,hvs⟩:=R.cell a _ hm
  exact ⟨a,vs,n,rfl,ho,hvs⟩
theorem CO.eqL_of {α : Type} [DecidableEq α] {f : α→V} (hf : ∀ (A : Around) (s : Shared) (I : Im) x y vx vy,VR C I (f x) vx→VR C I (f y) vy→SeqAt.EqAt A s vx vy (decide (x = y))) {x y : V} {xs ys : List α} (hx : IsL σ x (xs.map f)) (hy : IsL σ y (ys.map f)) (q : Q (decide (xs = ys)) σ) :
  CO prog w C Φ ρ σ .Eq x y Q:=fun A I s vx vy a R hvx hvy QQ E g=>by
 obtain ⟨l,vs,n,rfl,hl,hvs⟩:=hx.at R hvx
 obtain ⟨b,us,m,rfl,hb,hus⟩:=hy.at R hvy
 exact rc_lists (hf _ s I) (isList_of hl) (isList_of hb) hvs hus a.units prog w E QQ (g.here R (.bool _) ⟨_,rfl,q⟩)
theorem eqAt_int {A : Around} {s : Shared} {I : Im} (x y : Int) (vx vy : Value) (hx : VR C I (.int x) vx) (hy : VR C I (.int y) vy) : SeqAt.EqAt A s vx vy (decide (x = y)):=(eqAt_at hx hy).1 x y rfl rfl
theorem eqAt_str {A : Around} {s : Shared} {I : Im} (x y : List Nat) (vx vy : Value) (hx : VR C I (.str x) vx) (hy : VR C I (.str y) vy) : SeqAt.EqAt A s vx vy (decide (x = y)):=(eqAt_at hx hy).2 x y rfl rfl
theorem CO.eqLI {x y : V} {xs ys : List Int} (hx : IsL σ x (xs.map .int)) (hy : IsL σ y (ys.map .int)) (q : Q (decide (xs = ys)) σ) : CO prog w C Φ ρ σ .Eq x y Q:=CO.eqL_of (fun _ _ _=>eqAt_int) hx hy q
theorem rcne_lists {α : Type} [DecidableEq α] {f : α→V} {A : Around} {s : Shared} {I : Im} {xs ys : List α} {l b : Addr} {vs us : List Value} (hf : ∀ x y vx vy,VR C I (f x) vx→VR C I (f y) vy→SeqAt.EqAt A.in1 s vx vy (decide (x = y)))
  (hl : s.heap.IsList l vs.toArray) (hb : s.heap.IsList b us.toArray) (hx : VRs C I (xs.map f) vs) (hy : VRs C I (ys.map f) us) (hu : A.units < cLine) : SeqAt.RcNeAt A s (.ref l) (.ref b) (!decide (xs = ys)):=by
 haveI lx : vs.length = xs.length:=by simpa using hx.1
 haveI ly : us.length = ys.length:=by simpa using hy.1
 by_cases e : xs.length = ys.length
 ·haveI:=SeqAt.RcNeAt.lists (A:=A) (s:=s) (e:=fun i=>decide (xs[i]? = ys[i]?)) hl hb (by simp;lia) hu fun j h1 h2=>by
   haveI h1' : j < vs.length:=by simpa using h1
   haveI h2' : j < us.length:=by simpa using h2
   haveI hxj:=hx.2 j (f xs[j]) vs[j] (by simp [lx ▸ h1']) (List.getElem?_eq_getElem h1')
   haveI hyj:=hy.2 j (f ys[j]) us[j] (by simp [ly ▸ h2']) (List.getElem?_eq_getElem h2')
   haveI z:=hf _ _ _ _ hxj hyj
   haveI e1 : xs[j]? = some xs[j]:=List.getElem?_eq_getElem (by lia)
   haveI e2 : ys[j]? = some ys[j]:=List.getElem?_eq_getElem (by lia)
   refine rr e1 ?_;refine rr e2 ?_
   simpa using z
  haveI e3 : vs.toArray.size = xs.length:=by simp [lx]
  replace this:=e3 ▸ this;replace this:=(all_idx xs ys e ..) ▸ this
  exact this
 ·haveI:=SeqAt.RcNeAt.lists_lengths (A:=A) (s:=s) hl hb (by simp;lia) hu
  rw [decide_eq_false (fun q=>e (by rw [q]))]
  exact this
theorem CO.neL_of {α : Type} [DecidableEq α] {f : α→V} (hf : ∀ (A : Around) (s : Shared) (I : Im) x y vx vy,VR C I (f x) vx→VR C I (f y) vy→SeqAt.EqAt A s vx vy (decide (x = y))) {x y : V} {xs ys : List α} (hx : IsL σ x (xs.map f)) (hy : IsL σ y (ys.map f)) (q : Q (!decide (xs = ys)) σ) :
  CO prog w C Φ ρ σ .NotEq x y Q:=fun A I s vx vy a R hvx hvy QQ E g=>by
 obtain ⟨l,vs,n,rfl,hl,hvs⟩:=hx.at R hvx
 obtain ⟨b,us,m,rfl,hb,hus⟩:=hy.at R hvy
 exact rcne_lists (hf _ s I) (isList_of hl) (isList_of hb) hvs hus a.units prog w E QQ (g.here R (.bool _) ⟨_,rfl,q⟩)
theorem CO.neLI {x y : V} {xs ys : List Int} (hx : IsL σ x (xs.map .int)) (hy : IsL σ y (ys.map .int)) (q : Q (!decide (xs = ys)) σ) : CO prog w C Φ ρ σ .NotEq x y Q:=CO.neL_of (fun _ _ _=>eqAt_int) hx hy q
theorem CO.neLS {x y : V} {xs ys : List (List Nat)} (hx : IsL σ x (xs.map .str)) (hy : IsL σ y (ys.map .str)) (q : Q (!decide (xs = ys)) σ) : CO prog w C Φ ρ σ .NotEq x y Q:=CO.neL_of (fun _ _ _=>eqAt_str) hx hy q
set_option tactic.hygienic true in
theorem CO.notInLI {i : Int} {y : V} {ys : List Int} (hy : IsL σ y (ys.map .int)) (q : Q (!decide (i∈ys)) σ) : CO prog w C Φ ρ σ .NotIn (.int i) y Q:=fun A I s vx vy a R hvx hvy QQ E g=>by
 obtain ⟨l,vs,n,rfl,hl,hvs⟩:=hy.at R hvy
 obtain ⟨_,rfl⟩:=hvx.inv
 rename_i t
 have hi:=hvs.ints
 refine SeqAt.notIn_listAt (isInt i) (isList_of hl) (fun y hy=>(eq_isInt i t hi y (by simpa using hy)).at _ _) (g.here R (.bool _) ⟨_,rfl,?_⟩)
 haveI e : (vs.toArray.any (isInt i)) = decide (i∈ys):=by
  haveI : ∀ (vs : List Value) (ns : List Int),IntsAre vs ns→vs.any (isInt i) = decide (i∈ns):=by
   intro vs ns h
   induction h with
   | nil=>rfl
   | cons m t _ ih =>
    refine rr (List.any_cons ..) ?_;refine rr ih ?_
    by_cases q : i = m
    ·subst q;simp [isInt]
    ·haveI : isInt i (Value.int m t) = false:=by simp only [isInt];simpa using fun e=>q e.symm
     simp [this,q]
  refine rl (this vs ys hi ..) ?_;simp
 refine rr e ?_;exact q
end
end
end
section
noncomputable def K1 (prog : Program) (w : World) (C : Addr) (Φ : Fc) (ρ : List (Option V)) (A : Around) (I : Im) (σ : St) (s : Shared) (Q : List V→St→Prop) (QQ : Value→Shared→Prop) : Prop :=
 ∀ vals σ' I' s' It hid St,Q vals σ'→Src1 prog w C A It hid vals I' St→St 0 s'.heap→Rel w.params C Φ I' ρ σ' s'→Kp [] I σ I' σ' s s'→Off Φ hid I' σ'→(∀ b∈hid,s.heap.get? b = none)→QQ (.ref It) s'
noncomputable def K2 (prog : Program) (w : World) (C : Addr) (Φ : Fc) (ρ : List (Option V)) (A : Around) (I : Im) (σ : St) (s : Shared) (Q : List (V × V)→St→Prop) (QQ : Value→Shared→Prop) : Prop :=
 ∀ vals σ' I' s' It hid St,Q vals σ'→Src2 prog w C A It hid vals I' St→St 0 s'.heap→Rel w.params C Φ I' ρ σ' s'→Kp [] I σ I' σ' s s'→Off Φ hid I' σ'→(∀ b∈hid,s.heap.get? b = none)→QQ (.ref It) s'
theorem fresh_back {W : List Addr} {I I' : Im} {σ' : St} {s s' : Shared} (k : Kp W I σ I' σ' s s') {b : Addr} (h : s'.heap.get? b = none) : s.heap.get? b = none:=by
 cases z : s.heap.get? b with
 | none=>rfl
 | some o=>have:=k.alive b (by refine rr z ?_;rfl);replace this:=h ▸ this;exact ftm this
theorem K1.after {A : Around} {I I₁ : Im} {σ₁ : St} {s s₁ : Shared} {Q : List V→St→Prop} {QQ : Value→Shared→Prop} (g : K1 prog w C Φ ρ A I σ s Q QQ) (R₁ : Rel w.params C Φ I₁ ρ σ₁ s₁) (k : Kp [] I σ I₁ σ₁ s s₁) : K1 prog w C Φ ρ A I₁ σ₁ s₁ Q QQ :=
 fun vals σ' I' s' It hid St q S st R' k' O hn=>g vals σ' I' s' It hid St q S st R' (k.trans k' R₁.apartI) O fun b hb=>fresh_back k (hn b hb)
theorem K2.after {A : Around} {I I₁ : Im} {σ₁ : St} {s s₁ : Shared} {Q : List (V × V)→St→Prop} {QQ : Value→Shared→Prop} (g : K2 prog w C Φ ρ A I σ s Q QQ) (R₁ : Rel w.params C Φ I₁ ρ σ₁ s₁) (k : Kp [] I σ I₁ σ₁ s s₁) : K2 prog w C Φ ρ A I₁ σ₁ s₁ Q QQ :=
 fun vals σ' I' s' It hid St q S st R' k' O hn=>g vals σ' I' s' It hid St q S st R' (k.trans k' R₁.apartI) O fun b hb=>fresh_back k (hn b hb)
theorem off_new {I I' : Im} {s s' : Shared} (R : Rel w.params C Φ I ρ σ s) (G : Gr I I' s s') {hid : List Addr} (hn : ∀ b∈hid,s.heap.get? b = none) (hI : ∀ b∈hid,I' b = none) : Off Φ hid I' σ :=
 ⟨hI,fun b hb z=>(by obtain ⟨o,ho⟩:=R.key_alive z;replace ho:=(hn b hb ..) ▸ ho;exact nsm ho),fun b hb z=>(by obtain ⟨o,ho⟩:=R.own_alive z;replace ho:=(hn b hb ..) ▸ ho;exact nsm ho)⟩
theorem noI_of {I : Im} {s : Shared} (h : ∀ b o,I b = some o→s.heap.get? b = some o) {b : Addr} (hn : s.heap.get? b = none) : I b = none:=by
 cases z : I b with
 | none=>rfl
 | some o=>have:=h b o z;replace this:=hn ▸ this;exact nsm this
theorem K1.fin {A : Around} {I : Im} {s s' : Shared} {Q : List V→St→Prop} {QQ : Value→Shared→Prop} (g : K1 prog w C Φ ρ A I σ s Q QQ) (R : Rel w.params C Φ I ρ σ s) (G : Gr I I s s') {It : Addr} {hid : List Addr} {vals : List V} {St : Nat→Heap→Prop}
  (hn : ∀ b∈hid,s.heap.get? b = none) (S : Src1 prog w C A It hid vals I St) (st : St 0 s'.heap) (q : Q vals σ) : QQ (.ref It) s' :=
 g vals σ I s' It hid St q S st (R.grow G) G.kp (off_new R G hn fun b hb=>noI_of R.im (hn b hb)) hn
theorem K2.fin {A : Around} {I : Im} {s s' : Shared} {Q : List (V × V)→St→Prop} {QQ : Value→Shared→Prop} (g : K2 prog w C Φ ρ A I σ s Q QQ) (R : Rel w.params C Φ I ρ σ s) (G : Gr I I s s') {It : Addr} {hid : List Addr} {vals : List (V × V)} {St : Nat→Heap→Prop}
  (hn : ∀ b∈hid,s.heap.get? b = none) (S : Src2 prog w C A It hid vals I St) (st : St 0 s'.heap) (q : Q vals σ) : QQ (.ref It) s' :=
 g vals σ I s' It hid St q S st (R.grow G) G.kp (off_new R G hn fun b hb=>noI_of R.im (hn b hb)) hn
noncomputable def IB1 (prog : Program) (w : World) (C : Addr) (Φ : Fc) (ρ : List (Option V)) (σ : St) (id : String) (xs : List V) (Q : List V→St→Prop) : Prop :=
 ∀ A I s vals,AOk Φ A→Rel w.params C Φ I ρ σ s→VRs C I xs vals→∀ (QQ : Value→Shared→Prop) (E : Value→Shared→Prop),K1 prog w C Φ ρ A I σ s Q QQ →
  wpAny (model prog w) A (call (.type id) vals) (fun xv s₁=>wpAny (model prog w) A (pyIter xv) QQ E s₁) E s
noncomputable def IB2 (prog : Program) (w : World) (C : Addr) (Φ : Fc) (ρ : List (Option V)) (σ : St) (id : String) (xs : List V) (Q : List (V × V)→St→Prop) : Prop :=
 ∀ A I s vals,AOk Φ A→Rel w.params C Φ I ρ σ s→VRs C I xs vals→∀ (QQ : Value→Shared→Prop) (E : Value→Shared→Prop),K2 prog w C Φ ρ A I σ s Q QQ →
  wpAny (model prog w) A (call (.type id) vals) (fun xv s₁=>wpAny (model prog w) A (pyIter xv) QQ E s₁) E s
noncomputable abbrev kIB1 (prog : Program) (w : World) (C : Addr) (Φ : Fc) (ρ : List (Option V)) (id : String) (Q : List V→St→Prop) : List V→St→Prop:=fun xs σ₁=>IB1 prog w C Φ ρ σ₁ id xs Q
noncomputable abbrev kIB2 (prog : Program) (w : World) (C : Addr) (Φ : Fc) (ρ : List (Option V)) (id : String) (Q : List (V × V)→St→Prop) : List V→St→Prop:=fun xs σ₁=>IB2 prog w C Φ ρ σ₁ id xs Q
theorem IE1.ofCall (Ok : Φ.Ok) (hb : Φ.env.builtins = builtinsNs) {mg mb : Str→Option Value} (T : Tx Φ.h₀ mg mb) {x : Str} {p pos : Pos} {e : Expr} {args : List Expr} {id : String} {Q : List V→St→Prop} (hx : Φ.env.kindOf x = some .globalImplicit)
  (hd : (x == ("__debug__" : Str)) = false) (hm : mg x = none) (hv : bootBuiltins x = some (.type id)) (hn : x ≠ ("__name__" : Str)) (he : starEach (e :: args) Φ.env = (false,eval e Φ.env) :: starEach args Φ.env) (hpl : (backTo pos (starEach args Φ.env)).any (·.1) = false)
  (h : EA prog w C Φ pos (e :: args) ρ σ (kIB1 prog w C Φ ρ id Q)) : IE1 prog w C Φ (.Call (.Name x p) (e :: args) [] pos) ρ σ Q:=by
 intro A I s a R QQ E g
 refine Call_Name rfl (load_boot Ok hb T R hx hd hm hv hn ?_)
 refine rr he ?_
 refine PyProof.Rows.callWith_type (by show (false || (backTo pos (starEach args Φ.env)).any (·.1)) = false;refine rr hpl ?_;rfl) (Calls.evalArgs_plain ?_)
 haveI h':=h A I s a R (fun vs s₁=>wpAny (model prog w) A (call (.type id) vs) (fun xv s₁=>wpAny (model prog w) A (pyIter xv) QQ E s₁) E s₁) E fun xs σ₁ I₁ s₁ vals q hxs R₁ k₁ =>
  q A I₁ s₁ vals a R₁ hxs QQ E (K1.after (show K1 prog w C Φ ρ A I σ s Q QQ from g) R₁ k₁)
 replace h':=he ▸ h'
 exact h'
theorem IE2.ofCall (Ok : Φ.Ok) (hb : Φ.env.builtins = builtinsNs) {mg mb : Str→Option Value} (T : Tx Φ.h₀ mg mb) {x : Str} {p pos : Pos} {e : Expr} {args : List Expr} {id : String} {Q : List (V × V)→St→Prop} (hx : Φ.env.kindOf x = some .globalImplicit)
  (hd : (x == ("__debug__" : Str)) = false) (hm : mg x = none) (hv : bootBuiltins x = some (.type id)) (hn : x ≠ ("__name__" : Str)) (he : starEach (e :: args) Φ.env = (false,eval e Φ.env) :: starEach args Φ.env) (hpl : (backTo pos (starEach args Φ.env)).any (·.1) = false)
  (h : EA prog w C Φ pos (e :: args) ρ σ (kIB2 prog w C Φ ρ id Q)) : IE2 prog w C Φ (.Call (.Name x p) (e :: args) [] pos) ρ σ Q:=by
 intro A I s a R QQ E g
 refine Call_Name rfl (load_boot Ok hb T R hx hd hm hv hn ?_)
 refine rr he ?_
 refine PyProof.Rows.callWith_type (by show (false || (backTo pos (starEach args Φ.env)).any (·.1)) = false;refine rr hpl ?_;rfl) (Calls.evalArgs_plain ?_)
 haveI h':=h A I s a R (fun vs s₁=>wpAny (model prog w) A (call (.type id) vs) (fun xv s₁=>wpAny (model prog w) A (pyIter xv) QQ E s₁) E s₁) E fun xs σ₁ I₁ s₁ vals q hxs R₁ k₁ =>
  q A I₁ s₁ vals a R₁ hxs QQ E (K2.after (show K2 prog w C Φ ρ A I σ s Q QQ from g) R₁ k₁)
 replace h':=he ▸ h'
 exact h'
noncomputable def rng (a b : Int) : List Int:=(List.range (b - a).toNat).map fun (k : Nat)=>a + k
theorem rng_len {a b : Int} : (rng a b).length = (b - a).toNat:=by simp [rng]
theorem iter_range (hh : Φ.hd = none) {A : Around} (ak : AOk Φ A) {I : Im} {s : Shared} {a b : Int} (ha : -(2 ^ 62) ≤ a∧a < 2 ^ 62) (hb : -(2 ^ 62) ≤ b∧b < 2 ^ 62) {r : Addr} {t u v : Tok} (hr : IsRange s.heap r a b 1 t u v) (R : Rel w.params C Φ I ρ σ s)
  {Q : List V→St→Prop} {QQ : Value→Shared→Prop} {E : Value→Shared→Prop} (g : K1 prog w C Φ ρ A I σ s Q QQ) (q : Q ((rng a b).map .int) σ) : wpAny (model prog w) A (pyIter (.ref r)) QQ E s:=by
 refine wpAny_pyIter_range hr (small_one ha.1 ha.2 hb.1 hb.2) ?_
 haveI hn : s.heap.get? s.heap.objs.size = none:=Heap.get?_none_of_le (Nat.le_refl _)
 haveI W:=Walks.range (prog:=prog) (w:=w) (A:=A) (ak.hd.trans hh) s.heap.objs.size a 1 (rng a b).length
 haveI e : (Builtin.Range.rangeSize a b 1) = ((rng a b).length : Int):=by
  rw [rangeSize_one,rng_len];split <;> lia
 refine g.fin R (Gr.same (tk:=s.toks) R.im fun b o e=>Heap.get?_push_of_some _ e) (hid:=[s.heap.objs.size]) (vals:=(rng a b).map .int) (St:=fun i h=>IsRangeIter h s.heap.objs.size (a + ↑i * 1) (((rng a b).length : Int) - ↑i) 1) (fun b hb=>by refine rr (List.mem_singleton.mp hb ..) ?_;exact hn) ⟨⟨[s.heap.objs.size],[s.heap.objs.size],(fun i v=>i < (rng a b).length∧∃ t,v = Value.int (a + ↑i * 1) t),?_,fun _ h=>h,fun k v ⟨hk,t,hv⟩=>?_,fun b hb=>.inl hb⟩,fun k h st b hb=>?_⟩ ?_ q
 ·refine rr (List.length_map ..) ?_
  exact W.bound
 ·subst hv
  refine ⟨.int (a + k),?_,?_⟩
  ·rw [List.getElem?_map,rng,List.getElem?_map,List.getElem?_range (by rw [rng_len] at hk;exact hk)];rfl
  ·haveI e1 : a + (k : Int) * 1 = a + k:=by lia
   refine rr e1 ?_;exact .int _ _
 ·refine rr (List.mem_singleton.mp hb ..) ?_
  haveI : h.get? s.heap.objs.size = some _:=st
  refine rr this ?_;rfl
 ·show IsRangeIter _ _ _ _ _
  haveI e0 : a + ((0 : Nat) : Int) * 1 = a:=by lia
  haveI e1 : ((rng a b).length : Int) - ((0 : Nat) : Int) = Builtin.Range.rangeSize a b 1:=by refine rr e ?_;lia
  refine rr e0 ?_;refine rr e1 ?_
  exact Heap.get?_push_size _ rfl
theorem IB1.range1 (hh : Φ.hd = none) {b : Int} (hb : -(2 ^ 62) ≤ b∧b < 2 ^ 62) {Q : List V→St→Prop} (q : Q ((rng 0 b).map .int) σ) : IB1 prog w C Φ ρ σ "range" [.int b] Q:=by
 intro A I s vals a R hx QQ E g
 obtain ⟨v,rfl,h1⟩:=hx.inv1
 obtain ⟨_,rfl⟩:=h1.inv
 refine call_range_1 ?_
 haveI G : Gr I I s { s with heap:=s.heap.push { cls:=.type "range",data:=.fields #[.int 0 s.toks,.int b ‹_›,.int 1 (s.toks + 1)] },toks:=s.toks + 1 + 1 }:=Gr.same R.im fun b o e=>Heap.get?_push_of_some _ e
 exact iter_range hh a (by decide) hb (IsRange.new _ _ _ _ _ _ _) (R.grow G) (g.after (R.grow G) G.kp) q
set_option tactic.hygienic true in
theorem IB1.range2 (hh : Φ.hd = none) {a₀ b : Int} (ha : -(2 ^ 62) ≤ a₀∧a₀ < 2 ^ 62) (hb : -(2 ^ 62) ≤ b∧b < 2 ^ 62) {Q : List V→St→Prop} (q : Q ((rng a₀ b).map .int) σ) : IB1 prog w C Φ ρ σ "range" [.int a₀,.int b] Q:=by
 intro A I s vals a R hx QQ E g
 obtain ⟨v,v,rfl,h1,h2⟩:=hx.inv2
 obtain ⟨_,rfl⟩:=h1.inv;obtain ⟨_,rfl⟩:=h2.inv
 rename_i t u
 refine call_range_2 ?_
 haveI G : Gr I I s { s with heap:=s.heap.push { cls:=.type "range",data:=.fields #[.int a₀ t,.int b u,.int 1 s.toks] },toks:=s.toks + 1 }:=Gr.same R.im fun b o e=>Heap.get?_push_of_some _ e
 exact iter_range hh a ha hb (IsRange.new _ _ _ _ _ _ _) (R.grow G) (g.after (R.grow G) G.kp) q
inductive QStr (Q : List V→St→Prop) (v : V) (σ : St) : Prop | mk (x : List Nat) (e : v = .str x) (q : Q (x.map fun c=>.str [c]) σ)
set_option tactic.hygienic true in
theorem IE1.str (hh : Φ.hd = none) {iter : Expr} {Q : List V→St→Prop} (h : EV prog w C Φ iter ρ σ (QStr Q)) : IE1 prog w C Φ iter ρ σ Q:=by
 intro A I s a R QQ E g
 refine h A I s a R _ E fun v σ' I' s' val z0 hv R' k'=>?_
 obtain ⟨x,hv',q⟩:=z0
 subst hv'
 obtain ⟨_,rfl⟩:=hv.inv
 rename_i t
 haveI g':=K1.after (show K1 prog w C Φ ρ A I σ s Q QQ from g) R' k'
 refine wpAny_pyIter_strU ?_
 haveI hn : s'.heap.get? s'.heap.objs.size = none:=Heap.get?_none_of_le (Nat.le_refl _)
 haveI W : Walks prog w A s'.heap.objs.size [s'.heap.objs.size] [s'.heap.objs.size] (mkS x).cps.size (SignAt (mkS x)) (fun i h=>h.IsStrIter s'.heap.objs.size (strIterType (mkS x)) (mkS x) t i):=by
  unfold strIterType
  split
  ·exact Walks.strAscii (a.hd.trans hh) _ _ _
  ·exact Walks.strWide (a.hd.trans hh) _ _ _
 refine g'.fin (St:=fun i h=>h.IsStrIter s'.heap.objs.size (strIterType (mkS x)) (mkS x) t i) R' (Gr.same (tk:=s'.toks) R'.im fun b o e=>Heap.get?_push_of_some _ e) (hid:=[s'.heap.objs.size]) (vals:=x.map fun c=>.str [c]) (fun b hb=>by refine rr (List.mem_singleton.mp hb ..) ?_;exact hn) ⟨⟨_,_,SignAt (mkS x),?_,fun _ h=>h,fun k v hv=>?_,fun b hb=>.inl hb⟩,fun k h st b hb=>?_⟩ ?_ q
 ·refine rr (List.length_map ..) ?_
  exact W
 ·obtain ⟨c,u,h1,rfl⟩:=hv
  refine ⟨.str [c],?_,.str _ _⟩
  haveI : x[k]? = some c:=by simpa using h1
  refine rr (List.getElem?_map ..) ?_;refine rr this ?_;rfl
 ·refine rr (List.mem_singleton.mp hb ..) ?_
  obtain ⟨o,ho,_⟩:=st
  refine rr ho ?_;rfl
 ·exact ⟨_,Heap.get?_push_size _ rfl,rfl,rfl⟩
end
section
noncomputable def enum (xs : List V) : List (V × V):=(List.range xs.length).map fun (k : Nat)=>(.int k,xs.getD k .none)
theorem enum_len {xs : List V} : (enum xs).length = xs.length:=by simp [enum]
theorem enum_get {xs : List V} {k : Nat} {x : V} (h : xs[k]? = some x) : (enum xs)[k]? = some (.int k,x):=by
 haveI hk:=(List.getElem?_eq_some_iff.mp h).1
 rw [enum];refine rr (List.getElem?_map ..) ?_;refine rr (List.getElem?_range hk ..) ?_
 simp [h]
theorem IB2.enumerate (hh : Φ.hd = none) {xs : List V} {Q : List (V × V)→St→Prop} (q : Q (enum xs) σ) : IB2 prog w C Φ ρ σ "enumerate" [.lst xs] Q:=by
 intro A I s vals a R hx QQ E g
 obtain ⟨v,rfl,h1⟩:=hx.inv1
 obtain ⟨l,vs,n,rfl,hI,hvs⟩:=h1.lst_inv
 have hl:=R.im _ _ hI
 have hlt : l < s.heap.objs.size:=Heap.lt_size hl
 haveI hl0 : s.heap.IsList l vs.toArray:=isList_of hl
 refine call_enumerate_list hl0 fun h' e1 e2 _ kk=>?_
 haveI W:=(WalksT.enumerate (prog:=prog) (w:=w) (A:=A) (a.hd.trans hh) (s.heap.objs.size + 1) s.heap.objs.size l (Nat.succ_ne_self _) (Nat.ne_of_lt (Nat.lt_succ_of_lt hlt)) (Nat.ne_of_lt hlt) vs.toArray).toU
 have hlen : vs.toArray.size = (enum xs).length:=by refine rr enum_len ?_;simp [hvs.1]
 replace W:=hlen ▸ W
 have st0 : (fun (i : Nat) h=>(∃ old,IsEnum h (s.heap.objs.size + 1) s.heap.objs.size (↑i) old)∧h.IsListIter s.heap.objs.size l i∧h.IsList l vs.toArray) 0 h' :=
  ⟨⟨_,e1⟩,e2,isList_of (kk _ _ hl)⟩
 refine W.self 0 _ _ E st0 ?_
 haveI hn : ∀ b∈[s.heap.objs.size + 1,s.heap.objs.size],s.heap.get? b = none:=fun b hb=>Heap.get?_none_of_le (by
  rcases List.mem_cons.mp hb with rfl | hb
  ·exact Nat.le_succ _
  ·refine rr (List.mem_singleton.mp hb ..) ?_;exact Nat.le_refl _)
 refine g.fin (vals:=enum xs) (St:=fun (i : Nat) h=>(∃ old,IsEnum h (s.heap.objs.size + 1) s.heap.objs.size (↑i) old)∧h.IsListIter s.heap.objs.size l i∧h.IsList l vs.toArray) R (Gr.same (tk:=s.toks) R.im kk) hn ⟨⟨_,_,_,_,W,fun b hb=>hb,fun k v hv=>?_,fun b hb=>?_⟩,fun k h st b hb=>?_⟩ st0 q
 ·obtain ⟨t,x,hx',rfl⟩:=hv
  haveI hx'' : vs[k]? = some x:=by simpa using hx'
  obtain ⟨y,hy,r⟩:=hvs.get' hx''
  exact ⟨_,_,_,_,enum_get hy,rfl,.int _ _,r⟩
 ·rcases List.mem_cons.mp hb with rfl | hb
  ·exact .inl (.head _)
  ·rcases List.mem_cons.mp hb with rfl | hb
   ·exact .inl (.tail _ (.head _))
   ·refine rr (List.mem_singleton.mp hb ..) ?_;exact .inr (by refine rr hI ?_;rfl)
 ·obtain ⟨⟨old,he⟩,⟨o,ho,_⟩,_⟩:=st
  rcases List.mem_cons.mp hb with rfl | hb
  ·have : h.get? (s.heap.objs.size + 1) = some _:=he
   refine rr this ?_;rfl
  ·refine rr (List.mem_singleton.mp hb ..) ?_;refine rr ho ?_;rfl
theorem IB2.zip (hh : Φ.hd = none) {xs ys : List V} {Q : List (V × V)→St→Prop} (q : Q (xs.zip ys) σ) : IB2 prog w C Φ ρ σ "zip" [.lst xs,.lst ys] Q:=by
 intro A I s vals a R hx QQ E g
 obtain ⟨v,v,rfl,h1,h2⟩:=hx.inv2
 obtain ⟨l,vs,n,rfl,hI,hvs⟩:=h1.lst_inv
 obtain ⟨l2,us,m,rfl,hI2,hus⟩:=h2.lst_inv
 have hl:=R.im _ _ hI
 have hl2:=R.im _ _ hI2
 haveI hlt : l < s.heap.objs.size:=Heap.lt_size hl
 haveI hlt2 : l2 < s.heap.objs.size:=Heap.lt_size hl2
 refine call_zip_2 (isList_of hl) (isList_of hl2) fun h' e1 e2 e3 e4 e5 _ kk=>?_
 haveI W:=(WalksT.zip2 (prog:=prog) (w:=w) (A:=A) (a.hd.trans hh) _ _ _ _ _ l l2 (zipApart_new hlt hlt2) vs.toArray us.toArray).toU
 haveI hlen : min vs.toArray.size us.toArray.size = (xs.zip ys).length:=by simp [hvs.1,hus.1]
 replace W:=hlen ▸ W
 have st0:=(⟨e1,e2,⟨_,_,e3⟩,e4,e5,isList_of (kk _ _ hl),isList_of (kk _ _ hl2)⟩ : IsZip h' (s.heap.objs.size + 4) (s.heap.objs.size + 2) (s.heap.objs.size + 3) Value.none∧IsPair h' (s.heap.objs.size + 2) (.ref s.heap.objs.size) (.ref (s.heap.objs.size + 1)) ∧
  (∃ a b,IsPair h' (s.heap.objs.size + 3) a b)∧h'.IsListIter s.heap.objs.size l 0∧h'.IsListIter (s.heap.objs.size + 1) l2 0∧h'.IsList l vs.toArray∧h'.IsList l2 us.toArray)
 refine W.self 0 _ _ E st0 ?_
 haveI mm : ∀ b∈[s.heap.objs.size + 4,s.heap.objs.size + 2,s.heap.objs.size + 3,s.heap.objs.size,s.heap.objs.size + 1],s.heap.objs.size ≤ b:=fun b hb=>by
  simp only [List.mem_cons,List.not_mem_nil,or_false] at hb
  rcases hb with rfl | rfl | rfl | rfl | rfl <;> omega
 haveI hn : ∀ b∈[s.heap.objs.size + 4,s.heap.objs.size + 2,s.heap.objs.size + 3,s.heap.objs.size,s.heap.objs.size + 1],s.heap.get? b = none:=fun b hb=>Heap.get?_none_of_le (mm b hb)
 refine g.fin (vals:=xs.zip ys) (hid:=[s.heap.objs.size + 4,s.heap.objs.size + 2,s.heap.objs.size + 3,s.heap.objs.size,s.heap.objs.size + 1]) (St:=fun i h=>IsZip h (s.heap.objs.size + 4) (s.heap.objs.size + 2) (s.heap.objs.size + 3) Value.none∧IsPair h (s.heap.objs.size + 2) (.ref s.heap.objs.size) (.ref (s.heap.objs.size + 1)) ∧
  (∃ a b,IsPair h (s.heap.objs.size + 3) a b)∧h.IsListIter s.heap.objs.size l i∧h.IsListIter (s.heap.objs.size + 1) l2 i∧h.IsList l vs.toArray∧h.IsList l2 us.toArray) R (Gr.same (tk:=s.toks) R.im kk) hn ⟨⟨_,_,_,_,W,fun b hb=>?_,fun k v hv=>?_,fun b hb=>?_⟩,fun k h st b hb=>?_⟩ st0 q
 ·simp only [List.mem_cons,List.not_mem_nil,or_false] at hb ⊢
  rcases hb with rfl | rfl | rfl | rfl <;> simp
 ·obtain ⟨x,y,hx',hy',rfl⟩:=hv
  have hx'' : vs[k]? = some x:=by simpa using hx'
  have hy'' : us[k]? = some y:=by simpa using hy'
  obtain ⟨x',hx3,r⟩:=hvs.get' hx''
  obtain ⟨y',hy3,r'⟩:=hus.get' hy''
  exact ⟨x',y',x,y,List.getElem?_zip_eq_some.mpr ⟨hx3,hy3⟩,rfl,r,r'⟩
 ·simp only [List.mem_cons,List.not_mem_nil,or_false] at hb ⊢
  rcases hb with rfl | rfl | rfl | rfl | rfl | rfl | rfl
  ·simp
  ·simp
  ·simp
  ·simp
  ·simp
  ·exact .inr (by refine rr hI ?_;rfl)
  ·exact .inr (by refine rr hI2 ?_;rfl)
 ·obtain ⟨z1,z2,⟨_,_,z3⟩,⟨_,z4,_⟩,⟨_,z5,_⟩,_⟩:=st
  haveI z1 : h.get? (s.heap.objs.size + 4) = some _:=z1
  haveI z2 : h.get? (s.heap.objs.size + 2) = some _:=z2
  haveI z3 : h.get? (s.heap.objs.size + 3) = some _:=z3
  simp only [List.mem_cons,List.not_mem_nil,or_false] at hb
  rcases hb with rfl | rfl | rfl | rfl | rfl
  ·refine rr z1 ?_;rfl
  ·refine rr z2 ?_;rfl
  ·refine rr z3 ?_;rfl
  ·refine rr z4 ?_;rfl
  ·refine rr z5 ?_;rfl
inductive QPrs (Q : List (V × V)→St→Prop) (v : V) (σ : St) : Prop | mk (ps : List (V × V)) (e : v = .lst (ps.map fun p=>.tup [p.1,p.2])) (q : Q ps σ)
theorem IE2.pairs (hh : Φ.hd = none) {iter : Expr} {Q : List (V × V)→St→Prop} (h : EV prog w C Φ iter ρ σ (QPrs Q)) : IE2 prog w C Φ iter ρ σ Q:=by
 intro A I s a R QQ E g
 refine h A I s a R _ E fun v σ' I' s' val z0 hv R' k'=>?_
 obtain ⟨ps,hv',q⟩:=z0
 subst hv'
 haveI g':=K2.after (show K2 prog w C Φ ρ A I σ s Q QQ from g) R' k'
 obtain ⟨l,vs,n,rfl,hI,hvs⟩:=hv.lst_inv
 have hl:=R'.im _ _ hI
 have hlt : l < s'.heap.objs.size:=Heap.lt_size hl
 refine wpAny_pyIter_list (isList_of hl) ?_
 have hn : s'.heap.get? s'.heap.objs.size = none:=Heap.get?_none_of_le (Nat.le_refl _)
 have lv : vs.length = ps.length:=by simpa using hvs.1
 have key : ∀ j,∃ (T : Addr) (vv : Array Value),j < ps.length→vs[j]? = some (.ref T)∧(∃ n,I' T = some (tupOf vv n))∧XGet2 C I' ps vv j:=fun j=>by
  by_cases hj : j < ps.length
  ·haveI h1 : vs[j]? = some vs[j]:=List.getElem?_eq_getElem (by omega)
   haveI h2:=hvs.2 j (.tup [ps[j].1,ps[j].2]) vs[j] (by simp [hj]) h1
   obtain ⟨T,us,m,e,hT,hus⟩:=h2.tup_inv
   obtain ⟨c,d,rfl,hc,hd⟩:=hus.inv2
   exact ⟨T,#[c,d],fun _=>⟨by refine rr h1 ?_;refine rr e ?_;rfl,⟨m,hT⟩,ps[j].1,ps[j].2,c,d,List.getElem?_eq_getElem hj,rfl,hc,hd⟩⟩
  ·exact ⟨0,#[],fun q=>absurd q hj⟩
 let Ts : Nat→Addr:=fun j=>(key j).choose
 let vv : Nat→Array Value:=fun j=>(key j).choose_spec.choose
 have ks : ∀ j,j < ps.length→vs[j]? = some (.ref (Ts j))∧(∃ n,I' (Ts j) = some (tupOf (vv j) n))∧XGet2 C I' ps (vv j) j:=fun j=>(key j).choose_spec.choose_spec
 have hsz : vs.toArray.size = ps.length:=by simp [lv]
 haveI W:=WalksU.listOfTuples (prog:=prog) (w:=w) (A:=A) (a.hd.trans hh) s'.heap.objs.size l (Nat.ne_of_lt hlt) vs.toArray Ts vv (fun j hj=>by simpa using (ks j (by omega)).1)
  (fun j hj=>by
   obtain ⟨_,⟨n,hT⟩,_⟩:=ks j (by omega)
   exact Nat.ne_of_lt (Heap.lt_size (R'.im _ _ hT)))
 replace W:=hsz ▸ W
 have kk : ∀ b o,s'.heap.get? b = some o→(s'.heap.push { cls:=.type "list_iterator",data:=.fields #[.ref l,.int 0 0] }).get? b = some o:=fun b o e=>Heap.get?_push_of_some _ e
 refine g'.fin (vals:=ps) (hid:=[s'.heap.objs.size]) R' (Gr.same (tk:=s'.toks) R'.im kk) (fun b hb=>by refine rr (List.mem_singleton.mp hb ..) ?_;exact hn) (St:=fun j h=>h.IsListIter s'.heap.objs.size l j∧h.IsList l vs.toArray∧∀ k,k < ps.length→h.IsTuple (Ts k) (vv k)) ⟨⟨_,_,_,_,W.bound,fun b hb=>hb,fun k v hv=>?_,fun b hb=>?_⟩,fun k h st b hb=>?_⟩
  ⟨⟨_,Heap.get?_push_size _ rfl,rfl,rfl⟩,isList_of (kk _ _ hl),fun k hk=>?_⟩ q
 ·obtain ⟨hk,rfl⟩:=hv
  exact (ks k hk).2.2
 ·rcases List.mem_cons.mp hb with rfl | hb
  ·exact .inl (.head _)
  ·rcases List.mem_cons.mp hb with rfl | hb
   ·exact .inr (by refine rr hI ?_;rfl)
   ·obtain ⟨j,hj,rfl⟩:=List.mem_map.mp hb
    obtain ⟨_,⟨n,hT⟩,_⟩:=ks j (List.mem_range.mp hj)
    exact .inr (by refine rr hT ?_;rfl)
 ·refine rr (List.mem_singleton.mp hb ..) ?_
  obtain ⟨⟨o,ho,_⟩,_⟩:=st
  refine rr ho ?_;rfl
 ·obtain ⟨_,⟨n,hT⟩,_⟩:=ks k hk
  exact ⟨_,kk _ _ (R'.im _ _ hT),rfl,n,rfl⟩
end
section
noncomputable def HasT (σ : St) : V→String→Prop
 | .str _,T=>T = "str"
 | .lst _,T=>T = "list"
 | .tup _,T=>T = "tuple"
 | .ref a,T=>(∃ xs,(a,Cell.lst xs)∈σ∧T = "list") ∨ (∃ es,(a,Cell.dct es)∈σ∧T = "dict")
 | _,_=>False
theorem HasT.at {P : Params} {I : Im} {s : Shared} {v : V} {val : Value} {T : String} (h : HasT σ v T) (R : Rel P C Φ I ρ σ s) (hv : VR C I v val) : s.TypeIs val T∧∀ a,val = .ref a→∃ o,s.heap.get? a = some o∧o.dict = none:=by
 cases v with
 | str x=>obtain ⟨_,rfl⟩:=hv.inv;cases h;exact ⟨typeIs_str _ _ _,fun a e=>nomatch e⟩
 | lst xs =>
  cases h
  obtain ⟨a,vs,n,rfl,hI,_⟩:=hv.lst_inv
  exact ⟨⟨_,R.im _ _ hI,rfl⟩,fun b e=>by cases e;exact ⟨_,R.im _ _ hI,rfl⟩⟩
 | tup xs =>
  cases h
  obtain ⟨a,vs,n,rfl,hI,_⟩:=hv.tup_inv
  exact ⟨⟨_,R.im _ _ hI,rfl⟩,fun b e=>by cases e;exact ⟨_,R.im _ _ hI,rfl⟩⟩
 | ref a =>
  obtain ⟨_,rfl⟩:=hv.inv
  rcases h with ⟨xs,hm,rfl⟩ | ⟨es,hm,rfl⟩
  ·obtain ⟨o,ho,vs,n,rfl,_⟩:=R.cell a _ hm
   exact ⟨⟨_,ho,rfl⟩,fun b e=>by cases e;exact ⟨_,ho,rfl⟩⟩
  ·obtain ⟨o,ho,kvs,⟨_,_,_,es',ep,hx,_⟩,_⟩:=R.cell a _ hm
   exact ⟨⟨_,ho,hx.1⟩,fun b e=>by cases e;exact ⟨_,ho,hx.2.1⟩⟩
 | _=>exact h.elim
noncomputable abbrev kM (prog : Program) (w : World) (C : Addr) (Φ : Fc) (T : String) (pos : Pos) (es : List Expr) (ρ : List (Option V)) (id : String) (Q : QV) : V→St→Prop:=fun ov σ₁=>HasT σ₁ ov T∧EA prog w C Φ pos es ρ σ₁ (kM2 prog w C Φ ρ id ov Q)
noncomputable abbrev kM0 (prog : Program) (w : World) (C : Addr) (Φ : Fc) (T : String) (ρ : List (Option V)) (id : String) (Q : QV) : V→St→Prop:=fun ov σ₁=>HasT σ₁ ov T∧BJ prog w C Φ ρ σ₁ id [ov] Q
inductive Me : String→String→Str→Prop
 | append : Me "list" "list.append" "append"
 | extend : Me "list" "list.extend" "extend"
 | count : Me "list" "list.count" "count"
 | pop : Me "list" "list.pop" "pop"
 | join : Me "str" "str.join" "join"
 | split : Me "str" "str.split" "split"
 | lstrip : Me "str" "str.lstrip" "lstrip"
 | setdefault : Me "dict" "dict.setdefault" "setdefault"
inductive MeE (T id : String) (name : Str) : Prop | mk (pa : PlainAttrs T) (slot : Slot T name id) (hty : typeOf (.builtin id) = pure (.type "method_descriptor"))
theorem Me.e {T id : String} {name : Str} : Me T id name→MeE T id name
 | .append=>⟨PySem.F.plainAttrs_list,PySem.F.slot_list_append,PySem.F.type_list_append⟩
 | .extend=>⟨PySem.F.plainAttrs_list,PySem.F.slot_list_extend,PySem.F.type_list_extend⟩
 | .count=>⟨PySem.F.plainAttrs_list,PySem.F.slot_list_count,PySem.F.type_list_count⟩
 | .pop=>⟨PySem.F.plainAttrs_list,PySem.F.slot_list_pop,PySem.F.type_list_pop⟩
 | .join=>⟨PySem.F.plainAttrs_str,PySem.F.slot_str_join,PySem.F.type_str_join⟩
 | .split=>⟨PySem.F.plainAttrs_str,PySem.F.slot_str_split,PySem.F.type_str_split⟩
 | .lstrip=>⟨PySem.F.plainAttrs_str,PySem.F.slot_str_lstrip,PySem.F.type_str_lstrip⟩
 | .setdefault=>⟨PySem.F.plainAttrs_dict,PySem.F.slot_dict_setdefault,PySem.F.type_dict_setdefault⟩
theorem EV.meth {T id : String} {name : Str} (me : Me T id name) {o e : Expr} {apos pos : Pos} {args : List Expr} {pl : Sem Bool} {Q : QV}
  (he : eval (.Call (.Attribute o name apos) (e :: args) [] pos) Φ.env = (do
   let ov ← eval o Φ.env
   standAt apos.atName
   let (f,first) ← holding [ov] (getMethod ov name pl)
   callWith pos f first (backTo pos (starEach (e :: args) Φ.env)) [])) (hs : starEach (e :: args) Φ.env = (false,eval e Φ.env) :: starEach args Φ.env) (hpl : (backTo pos (starEach args Φ.env)).any (·.1) = false)
  (h : EV prog w C Φ o ρ σ (kM prog w C Φ T pos (e :: args) ρ id Q)) : EV prog w C Φ (.Call (.Attribute o name apos) (e :: args) [] pos) ρ σ Q:=by
 intro A I s a R QQ E g
 refine MethodCall_ (h A I s a R _ E fun ov σ₁ I₁ s₁ val ⟨hT,q⟩ hv R₁ k₁=>?_) he
 obtain ⟨h1,h2⟩:=hT.at R₁ hv
 obtain ⟨pa,slot,hty⟩:=me.e
 refine getMethod_builtin h1 pa slot hty h2 ?_
 haveI q':=q A I₁ s₁ a R₁ (fun vs s₂=>wpAny (model prog w) A (call (.builtin id) ([val] ++ vs)) QQ E s₂) E fun xs σ₂ I₂ s₂ vals q₂ hxs R₂ k₂=>q₂ A I₂ s₂ (val :: vals) a R₂ (.cons (hv.mono k₂.im) hxs) QQ E (g.after R₂ (k₁.trans k₂ R₁.apartI))
 rw [hs] at q' ⊢
 exact Calls.callWith_builtin (by show (false || (backTo pos (starEach args Φ.env)).any (·.1)) = false;refine rr hpl ?_;rfl) (Calls.evalArgs_plain q')
theorem EV.meth0 {T id : String} {name : Str} (me : Me T id name) {o : Expr} {apos pos : Pos} {pl : Sem Bool} {Q : QV}
  (he : eval (.Call (.Attribute o name apos) [] [] pos) Φ.env = (do
   let ov ← eval o Φ.env
   standAt apos.atName
   let (f,first) ← holding [ov] (getMethod ov name pl)
   callWith pos f first (backTo pos (starEach [] Φ.env)) []))
  (h : EV prog w C Φ o ρ σ (kM0 prog w C Φ T ρ id Q)) : EV prog w C Φ (.Call (.Attribute o name apos) [] [] pos) ρ σ Q:=by
 intro A I s a R QQ E g
 refine MethodCall_ (h A I s a R _ E fun ov σ₁ I₁ s₁ val ⟨hT,q⟩ hv R₁ k₁=>?_) he
 obtain ⟨h1,h2⟩:=hT.at R₁ hv
 obtain ⟨pa,slot,hty⟩:=me.e
 exact getMethod_builtin h1 pa slot hty h2 (callWith_method0 (q A I₁ s₁ [val] a R₁ (.one hv) QQ E (g.after R₁ k₁)))
section
variable {Q : QV}
theorem sizeLine_lt {n : Nat} (h : n ≤ sizeLine) : (n : Int) < 2 ^ 63:=by
 haveI : sizeLine = 2 ^ 24:=sizeLine_eq
 lia
theorem BJ.lenL {x : V} {xs : List V} (hx : IsL σ x xs) (hz : xs.length ≤ sizeLine) (q : Q (.int xs.length) σ) : BJ prog w C Φ ρ σ "len" [x] Q:=by
 intro A I s vals a R hv QQ E g
 obtain ⟨v,rfl,h1⟩:=hv.inv1
 obtain ⟨l,vs,n,rfl,hl,hvs⟩:=hx.at R h1
 have e : vs.toArray.size = xs.length:=by simp [hvs.1]
 refine Calls.call_len_list (isList_of hl) (by refine rr e ?_;exact sizeLine_lt hz) ?_
 refine rr e ?_
 exact g.toks R (.int _ _) q
theorem BJ.lenS {x : List Nat} (hz : x.length ≤ sizeLine) (q : Q (.int x.length) σ) : BJ prog w C Φ ρ σ "len" [.str x] Q:=by
 intro A I s vals a R hv QQ E g
 obtain ⟨v,rfl,h1⟩:=hv.inv1
 obtain ⟨_,rfl⟩:=h1.inv
 haveI:=sizeLine_lt hz
 refine P.len_str (by refine rr str_len ?_;lia) ?_
 refine rr str_len ?_
 exact g.toks R (.int _ _) q
theorem Got.set {I : Im} {s : Shared} {QQ : Value→Shared→Prop} (g : Got w C Φ ρ I σ s Q QQ) (R : Rel w.params C Φ I ρ σ s) {i : Nat} {a : Addr} {c c' : Cell} (hi : σ[i]? = some (a,c)) {h' : Heap} {tk : Nat} (hs : Heap.SameBut a s.heap h') {o : Obj} (ho : h'.get? a = some o) (hc : c'.Is w.params C I o)
  {v : V} {val : Value} (hv : VR C I v val) (q : Q v (σ.set i (a,c'))) : QQ val { s with heap:=h',toks:=tk } :=
 haveI z:=R.set hi (tk:=tk) hs ho hc
 g v _ I _ val q hv z.1 z.2
theorem BJ.append {a : Addr} {xs : List V} {x : V} {i : Nat} (hi : σ[i]? = some (a,.lst xs)) (hz : xs.length ≤ sizeLine) (q : Q .none (σ.set i (a,.lst (xs ++ [x])))) : BJ prog w C Φ ρ σ "list.append" [.ref a,x] Q:=by
 intro A I s vals ak R hv QQ E g
 obtain ⟨v,u,rfl,h1,h2⟩:=hv.inv2
 obtain ⟨_,rfl⟩:=h1.inv
 obtain ⟨o,ho,vs,n,rfl,hvs⟩:=R.cell a _ (List.mem_of_getElem? hi)
 refine wpAny_list_append_plain ⟨n,ho⟩ (fun h' hl hs'=>?_) (by simpa [hvs.1] using hz)
 obtain ⟨n',ho'⟩:=hl
 exact g.set (c':=.lst (xs ++ [x])) R hi (tk:=s.toks) hs' ho' ⟨vs ++ [u],n',by simp,hvs.append (.one h2)⟩ .none q
theorem upd_seq {h : Heap} {a : Addr} {its : Array Value} {n : Nat} {f : Array Value→Array Value} (ho : h.get? a = some (listOf its n)) : ∃ n',(h.update a (Obj.mapSeq f)).get? a = some (listOf (f its) n') :=
 ⟨_,PySem.IsL.update ho f⟩
theorem BJ.pop {a : Addr} {xs : List V} {x : V} {i : Nat} (hi : σ[i]? = some (a,.lst (xs ++ [x]))) (hz : xs.length < sizeLine) (q : Q x (σ.set i (a,.lst xs))) : BJ prog w C Φ ρ σ "list.pop" [.ref a] Q:=by
 intro A I s vals ak R hv QQ E g
 obtain ⟨v,rfl,h1⟩:=hv.inv1
 obtain ⟨_,rfl⟩:=h1.inv
 obtain ⟨o,ho,vs,n,rfl,hvs⟩:=R.cell a _ (List.mem_of_getElem? hi)
 have hl : vs.length = xs.length + 1:=by simpa using hvs.1
 haveI hlast : vs[xs.length]? = some vs[xs.length]:=List.getElem?_eq_getElem (by lia)
 haveI hx:=hvs.2 xs.length x _ (by simp) hlast
 have e1 : vs.toArray.size - 1 = xs.length:=by simp [hl]
 obtain ⟨n',ho'⟩:=upd_seq (f:=fun ys=>ys.eraseIdxIfInBounds (vs.toArray.size - 1)) ho
 haveI e2 : (vs.toArray.eraseIdxIfInBounds (vs.toArray.size - 1)) = (vs.take xs.length).toArray:=by
  refine rr e1 ?_
  haveI q : vs = vs.take xs.length ++ vs[xs.length] :: []:=by
   conv=>lhs;rw [← List.take_append_drop xs.length vs]
   refine rr (List.drop_eq_getElem_cons (by lia) ..) ?_;refine rr (List.drop_eq_nil_of_le (by lia) ..) ?_;rfl
  haveI z:=kl_erase (vs.take xs.length) [] vs[xs.length]
  haveI e3 : (vs.take xs.length).length = xs.length:=by simp;lia
  replace z:=e3 ▸ z;replace z:=q.symm ▸ z;replace z:=(List.append_nil ..) ▸ z
  exact z
 replace ho':=e2 ▸ ho'
 refine call_meets PySem.F.slot_list_pop ⟨_,ho,rfl⟩ PySem.F.entry_list_pop (PySem.F.args_list_pop_1 _) (PySem.MeetsSeq.list_pop_last a _ n vs[xs.length] (by refine rr e1 ?_;simp) (by simp [hl];lia)) ⟨ho,?_⟩
 refine g.set (c':=.lst xs) R hi (tk:=s.toks) (Heap.SameBut.update ..) ho' ⟨_,n',rfl,⟨by simp;lia,fun j y u hy hu=>?_⟩⟩ hx q
 have hj : j < xs.length:=(List.getElem?_eq_some_iff.mp hy).1
 replace hu:=(List.getElem?_take_of_lt hj ..) ▸ hu
 exact hvs.2 j y u (by refine rr (List.getElem?_append_left hj ..) ?_;exact hy) hu
theorem BJ.pop0 {a : Addr} {xs : List V} {x : V} {i : Nat} (hi : σ[i]? = some (a,.lst (x :: xs))) (hz : xs.length < sizeLine) (q : Q x (σ.set i (a,.lst xs))) : BJ prog w C Φ ρ σ "list.pop" [.ref a,.int 0] Q:=by
 intro A I s vals ak R hv QQ E g
 obtain ⟨v,u,rfl,h1,h2⟩:=hv.inv2
 obtain ⟨_,rfl⟩:=h1.inv;obtain ⟨_,rfl⟩:=h2.inv
 obtain ⟨o,ho,vs,n,rfl,hvs⟩:=R.cell a _ (List.mem_of_getElem? hi)
 obtain ⟨y,ys,rfl,hx,hvs'⟩:=hvs.cons_inv
 obtain ⟨n',ho'⟩:=upd_seq (f:=fun ys=>ys.eraseIdxIfInBounds 0) ho
 have e2 : ((y :: ys).toArray.eraseIdxIfInBounds 0) = ys.toArray:=kl_erase [] ys y
 replace ho':=e2 ▸ ho'
 haveI lz : ys.length = xs.length:=hvs'.1
 refine call_meets PySem.F.slot_list_pop ⟨_,ho,rfl⟩ PySem.F.entry_list_pop (PySem.F.args_list_pop_2 _ _) (PySem.MeetsSeq.list_pop_at a _ n 0 _ 0 y (by decide) (by simp [seqIndex?]) (by simp) (by simp [lz];lia)) ⟨ho,?_⟩
 exact g.set (c':=.lst xs) R hi (tk:=s.toks) (Heap.SameBut.update ..) ho' ⟨_,n',rfl,hvs'⟩ hx q
theorem BJ.extend {a : Addr} {xs ys : List V} {y : V} {i : Nat} (hi : σ[i]? = some (a,.lst xs)) (hy : IsL σ y ys) (hz : xs.length + ys.length ≤ sizeLine) (q : Q .none (σ.set i (a,.lst (xs ++ ys)))) : BJ prog w C Φ ρ σ "list.extend" [.ref a,y] Q:=by
 intro A I s vals ak R hv QQ E g
 obtain ⟨v,u,rfl,h1,h2⟩:=hv.inv2
 obtain ⟨_,rfl⟩:=h1.inv
 obtain ⟨o,ho,vs,n,rfl,hvs⟩:=R.cell a _ (List.mem_of_getElem? hi)
 obtain ⟨l,ws,m,rfl,hl,hws⟩:=hy.at R h2
 obtain ⟨n',ho'⟩:=upd_seq (f:=fun x=>x ++ ws.toArray) ho
 haveI e2 : vs.toArray ++ ws.toArray = (vs ++ ws).toArray:=by simp
 replace ho':=e2 ▸ ho'
 haveI lx:=hvs.1
 haveI lw:=hws.1
 haveI hd : ¬(!vs.toArray.isEmpty && Builtin.List.listTooLong (vs.toArray.size + ws.toArray.size)) = true:=extend_door (by simp;lia)
 refine call_meets PySem.F.slot_list_extend ⟨_,ho,rfl⟩ PySem.F.entry_list_extend (PySem.F.args_list_extend_2 _ _) (AutoSeq1.list_extend_list_list_0 a _ n l _ m hd (by simp;lia) (by simp;lia)) ⟨ho,hl,?_⟩
 exact g.set (c':=.lst (xs ++ ys)) R hi (tk:=s.toks) (Heap.SameBut.update ..) ho' ⟨_,n',rfl,hvs.append hws⟩ .none q
theorem BJ.countI {x : V} {ns : List Int} {k : Int} (hx : IsL σ x (ns.map .int)) (q : Q (.int (ns.count k)) σ) : BJ prog w C Φ ρ σ "list.count" [x,.int k] Q:=by
 intro A I s vals a R hv QQ E g
 obtain ⟨v,u,rfl,h1,h2⟩:=hv.inv2
 obtain ⟨_,rfl⟩:=h2.inv
 obtain ⟨l,vs,n,rfl,hl,hvs⟩:=hx.at R h1
 exact count_list_ints (isList_of hl) hvs.ints (g.toks R (.int _ _) q)
noncomputable def glue (sep : List Nat) : List (List Nat)→List Nat
 | []=>[]
 | [x]=>x
 | x :: r=>x ++ sep ++ glue sep r
theorem glue_fold (sep : List Nat) : ∀ (r : List (List Nat)) (x : List Nat),(r.map mkS).foldl (fun acc p=>acc ++ (mkS sep).cps ++ p.cps) x.toArray = (glue sep (x :: r)).toArray
 | [],x=>by simp [glue]
 | y :: r,x=>by
  simp only [List.map_cons,List.foldl_cons]
  haveI e : x.toArray ++ (mkS sep).cps ++ (mkS y).cps = (x ++ sep ++ y).toArray:=by simp
  refine rr e ?_;refine rr (glue_fold sep r (x ++ sep ++ y) ..) ?_
  cases r with
  | nil=>simp [glue]
  | cons z r=>simp [glue,List.append_assoc]
theorem join_glue {sep : List Nat} {ss : List (List Nat)} : Txt.join (mkS sep) (ss.map mkS) = mkS (glue sep ss):=by
 cases ss with
 | nil=>rfl
 | cons x r =>
  exact congrArg Str.mk (glue_fold sep r x)
theorem BJ.join {sep : List Nat} {x : V} {ss : List (List Nat)} (hx : IsL σ x (ss.map .str)) (hz : (ss.map (·.length)).sum + ss.length * sep.length ≤ 16777216) (q : Q (.str (glue sep ss)) σ) : BJ prog w C Φ ρ σ "str.join" [.str sep,x] Q:=by
 intro A I s vals a R hv QQ E g
 obtain ⟨v,u,rfl,h1,h2⟩:=hv.inv2
 obtain ⟨_,rfl⟩:=h1.inv
 obtain ⟨l,vs,n,rfl,hl,hvs⟩:=hx.at R h2
 refine join_list (isList_of hl) (ys:=ss.map mkS) hvs.strs (by simpa [str_len,Function.comp_def] using hz) fun t' k=>?_
 haveI e:=join_glue (sep:=sep) (ss:=ss)
 refine rr e ?_
 exact g.toks R (.str _ _) q
theorem BJ.ord {c : Nat} (q : Q (.int c) σ) : BJ prog w C Φ ρ σ "ord" [.str [c]] Q:=by
 intro A I s vals a R hv QQ E g
 obtain ⟨v,rfl,h1⟩:=hv.inv1
 obtain ⟨_,rfl⟩:=h1.inv
 exact P.ord_of_char (g.toks R (.int _ _) q)
theorem BJ.chr {i : Int} (h0 : 0 ≤ i) (h1 : i ≤ 1114111) (q : Q (.str [i.toNat]) σ) : BJ prog w C Φ ρ σ "chr" [.int i] Q:=by
 intro A I s vals a R hv QQ E g
 obtain ⟨v,rfl,h3⟩:=hv.inv1
 obtain ⟨_,rfl⟩:=h3.inv
 exact chr_of_range h0 h1 (g.toks R (.str [i.toNat] _) q)
theorem BJ.max2 (hh : Φ.hd = none) {i j : Int} (q : Q (.int (max i j)) σ) : BJ prog w C Φ ρ σ "max" [.int i,.int j] Q:=by
 intro A I s vals a R hv QQ E g
 obtain ⟨v,u,rfl,h1,h2⟩:=hv.inv2
 obtain ⟨_,rfl⟩:=h1.inv;obtain ⟨_,rfl⟩:=h2.inv
 refine max_two_ints (a.hd.trans hh) fun h' tk kk=>?_
 haveI G : Gr I I s { s with heap:=h',toks:=tk }:=Gr.same R.im kk
 split
 ·rename_i hc
  haveI e : max i j = j:=by lia
  exact g.gr R G (.int _ _) (e ▸ q)
 ·rename_i hc
  haveI e : max i j = i:=by lia
  exact g.gr R G (.int _ _) (e ▸ q)
theorem BJ.min2 (hh : Φ.hd = none) {i j : Int} (q : Q (.int (min i j)) σ) : BJ prog w C Φ ρ σ "min" [.int i,.int j] Q:=by
 intro A I s vals a R hv QQ E g
 obtain ⟨v,u,rfl,h1,h2⟩:=hv.inv2
 obtain ⟨_,rfl⟩:=h1.inv;obtain ⟨_,rfl⟩:=h2.inv
 refine min_two_ints (a.hd.trans hh) fun h' tk kk=>?_
 haveI G : Gr I I s { s with heap:=h',toks:=tk }:=Gr.same R.im kk
 split
 ·rename_i hc
  haveI e : min i j = j:=by lia
  exact g.gr R G (.int _ _) (e ▸ q)
 ·rename_i hc
  haveI e : min i j = i:=by lia
  exact g.gr R G (.int _ _) (e ▸ q)
end
end
section
noncomputable def GI (prog : Program) (w : World) (C : Addr) (Φ : Fc) (ρ : List (Option V)) (σ : St) (x y : V) (Q : QV) : Prop :=
 ∀ A I s vx vy,AOk Φ A→Rel w.params C Φ I ρ σ s→VR C I x vx→VR C I y vy→TJ prog w C Φ A I ρ σ s (getItem vx vy) Q
theorem HasT.look {σ : St} {x : V} {T : String} (h : HasT σ x T) : ∃ id,typeLookup (.type T) "__getitem__" = pure (some (.builtin id)):=by
 cases x with
 | str _=>cases h;exact ⟨_,F.slot_str_getitem.lookup⟩
 | lst _=>cases h;exact ⟨_,list_getitem_lookup⟩
 | tup _=>cases h;exact ⟨_,PyProof.Rows.slot_tuple_getitem.lookup⟩
 | ref _ =>
  rcases h with ⟨_,_,rfl⟩ | ⟨_,_,rfl⟩
  ·exact ⟨_,list_getitem_lookup⟩
  ·exact ⟨_,PySem.F.slot_dict_getitem.lookup⟩
 | _=>exact h.elim
theorem tail_any {value slice : Expr} {o i : Value} {T id : String} {A : Around} {s : Shared} {Q : Value→Shared→Prop} {E : Value→Shared→Prop} (hT : s.TypeIs o T)
  (hl : typeLookup (.type T) "__getitem__" = pure (some (.builtin id))) (h : wpAny (model prog w) A (getItem o i) Q E s) : wpAny (model prog w) A (subscriptTail value slice o i) Q E s:=by
 haveI hs : ∃ ops,subscripted slice false o i = operate ops (getItem o i):=by
  cases slice with
  | Slice _ _ c _=>cases c <;> exact ⟨_,rfl⟩
  | _=>exact ⟨_,rfl⟩
 obtain ⟨ops,hs⟩:=hs
 refine wpAny_bind ?_
 refine rr (getitemInPython_of_ne hT.not_modules ..) ?_
 refine wpAny_bind (wpAny_specialOf hT hl ?_)
 haveI fin : wpAny (model prog w) A (subscripted slice false o i) (fun r s₃=>wpAny (model prog w) A (letTemporaryGo value o r >>= fun _=>pure r) Q E s₃) E s:=by
  refine rr hs ?_
  exact wpAny_operating (wpAny_mono h (fun r s₃ h₃=>wpAny_bind (wpAny_letTemporaryGo (wpAny_pure h₃))) fun _ _ x=>x)
 first
  | exact wpAny_pure (wpAny_bind fin)
  | exact wpAny_bind (wpAny_pure (wpAny_bind fin))
  | exact wpAny_bind fin
inductive AnyT (σ : St) (x : V) : Prop | mk (T : String) (h : HasT σ x T)
noncomputable abbrev kSub2 (prog : Program) (w : World) (C : Addr) (Φ : Fc) (ρ : List (Option V)) (x : V) (Q : QV) : V→St→Prop:=fun y σ₂=>AnyT σ₂ x∧GI prog w C Φ ρ σ₂ x y Q
noncomputable abbrev kSub (prog : Program) (w : World) (C : Addr) (Φ : Fc) (slice : Expr) (ρ : List (Option V)) (Q : QV) : V→St→Prop:=fun x σ₁=>EV prog w C Φ slice ρ σ₁ (kSub2 prog w C Φ ρ x Q)
theorem EV.sub {value slice : Expr} {pos : Pos} {Q : QV} (h : EV prog w C Φ value ρ σ (kSub prog w C Φ slice ρ Q)) :
  EV prog w C Φ (.Subscript value slice pos) ρ σ Q:=by
 intro A I s a R QQ E g
 refine Subscript_ (h A I s a R _ E fun x σ₁ I₁ s₁ vx q hx R₁ k₁=>?_)
 refine q A I₁ s₁ a R₁ _ E fun y σ₂ I₂ s₂ vy z0 hy R₂ k₂=>?_
 obtain ⟨⟨T,hT⟩,q₂⟩:=z0
 obtain ⟨id,hl⟩:=hT.look
 exact tail_any (hT.at R₂ (hx.mono k₂.im)).1 hl (q₂ A I₂ s₂ vx vy a R₂ (hx.mono k₂.im) hy QQ E (g.after R₂ (k₁.trans k₂ R₁.apartI)))
theorem IsL.hasT {x : V} {xs : List V} (h : IsL σ x xs) : HasT σ x "list":=by
 rcases h with rfl | ⟨a,rfl,hm⟩
 ·rfl
 ·exact .inl ⟨_,hm,rfl⟩
section
variable {Q : QV}
theorem GI.listI {x v : V} {xs : List V} {k : Int} (hx : IsL σ x xs) (h0 : 0 ≤ k) (h1 : k < 2 ^ 63) (he : xs[k.toNat]? = some v) (q : Q v σ) : GI prog w C Φ ρ σ x (.int k) Q:=by
 intro A I s vx vy a R hx' hy QQ E g
 obtain ⟨l,vs,n,rfl,hl,hvs⟩:=hx.at R hx'
 obtain ⟨_,rfl⟩:=hy.inv
 obtain ⟨val,hval,r⟩:=hvs.get he
 exact wpAny_getItem_list (isList_of hl) h0 h1 (by simpa using hval) (g.here R r q)
theorem GI.listN {x v : V} {xs : List V} {k : Int} (hx : IsL σ x xs) (h0 : k < 0) (h1 : -(xs.length : Int) ≤ k) (h2 : -2 ^ 63 ≤ k) (he : xs[(k + xs.length).toNat]? = some v) (q : Q v σ) : GI prog w C Φ ρ σ x (.int k) Q:=by
 intro A I s vx vy a R hx' hy QQ E g
 obtain ⟨l,vs,n,rfl,hl,hvs⟩:=hx.at R hx'
 obtain ⟨_,rfl⟩:=hy.inv
 obtain ⟨val,hval,r⟩:=hvs.get he
 haveI e : (vs.toArray.size : Int) = xs.length:=by simp [hvs.1]
 exact wpAny_getItem_list_neg (isList_of hl) h0 (by refine rr e ?_;exact h1) h2 (by refine rr e ?_;simpa using hval) (g.here R r q)
theorem GI.tupI {v : V} {xs : List V} {k : Int} (h0 : 0 ≤ k) (h1 : k < 2 ^ 63) (he : xs[k.toNat]? = some v) (q : Q v σ) : GI prog w C Φ ρ σ (.tup xs) (.int k) Q:=by
 intro A I s vx vy a R hx' hy QQ E g
 obtain ⟨l,vs,n,rfl,hl,hvs⟩:=hx'.tup_inv
 obtain ⟨_,rfl⟩:=hy.inv
 obtain ⟨val,hval,r⟩:=hvs.get he
 haveI hk : k.toNat < vs.length:=(List.getElem?_eq_some_iff.mp hval).1
 have hI : IsTup s.heap l vs.toArray:=⟨_,R.im _ _ hl,rfl,_,rfl⟩
 refine PyProof.Rows.getItem_tuple hI (j:=k.toNat) (by lia) h1 ?_ (by simpa using hval) (g.here R r q)
 simp [seqIndex?]
 lia
noncomputable def vpick {α : Type} (xs : List α) (lo hi st : Option Int) : List α :=
 (sliceRange (sliceBounds lo hi st xs.length).1 (sliceBounds lo hi st xs.length).2.1 (sliceBounds lo hi st xs.length).2.2).filterMap (xs[·]?)
theorem vpick_map {α β : Type} (f : α→β) (xs : List α) (lo hi st : Option Int) : vpick (xs.map f) lo hi st = (vpick xs lo hi st).map f:=by
 unfold vpick
 refine rr (List.length_map ..) ?_;refine rr (List.map_filterMap ..) ?_
 congr 1
 funext i
 simp
theorem VRs.pick {I : Im} {xs : List V} {vs : List Value} (h : VRs C I xs vs) (lo hi st : Option Int) : VRs C I (vpick xs lo hi st) (slicePick vs.toArray lo hi st).toList:=by
 unfold vpick slicePick
 haveI e : vs.toArray.size = xs.length:=by simp [h.1]
 refine rr e ?_
 generalize sliceRange _ _ _ = is
 show VRs C I _ (is.filterMap fun i=>vs.toArray[i]?)
 induction is with
 | nil=>exact .nil
 | cons i is ih =>
  haveI e2 : vs.toArray[i]? = vs[i]?:=by simp
  refine rr (List.filterMap_cons ..) ?_;refine rr (List.filterMap_cons ..) ?_;refine rr e2 ?_
  cases hx : xs[i]? with
  | none =>
   haveI : vs[i]? = none:=by
    rw [List.getElem?_eq_none_iff] at hx ⊢
    refine rr (h.1 ..) ?_;exact hx
   refine rr this ?_;exact ih
  | some x =>
   obtain ⟨v,hv,r⟩:=h.get hx
   refine rr hv ?_
   exact .cons r ih
noncomputable def EO (prog : Program) (w : World) (C : Addr) (Φ : Fc) (o : Option Expr) (ρ : List (Option V)) (σ : St) (Q : Option Int→St→Prop) : Prop :=
 match o with
 | none=>Q none σ
 | some e=>EV prog w C Φ e ρ σ fun v σ'=>∃ i,v = .int i∧Q (some i) σ'
theorem EO.wp {o : Option Expr} {Q : Option Int→St→Prop} (h : EO prog w C Φ o ρ σ Q) {A : Around} {I : Im} {s : Shared} (a : AOk Φ A) (R : Rel w.params C Φ I ρ σ s) {QQ : Value→Shared→Prop} {E : Value→Shared→Prop}
  (g : ∀ p σ' I' s' val,Q p σ'→IsPart val p→Rel w.params C Φ I' ρ σ' s'→Kp [] I σ I' σ' s s'→QQ val s') : wpAny (model prog w) A (evalPart o Φ.env) QQ E s:=by
 cases o with
 | none=>exact wpAny_pure (g none σ I s .none h .none R .refl)
 | some e =>
  refine h A I s a R QQ E fun v σ' I' s' val z0 hv R' k=>?_
  obtain ⟨i,hv',q⟩:=z0
  subst hv'
  obtain ⟨_,rfl⟩:=hv.inv
  exact g (some i) σ' I' s' _ q (.int _ _) R' k
theorem slice_wp {value : Expr} {lo up st : Option Expr} {p pos : Pos} {Q' : V→Option Int→Option Int→Option Int→St→Prop} (h : EV prog w C Φ value ρ σ fun x σ₁=>EO prog w C Φ lo ρ σ₁ fun l σ₂=>EO prog w C Φ up ρ σ₂ fun u σ₃=>EO prog w C Φ st ρ σ₃ fun t σ₄=>(∃ T,HasT σ₄ x T)∧Q' x l u t σ₄)
  {A : Around} {I : Im} {s : Shared} (a : AOk Φ A) (R : Rel w.params C Φ I ρ σ s) {QQ : Value→Shared→Prop} {E : Value→Shared→Prop}
  (g : ∀ x l u t σ' I' s' (vl vu vt vx : Value),Q' x l u t σ'→VR C I' x vx→IsPart vl l→IsPart vu u→IsPart vt t→Rel w.params C Φ I' ρ σ' s'→Kp [] I σ I' σ' s s' →
   wpAny (model prog w) A (getItem vx (.ref s'.heap.objs.size)) QQ E { s' with heap:=s'.heap.push { cls:=.type "slice",data:=.fields #[vl,vu,vt] } }) :
  wpAny (model prog w) A (eval (.Subscript value (.Slice lo up st p) pos) Φ.env) QQ E s:=by
 refine Subscript_ (h A I s a R _ E fun x σ₁ I₁ s₁ vx q hx R₁ k₁=>wpAny_Slice ?_)
 refine q.wp a R₁ fun l σ₂ I₂ s₂ vl q₂ hl R₂ k₂=>?_
 refine q₂.wp a R₂ fun u σ₃ I₃ s₃ vu q₃ hu R₃ k₃=>?_
 refine q₃.wp a R₃ fun t σ₄ I₄ s₄ vt z0 ht R₄ k₄=>?_
 obtain ⟨⟨T,hT⟩,q₄⟩:=z0
 obtain ⟨id,hl'⟩:=hT.look
 haveI hx':=((hx.mono k₂.im).mono k₃.im).mono k₄.im
 haveI G : Gr I₄ I₄ s₄ { s₄ with heap:=s₄.heap.push { cls:=.type "slice",data:=.fields #[vl,vu,vt] },toks:=s₄.toks }:=Gr.same R₄.im fun b o e=>Heap.get?_push_of_some _ e
 exact tail_any (hT.at (R₄.grow G) hx').1 hl' (g x l u t σ₄ I₄ s₄ vl vu vt vx q₄ hx' hl hu ht R₄ (((k₁.trans k₂ R₁.apartI).trans k₃ R₂.apartI).trans k₄ R₃.apartI))
inductive QSl (Q : QV) (x : V) (l u t : Option Int) (σ₄ : St) : Prop | mk (xs : List V) (h : IsL σ₄ x xs) (h0 : t ≠ some 0) (hz : xs.length ≤ sizeLine) (q : Q (.lst (vpick xs l u t)) σ₄)
noncomputable abbrev kSl3 (prog : Program) (w : World) (C : Addr) (Φ : Fc) (st : Option Expr) (ρ : List (Option V)) (x : V) (l : Option Int) (Q : QV) : Option Int→St→Prop:=fun u σ₃=>EO prog w C Φ st ρ σ₃ fun t=>QSl Q x l u t
noncomputable abbrev kSl2 (prog : Program) (w : World) (C : Addr) (Φ : Fc) (up st : Option Expr) (ρ : List (Option V)) (x : V) (Q : QV) : Option Int→St→Prop:=fun l σ₂=>EO prog w C Φ up ρ σ₂ (kSl3 prog w C Φ st ρ x l Q)
noncomputable abbrev kSl (prog : Program) (w : World) (C : Addr) (Φ : Fc) (lo up st : Option Expr) (ρ : List (Option V)) (Q : QV) : V→St→Prop:=fun x σ₁=>EO prog w C Φ lo ρ σ₁ (kSl2 prog w C Φ up st ρ x Q)
theorem EV.sliceL {value : Expr} {lo up st : Option Expr} {p pos : Pos} (h : EV prog w C Φ value ρ σ (kSl prog w C Φ lo up st ρ Q)) :
  EV prog w C Φ (.Subscript value (.Slice lo up st p) pos) ρ σ Q:=by
 intro A I s a R QQ E g
 refine slice_wp (Q':=QSl Q) ?_ a R fun x l u t σ' I' s' vl vu vt vx ⟨xs,hx,ht0,hz,q⟩ hvx hl hu ht R' k=>?_
 ·refine h.mono fun x σ₁ q=>?_
  have m : ∀ {o : Option Expr} {σ : St} {P P' : Option Int→St→Prop},EO prog w C Φ o ρ σ P→(∀ v σ',P v σ'→P' v σ')→EO prog w C Φ o ρ σ P':=by
   intro o σ P P' h k
   cases o with
   | none=>exact k _ _ h
   | some e=>exact EV.mono h fun v σ' ⟨i,e,q⟩=>⟨i,e,k _ _ q⟩
  exact m q fun l σ₂ q=>m q fun u σ₃ q=>m q fun t σ₄ ⟨xs,hx,r1,r2,r3⟩=>⟨⟨"list",hx.hasT⟩,xs,hx,r1,r2,r3⟩
 ·obtain ⟨l',vs,n,rfl,hl',hvs⟩:=hx.at R' hvx
  haveI G : Gr I' I' s' { s' with heap:=s'.heap.push { cls:=.type "slice",data:=.fields #[vl,vu,vt] },toks:=s'.toks }:=Gr.same R'.im fun b o e=>Heap.get?_push_of_some _ e
  refine wpAny_getItem_list_slice (isList_of (Heap.get?_push_of_some _ hl')) (Heap.IsSliceOf.new ..) hl hu ht ht0 ?_ (by simpa [hvs.1] using hz)
  haveI g':=(g.after R' k).after (R'.grow G) G.kp
  refine g'.push (v:=.lst (vpick xs l u t)) (o:={ cls:=.type "list",data:=.seq (slicePick vs.toArray l u t) }) (R'.grow G) (fun I'' im hI=>?_) rfl q
  exact .mk_lst (vs:=(slicePick vs.toArray l u t).toList) (n:=0) (by simpa using hI) ((hvs.pick l u t).mono im)
end
end
section
section
variable {Q : QV}
theorem OP.addL {x y : V} {xs ys : List V} (hx : IsL σ x xs) (hy : IsL σ y ys) (hz : xs.length + ys.length ≤ sizeLine) (q : Q (.lst (xs ++ ys)) σ) : OP prog w C Φ ρ σ .Add x y Q:=by
 intro A I s vx vy a R hvx hvy QQ E g
 obtain ⟨l,vs,n,rfl,hl,hvs⟩:=hx.at R hvx
 obtain ⟨b,us,m,rfl,hb,hus⟩:=hy.at R hvy
 haveI e : vs.toArray ++ us.toArray = (vs ++ us).toArray:=by simp
 refine concat_meets ⟨_,hl,rfl⟩ ⟨_,hb,rfl⟩ noFill_list_add seq_list_add PySem.F.slot_list_add PySem.F.entry_list_add (PySem.F.args_list_add_2 _ _) (list_addW l b vs.toArray us.toArray n m none none #[] #[] (by simpa [hvs.1,hus.1] using hz)) ⟨hl,hb,?_⟩
 refine rr e ?_
 exact g.push (v:=.lst (xs ++ ys)) (tk:=s.toks) (o:={ cls:=.type "list",data:=.seq (vs ++ us).toArray }) R (fun I' im hI=>.mk_lst hI ((hvs.append hus).mono im)) rfl q
noncomputable def rep (xs : List V) (k : Nat) : List V:=(List.replicate k xs).flatten
theorem VRs.rep {I : Im} {xs : List V} {vs : List Value} (h : VRs C I xs vs) : ∀ k : Nat,VRs C I (rep xs k) (List.replicate k vs).flatten
 | 0=>.nil
 | k + 1=>by
  exact h.append (VRs.rep h k)
theorem foldl_flat (vs : List Value) : ∀ (k : Nat) (acc : List Value),List.foldl (fun (x1 x2 : Array Value)=>x1 ++ x2) acc.toArray (List.replicate k vs.toArray) = (acc ++ (List.replicate k vs).flatten).toArray
 | 0,acc=>by simp
 | k + 1,acc=>by
  simp only [List.replicate_succ,List.foldl_cons,List.flatten_cons]
  haveI e : acc.toArray ++ vs.toArray = (acc ++ vs).toArray:=by simp
  refine rr e ?_;refine rr (foldl_flat vs k (acc ++ vs) ..) ?_
  simp
set_option tactic.hygienic true in
theorem OP.mulL {x : V} {xs : List V} {k : Int} (hx : IsL σ x xs) (h0 : 0 ≤ k) (hne : xs ≠ []) (hz : xs.length * k.toNat ≤ 2 ^ 24) (h1 : k < 2 ^ 63) (q : Q (.lst (rep xs k.toNat)) σ) : OP prog w C Φ ρ σ .Mult x (.int k) Q:=by
 intro A I s vx vy a R hvx hvy QQ E g
 obtain ⟨l,vs,n,rfl,hl,hvs⟩:=hx.at R hvx
 obtain ⟨_,rfl⟩:=hvy.inv
 rename_i u
 have hem : vs.toArray.isEmpty = false:=by
  cases vs with
  | nil=>exact absurd (List.length_eq_zero_iff.mp hvs.1.symm) hne
  | cons v vs=>rfl
 refine wpAny_binaryOp_repeat_ref (T:="list") (U:="int") (by decide) ⟨_,hl,rfl⟩ (fun s'=>typeIs_int s' k u) noFill_list_mul F.fills_int_mul F.slot_int_rmul repeat_list F.slot_int_index.lookup
  (call_meets F.slot_int_rmul (typeIs_int s k u) F.entry_int_rmul (F.args_int_rmul_2 _ _) (int___rmul___int_list k u l vs.toArray n)
   ⟨hl,rfl,⟨_,hl,rfl⟩,call_meets F.slot_list_mul ⟨_,hl,rfl⟩ F.entry_list_mul (F.args_list_mul_2 _ _)
    (AutoListH.list___mul___list_int_3 l vs.toArray n k u (by simp [Builtin.List.listFitsIndex];lia) (by rw [show vs.toArray.size = xs.length by simp [hvs.1]];lia) ?_)
    ⟨hl,?_⟩⟩)
 ·haveI e1 : vs.toArray.size = xs.length:=by simp [hvs.1]
  refine rr e1 ?_
  simp only [Builtin.List.listTooLong,sizeLine]
  simp
  lia
 ·refine rr hem ?_
  simp only [Bool.false_eq_true,if_false]
  haveI e2:=foldl_flat vs k.toNat []
  haveI e3 : ([] : List Value).toArray = #[]:=rfl
  replace e2:=e3 ▸ e2
  refine rr e2 ?_;refine rr (List.nil_append ..) ?_
  exact g.push (v:=.lst (rep xs k.toNat)) (tk:=s.toks) (o:={ cls:=.type "list",data:=.seq (List.replicate k.toNat vs).flatten.toArray }) R (fun I' im hI=>.mk_lst hI ((hvs.rep _).mono im)) rfl q
inductive QNeg (Q : QV) (v : V) (σ : St) : Prop | mk (i : Int) (e : v = .int i) (q : Q (.int (-i)) σ)
inductive QInt (Q : Bool→St→Prop) (v : V) (σ : St) : Prop | mk (i : Int) (e : v = .int i) (q : Q (decide (i ≠ 0)) σ)
inductive QBool (Q : Bool→St→Prop) (v : V) (σ : St) : Prop | mk (b : Bool) (e : v = .bool b) (q : Q b σ)
theorem EV.neg {e : Expr} {pos : Pos} (h : EV prog w C Φ e ρ σ (QNeg Q)) : EV prog w C Φ (.UnaryOp .USub e pos) ρ σ Q:=by
 intro A I s a R QQ E g
 refine wpAny_UnaryOp (h A I s a R _ E fun v σ' I' s' val z0 hv R' k=>?_)
 obtain ⟨i,hv',q⟩:=z0
 subst hv'
 obtain ⟨_,rfl⟩:=hv.inv
 exact PyProof.Rows.neg_int ((g.after R' k).toks R' (.int _ _) q)
theorem ET.int {e : Expr} {Q : Bool→St→Prop} (he : ∀ env whole,isTrue e env whole = (do let v ← whole;standAt e.pos;holding [v] (truthy v))) (h : EV prog w C Φ e ρ σ (QInt Q)) : ET prog w C Φ e ρ σ Q:=by
 refine ET.val he (h.mono fun v σ' z0 A I s vx a R hx QQ E g=>?_)
 obtain ⟨i,hv',q⟩:=z0
 subst hv'
 obtain ⟨_,rfl⟩:=hx.inv
 refine PyProof.Rows.truthy_int ?_
 haveI : (i != 0) = decide (i ≠ 0):=by
  by_cases z : i = 0
  ·subst z;rfl
  ·simp [z]
 refine rr this ?_
 exact g _ q s.toks
theorem ET.bool {e : Expr} {Q : Bool→St→Prop} (he : ∀ env whole,isTrue e env whole = (do let v ← whole;standAt e.pos;holding [v] (truthy v))) (h : EV prog w C Φ e ρ σ (QBool Q)) : ET prog w C Φ e ρ σ Q:=by
 refine ET.val he (h.mono fun v σ' z0 A I s vx a R hx QQ E g=>?_)
 obtain ⟨i,hv',q⟩:=z0
 subst hv'
 obtain ⟨_,rfl⟩:=hx.inv
 exact wpAny_truthy_bool (g _ q s.toks)
theorem digit_of : ∀ n : Nat,n < 10→Str.ofString (toString (n : Int)) = mkS [48 + n]
 | 0,_=>by decide +kernel
 | 1,_=>by decide +kernel
 | 2,_=>by decide +kernel
 | 3,_=>by decide +kernel
 | 4,_=>by decide +kernel
 | 5,_=>by decide +kernel
 | 6,_=>by decide +kernel
 | 7,_=>by decide +kernel
 | 8,_=>by decide +kernel
 | 9,_=>by decide +kernel
 | n + 10,h=>absurd h (by lia)
theorem BT.str1 {i : Int} (h0 : 0 ≤ i) (h1 : i < 10) (q : Q (.str [48 + i.toNat]) σ) : BT prog w C Φ ρ σ "str" [.int i] Q:=by
 intro A I s vals a R hv QQ E g
 obtain ⟨v,rfl,h2⟩:=hv.inv1
 obtain ⟨_,rfl⟩:=h2.inv
 haveI hl : i.natAbs.log2 < 1920:=by
  haveI : i.natAbs.log2 ≤ i.natAbs:=Nat.log2_le_self _
  lia
 refine P.str_of_int hl ?_
 haveI e : i = (i.toNat : Int):=by lia
 haveI e' : Str.ofString (toString i) = mkS [48 + i.toNat]:=by
  conv=>lhs;rw [e]
  exact digit_of i.toNat (by lia)
 refine rr e' ?_
 exact g.toks R (.str _ _) q
theorem BT.tuple {x : V} {xs : List V} (hx : IsL σ x xs) (hz : xs.length ≤ sizeLine) (q : Q (.tup xs) σ) : BT prog w C Φ ρ σ "tuple" [x] Q:=by
 intro A I s vals a R hv QQ E g
 obtain ⟨v,rfl,h2⟩:=hv.inv1
 obtain ⟨l,vs,n,rfl,hl,hvs⟩:=hx.at R h2
 refine call_tuple_list (isList_of hl) (fun h' kk=>?_) (by simpa [hvs.1] using hz)
 haveI G : Gr I I s { s with heap:=h',toks:=s.toks }:=Gr.same R.im kk
 exact (g.after (R.grow G) G.kp).push (v:=.tup xs) (s:={ s with heap:=h',toks:=s.toks }) (tk:=s.toks) (o:={ cls:=.type "tuple",data:=.seq vs.toArray }) (R.grow G) (fun I' im hI=>.mk_tup (n:=0) hI (hvs.mono im)) rfl q
theorem ints_at {vs : List Value} {ns : List Int} (h : IntsAre vs ns) : ∀ (i : Nat) (v : Value),vs.toArray[i]? = some v→∃ t,v = .int (ns.getD i 0) t:=by
 intro i v e
 replace e : vs[i]? = some v:=by simpa using e
 revert e
 induction h generalizing i with
 | nil=>intro e;simp at e
 | cons n t _ ih =>
  intro e
  cases i with
  | zero=>simp at e;exact ⟨t,e.symm⟩
  | succ i=>exact ih i (by simpa using e)
theorem old_kept' {s : Shared} {l : Addr} {h' : Heap} (hk : ∀ b o,b ∉ [s.heap.objs.size]→(s.heap.push { cls:=.type "list_iterator",data:=.fields #[.ref l,.int 0 0] }).get? b = some o→h'.get? b = some o) :
  ∀ b o,s.heap.get? b = some o→h'.get? b = some o:=fun b o e =>
 hk b o (fun hm=>by replace e:=(List.mem_singleton.mp hm ..) ▸ e;exact absurd (Heap.lt_size e) (Nat.lt_irrefl _)) (Heap.get?_push_of_some _ e)
theorem BJ.sum (hh : Φ.hd = none) {x : V} {ns : List Int} (hx : IsL σ x (ns.map .int)) (q : Q (.int ns.sum) σ) : BJ prog w C Φ ρ σ "sum" [x] Q:=by
 intro A I s vals a R hv QQ E g
 obtain ⟨v,rfl,h2⟩:=hv.inv1
 obtain ⟨l,vs,n,rfl,hl,hvs⟩:=hx.at R h2
 haveI hlt:=Heap.lt_size hl
 refine call_sum_walkG (wpAny_pyIter_list (isList_of hl) ⟨s.heap.objs.size,_,_,_,_,_,fun i=>ns.getD i 0,rfl,Walks.list (A:=A.in1) (a.hd.trans hh) _ l (Nat.ne_of_lt hlt) vs.toArray,?_,fun b hb=>?_,ints_at hvs.ints,fun h' tk t' kk=>?_⟩)
 ·exact ⟨⟨_,Heap.get?_push_size _ rfl,rfl,rfl⟩,isList_of (Heap.get?_push_of_some _ hl)⟩
 ·refine rr (Heap.size_push ..) ?_
  rcases List.mem_cons.mp hb with rfl | hb
  ·exact Nat.lt_succ_self _
  ·refine rr (List.mem_singleton.mp hb ..) ?_;exact Nat.lt_succ_of_lt hlt
 ·haveI e : preSum (fun i=>ns.getD i 0) vs.toArray.size = ns.sum:=by
   rw [preSum_getD,List.take_of_length_le (by simp [hvs.1])]
  refine rr e ?_
  exact g.gr (s':={ s with heap:=h',toks:=tk }) R (Gr.same R.im (old_kept' kk)) (.int _ _) q
theorem BJ.maxL (hh : Φ.hd = none) {x : V} {ns : List Int} {m : Int} (hx : IsL σ x (ns.map .int)) (hm : m∈ns) (ht : ∀ a∈ns,a ≤ m) (q : Q (.int m) σ) : BJ prog w C Φ ρ σ "max" [x] Q:=by
 intro A I s vals a R hv QQ E g
 obtain ⟨v,rfl,h2⟩:=hv.inv1
 obtain ⟨l,vs,n,rfl,hl,hvs⟩:=hx.at R h2
 haveI hlt:=Heap.lt_size hl
 haveI hsz : vs.toArray.size = ns.length:=by simpa using hvs.1
 haveI hpos : 0 < ns.length:=List.length_pos_iff.mpr (fun e=>by replace hm:=e ▸ hm;cases hm)
 refine call_max_walk (wpAny_pyIter_list (isList_of hl) ⟨s.heap.objs.size,_,_,_,_,_,_,rfl,Walks.list (A:=A.in1) (a.hd.trans hh) _ l (Nat.ne_of_lt hlt) vs.toArray,?_,fun b hb=>?_,by refine rr hsz ?_;exact hpos,
  CmpOf.ints_gt (fun i=>ns.getD i 0) (ints_at hvs.ints),fun v h' tk hP kk=>?_⟩)
 ·exact ⟨⟨_,Heap.get?_push_size _ rfl,rfl,rfl⟩,isList_of (Heap.get?_push_of_some _ hl)⟩
 ·refine rr (Heap.size_push ..) ?_
  rcases List.mem_cons.mp hb with rfl | hb
  ·exact Nat.lt_succ_self _
  ·refine rr (List.mem_singleton.mp hb ..) ?_;exact Nat.lt_succ_of_lt hlt
 ·obtain ⟨t,rfl⟩:=ints_at hvs.ints _ _ hP
  obtain ⟨z1,z2⟩:=argBest_gt (fun i=>ns.getD i 0) (vs.toArray.size - 1)
  haveI e : ns.getD (argBest (fun i j=>decide (ns.getD i 0 > ns.getD j 0)) (vs.toArray.size - 1)) 0 = m:=by
   haveI hin : argBest (fun i j=>decide (ns.getD i 0 > ns.getD j 0)) (vs.toArray.size - 1) < ns.length:=by lia
   haveI h4 : ns.getD (argBest (fun i j=>decide (ns.getD i 0 > ns.getD j 0)) (vs.toArray.size - 1)) 0∈ns:=by
    refine rr (List.getD_eq_getElem?_getD ..) ?_;refine rr (List.getElem?_eq_getElem hin ..) ?_;exact List.getElem_mem hin
   haveI h5:=ht _ h4
   obtain ⟨j,hj,e⟩:=List.getElem_of_mem hm
   haveI h6:=z2 j (by lia)
   haveI e2 : ns.getD j 0 = m:=by refine rr (List.getD_eq_getElem?_getD ..) ?_;refine rr (List.getElem?_eq_getElem hj ..) ?_;exact e
   lia
  refine rr e ?_
  exact g.gr (s':={ s with heap:=h',toks:=tk }) R (Gr.same R.im (old_kept' kk)) (.int _ _) q
end
end
section
noncomputable def CF (prog : Program) (w : World) (C : Addr) (Φ : Fc) (ifs : List Expr) (elt : Expr) (ρ : List (Option V)) (σ : St) (b : Bool) (y : V) : Prop :=
 match ifs with
 | []=>b = true∧EV prog w C Φ elt ρ σ fun v σ'=>v = y∧σ' = σ
 | [c]=>ET prog w C Φ c ρ σ fun b' σ'=>b' = b∧σ' = σ∧(b = true→EV prog w C Φ elt ρ σ fun v σ'=>v = y∧σ' = σ)
 | _=>False
theorem CF.cb {W : List Addr} {D : Addr} {ifs : List Expr} {elt : Expr} {ys : List V} {b : Bool} {y : V} (hz : ys.length ≤ sizeLine) (h : CF prog w C Φ ifs elt ρ ((D,.lst ys) :: σ) b y) :
  CB prog w C Φ W D ifs (emitOf elt D Φ.env) ys ρ σ fun ys' ρ' σ'=>ys' = (if b then ys ++ [y] else ys)∧ρ' = ρ∧σ' = σ:=by
 match ifs,h with
 | [],h' =>
  obtain ⟨hb,h'⟩:=h'
  subst hb
  exact CB.nil (CT.emit hz (EV.mono h' fun v σ' z0=>by obtain ⟨e1,e2⟩:=z0;subst e1 e2;exact ⟨σ,.refl _,rfl,rfl,rfl⟩))
 | [c],h =>
  refine CB.one (ET.mono h fun b' σ' z0=>?_)
  obtain ⟨e1,e2,h3⟩:=z0
  subst e1 e2
  refine ⟨σ,.refl _,?_⟩
  cases b' with
  | true=>exact CT.emit hz ((h3 rfl).mono fun v σ' z0=>by obtain ⟨e1,e2⟩:=z0;subst e1 e2;exact ⟨σ,.refl _,rfl,rfl,rfl⟩)
  | false=>exact ⟨rfl,rfl,rfl⟩
theorem set_twice {α : Type} (l : List α) (i j : Nat) (a b c d : α) : ((((l.set i a).set j b).set i c).set j d) = (l.set i c).set j d:=by
 by_cases h : i = j
 ·subst h;simp
 ·refine rr (List.set_comm _ _ (fun e=>h e.symm) ..) ?_;refine rr (List.set_set ..) ?_;refine rr (List.set_set ..) ?_;rfl
theorem take_filter {α : Type} {p : α→Bool} {f : α→V} {xs : List α} {k : Nat} {x : α} (h : xs[k]? = some x) :
  (if p x then ((xs.take k).filter p).map f ++ [f x] else ((xs.take k).filter p).map f) = ((xs.take (k + 1)).filter p).map f:=by
 haveI hk:=(List.getElem?_eq_some_iff.mp h).1
 haveI e : xs.take (k + 1) = xs.take k ++ [x]:=by
  refine rr (List.take_add_one ..) ?_;refine rr h ?_;rfl
 refine rr e ?_;refine rr (List.filter_append ..) ?_;refine rr (List.map_append ..) ?_
 cases hp : p x <;> simp [hp]
inductive QCF1 (prog : Program) (w : World) (C : Addr) (Φ : Fc) (ρ : List (Option V)) (scope : Scope) (ifs : List Expr) (elt : Expr) (i : Nat) {α : Type} (emb : α→V) (p : α→Bool) (f : α→V) (P : List V→St→Prop) (vals : List V) (σ' : St) : Prop
 | mk (xs : List α) (e : vals = xs.map emb) (hz : xs.length ≤ sizeLine) (cf : ∀ x∈xs,∀ L D ys,(Φ.comp scope L).Ok→CF prog w C (Φ.comp scope L) ifs elt ((rhoC Φ.slots ρ scope.names).set i (some (emb x))) ((D,.lst ys) :: σ') (p x) (f x)) (q : P ((xs.filter p).map f) σ')
inductive QCF2 (prog : Program) (w : World) (C : Addr) (Φ : Fc) (ρ : List (Option V)) (scope : Scope) (ifs : List Expr) (elt : Expr) (i j : Nat) {α : Type} (emb : α→V × V) (p : α→Bool) (f : α→V) (P : List V→St→Prop) (vals : List (V × V)) (σ' : St) : Prop
 | mk (xs : List α) (e : vals = xs.map emb) (hz : xs.length ≤ sizeLine) (cf : ∀ x∈xs,∀ L D ys,(Φ.comp scope L).Ok→CF prog w C (Φ.comp scope L) ifs elt (((rhoC Φ.slots ρ scope.names).set i (some (emb x).1)).set j (some (emb x).2)) ((D,.lst ys) :: σ') (p x) (f x)) (q : P ((xs.filter p).map f) σ')
noncomputable abbrev kAllD (Q : Addr→List V→St→Prop) : List V→St→Prop:=fun l σ=>∀ D,Q D l σ
noncomputable abbrev kL (Q : QV) : List V→St→Prop:=fun l σ=>Q (.lst l) σ
noncomputable abbrev kAsgD (j : Nat) (ρ : List (Option V)) (Q : QX) : Addr→List V→St→Prop:=fun _ l σ=>Q .next (ρ.set j (some (.lst l))) σ
noncomputable abbrev kAsgL (j : Nat) (ρ : List (Option V)) (Q : QX) : List V→St→Prop:=fun l σ=>Q .next (ρ.set j (some (.lst l))) σ
noncomputable abbrev kFrz (Q : QV) (D : Addr) (ys : List V) (σ' : St) : Prop:=∃ a xs i,V.ref D = V.ref a∧((D,Cell.lst ys) :: σ')[i]? = some (a,Cell.lst xs)∧Q (.lst xs) (((D,Cell.lst ys) :: σ').eraseIdx i)
noncomputable abbrev kIs (v₀ : V) (σ₀ : St) : V→St→Prop:=fun v σ=>v = v₀∧σ = σ₀
theorem ITC.pure (Ok : Φ.Ok) {scope : Scope} (hs : scopeC scope = true) (hc : capOk Φ.slots scope.names = true) {x : Str} {px : Pos} {i : Nat} (hi : (slotsC Φ.slots scope.names)[i]? = some (x,none)) {iter elt : Expr} {ifs : List Expr} {α : Type} (emb : α→V) (p : α→Bool) (f : α→V) {Q : Addr→List V→St→Prop}
  (h : IE1 prog w C Φ iter ρ σ (QCF1 prog w C Φ ρ scope ifs elt i emb p f (kAllD Q))) :
  ITC prog w C Φ scope (.Name x px) iter ρ σ [] (QComp prog w C Φ scope ifs (emitOf elt) ρ [] Q):=by
 refine ITC.one Ok hs hc hi fun A I s a R QQ E g=>h A I s a R QQ E fun vals σ' I' s' It hid St ⟨xs,hv,hz,hcf,hq⟩=>g vals σ' I' s' It hid St ?_
 subst hv
 refine ⟨fun k ys ρ₁ σ₁=>σ₁ = σ'∧ys = ((xs.take k).filter p).map f∧(ρ₁ = rhoC Φ.slots ρ scope.names ∨ ∃ o,ρ₁ = (rhoC Φ.slots ρ scope.names).set i o),⟨rfl,by simp,.inl rfl⟩,fun _ _ _ _ _ p hp=>(nomatch hp),fun k ys ρ₁ σ₁ L D okC hk ⟨e1,e2,e3⟩=>?_,fun D ys ρ₁ σ₁ ⟨e1,e2,e3⟩=>?_⟩
 ·subst e1
  have hk' : k < xs.length:=by simpa using hk
  have hx : xs[k]? = some xs[k]:=List.getElem?_eq_getElem hk'
  have hb : ρ₁.set i ((xs.map emb)[k]?) = (rhoC Φ.slots ρ scope.names).set i (some (emb xs[k])):=by
   refine rr (List.getElem?_map ..) ?_;refine rr hx ?_
   rcases e3 with rfl | ⟨o,rfl⟩
   ·rfl
   ·simp
  refine rr hb ?_
  have hlen : ys.length ≤ sizeLine:=by
   refine rr e2 ?_;refine rr (List.length_map ..) ?_
   exact Nat.le_trans (List.length_filter_le _ _) (by refine rr (List.length_take ..) ?_;lia)
  intro A I s a R QQ E g
  refine (hcf _ (List.getElem_mem hk') L D ys okC).cb (W:=[L]) hlen A I s a R QQ E fun ys' ρ' σ' I' s' ⟨q1,q2,q3⟩=>g ys' ρ' σ' I' s' ⟨q3,?_,.inr ⟨_,q2⟩⟩
  refine rr q1 ?_;refine rr e2 ?_
  exact take_filter hx
 ·subst e1
  refine rr e2 ?_;refine rr (List.length_map ..) ?_;refine rr (List.take_length ..) ?_
  exact hq D
theorem ITC.pure2 (Ok : Φ.Ok) (hh : Φ.hd = none) {scope : Scope} (hs : scopeC scope = true) (hc : capOk Φ.slots scope.names = true) {x y : Str} {px py pt : Pos} {kt : Nat} {i j : Nat} (hi : (slotsC Φ.slots scope.names)[i]? = some (x,none)) (hj : (slotsC Φ.slots scope.names)[j]? = some (y,none)) {iter elt : Expr} {ifs : List Expr}
  {α : Type} (emb : α→V × V) (p : α→Bool) (f : α→V) {Q : Addr→List V→St→Prop}
  (h : IE2 prog w C Φ iter ρ σ (QCF2 prog w C Φ ρ scope ifs elt i j emb p f (kAllD Q))) :
  ITC prog w C Φ scope (.Tuple [.Name x px,.Name y py] kt pt) iter ρ σ [] (QComp prog w C Φ scope ifs (emitOf elt) ρ [] Q):=by
 refine ITC.two Ok hh hs hc hi hj fun A I s a R QQ E g=>h A I s a R QQ E fun vals σ' I' s' It hid St ⟨xs,hv,hz,hcf,hq⟩=>g vals σ' I' s' It hid St ?_
 subst hv
 refine ⟨fun k ys ρ₁ σ₁=>σ₁ = σ'∧ys = ((xs.take k).filter p).map f∧(ρ₁ = rhoC Φ.slots ρ scope.names ∨ ∃ o o',ρ₁ = ((rhoC Φ.slots ρ scope.names).set i o).set j o'),⟨rfl,by simp,.inl rfl⟩,fun _ _ _ _ _ p hp=>(nomatch hp),fun k ys ρ₁ σ₁ L D okC hk ⟨e1,e2,e3⟩=>?_,fun D ys ρ₁ σ₁ ⟨e1,e2,e3⟩=>?_⟩
 ·subst e1
  have hk' : k < xs.length:=by simpa using hk
  have hx : xs[k]? = some xs[k]:=List.getElem?_eq_getElem hk'
  have hb : (ρ₁.set i ((xs.map emb)[k]?.map (·.1))).set j ((xs.map emb)[k]?.map (·.2)) = ((rhoC Φ.slots ρ scope.names).set i (some (emb xs[k]).1)).set j (some (emb xs[k]).2):=by
   refine rr (List.getElem?_map ..) ?_;refine rr hx ?_
   rcases e3 with rfl | ⟨o,o',rfl⟩
   ·rfl
   ·exact set_twice _ _ _ _ _ _ _
  refine rr hb ?_
  have hlen : ys.length ≤ sizeLine:=by
   refine rr e2 ?_;refine rr (List.length_map ..) ?_
   exact Nat.le_trans (List.length_filter_le _ _) (by refine rr (List.length_take ..) ?_;lia)
  intro A I s a R QQ E g
  refine (hcf _ (List.getElem_mem hk') L D ys okC).cb (W:=[L]) hlen A I s a R QQ E fun ys' ρ' σ' I' s' ⟨q1,q2,q3⟩=>g ys' ρ' σ' I' s' ⟨q3,?_,.inr ⟨_,_,q2⟩⟩
  refine rr q1 ?_;refine rr e2 ?_
  exact take_filter hx
 ·subst e1
  refine rr e2 ?_;refine rr (List.length_map ..) ?_;refine rr (List.take_length ..) ?_
  exact hq D
theorem EV.compF (Ok : Φ.Ok) {elt iter : Expr} {ifs : List Expr} {scope : Scope} {pos : Pos} (hs : scopeC scope = true) (hc : capOk Φ.slots scope.names = true) (hfs : ∀ x,foldedSetIterable iter Φ.env x = Pure.pure x) {Q : QV}
  {x : Str} {px : Pos} {i : Nat} (hi : (slotsC Φ.slots scope.names)[i]? = some (x,none)) {α : Type} (emb : α→V) (p : α→Bool) (f : α→V)
  (h : IE1 prog w C Φ iter ρ σ (QCF1 prog w C Φ ρ scope ifs elt i emb p f (kL Q))) :
  EV prog w C Φ (.ListComp elt [⟨.Name x px,iter,ifs,0⟩] scope pos) ρ σ Q:=by
 refine EV.freeze (EV.comp Ok hs hc hfs (nd:=[]) ?_)
 exact ITC.pure Ok hs hc hi emb p f (Q:=kFrz Q) fun A I s a R QQ E g =>
  h A I s a R QQ E fun vals σ' I' s' It hid St ⟨xs,h1,h2,h3,h4⟩=>g vals σ' I' s' It hid St ⟨xs,h1,h2,h3,fun D=>⟨D,_,0,rfl,rfl,h4⟩⟩
theorem EV.compF2 (Ok : Φ.Ok) (hh : Φ.hd = none) {elt iter : Expr} {ifs : List Expr} {scope : Scope} {pos : Pos} (hs : scopeC scope = true) (hc : capOk Φ.slots scope.names = true) (hfs : ∀ x,foldedSetIterable iter Φ.env x = Pure.pure x) {Q : QV}
  {x y : Str} {px py pt : Pos} {kt : Nat} {i j : Nat} (hi : (slotsC Φ.slots scope.names)[i]? = some (x,none)) (hj : (slotsC Φ.slots scope.names)[j]? = some (y,none)) {α : Type} (emb : α→V × V) (p : α→Bool) (f : α→V)
  (h : IE2 prog w C Φ iter ρ σ (QCF2 prog w C Φ ρ scope ifs elt i j emb p f (kL Q))) :
  EV prog w C Φ (.ListComp elt [⟨.Tuple [.Name x px,.Name y py] kt pt,iter,ifs,0⟩] scope pos) ρ σ Q:=by
 refine EV.freeze (EV.comp Ok hs hc hfs (nd:=[]) ?_)
 exact ITC.pure2 Ok hh hs hc hi hj emb p f (Q:=kFrz Q) fun A I s a R QQ E g =>
  h A I s a R QQ E fun vals σ' I' s' It hid St ⟨xs,h1,h2,h3,h4⟩=>g vals σ' I' s' It hid St ⟨xs,h1,h2,h3,fun D=>⟨D,_,0,rfl,rfl,h4⟩⟩
theorem EX1.assignComp (Ok : Φ.Ok) {elt target iter : Expr} {ifs : List Expr} {scope : Scope} {pos : Pos} (hs : scopeC scope = true) (hc : capOk Φ.slots scope.names = true) (hfs : ∀ x,foldedSetIterable iter Φ.env x = Pure.pure x)
  {y : Str} {py spos : Pos} {j : Nat} (hj : Φ.slots[j]? = some (y,none)) (hw : swapsWith (.ListComp elt [⟨target,iter,ifs,0⟩] scope pos) (some (.Name y py)) spos.line Φ.env = Pure.pure true) {nd : St} {Q : QX}
  (h : ITC prog w C Φ scope target iter ρ σ nd (QComp prog w C Φ scope ifs (emitOf elt) ρ nd (kAsgD j ρ Q))) :
  EX1 prog w C Φ (.Assign [.Name y py] (.ListComp elt [⟨target,iter,ifs,0⟩] scope pos) spos) ρ σ Q:=by
 intro A I s a R QQ E g
 refine rr (exec_Assign_Name_used _ _ _ _ hw ..) ?_
 refine wpAny_bind (wpAny_standAt (wpAny_bind ?_))
 refine wpAny_bind ?_
 refine comp_core Ok hs hc hfs (emitOf elt) (fun It D env=>rfl) (Q:=kAsgD j ρ Q) (use:=some (PySem.assign (.Name y py) Φ.env)) a R h fun D ys σ' I' s' L m q R' k h1 h2 h3 h4 hm=>?_
 refine wpAny_assign_Name (store_slot Ok hj (.inl rfl) R' (.ref D) fun s₂ R₂ k₂ kk=>?_)
 have hL : L ∉ [(none : Option Addr).getD Φ.env.locals]:=fun e=>h1 (by refine rr (List.mem_singleton.mp e ..) ?_;exact .head _)
 refine ⟨m,hm.at' fun o e=>kk L o hL e,fun h' hsb=>?_⟩
 have k' : Kp Φ.own I σ I' ((D,.lst ys) :: σ') s s₂:=(k.wider fun a h=>nomatch h).trans (k₂.wider (slot_own hj)) R'.apartI
 have kb : ∀ b o,b ∉ [L]→s₂.heap.get? b = some o→h'.get? b = some o:=fun b o hb e=>(hsb.2 b fun q=>hb (List.mem_singleton.mpr q)).trans e
 have hl : ∀ b o,s.heap.get? b = some o→b ∉ [L]:=fun b o e q=>by replace e:=(List.mem_singleton.mp q ..) ▸ e;replace e:=h4 ▸ e;exact nsm e
 haveI R₃ : Rel w.params C Φ I' (ρ.set j (some (.ref D))) ((D,.lst ys) :: σ') { s₂ with heap:=h' }:=R₂.offset (tk:=s₂.toks) (wr:=[L]) ⟨fun b hb=>by refine rr (List.mem_singleton.mp hb ..) ?_;exact h3,fun b hb=>by refine rr (List.mem_singleton.mp hb ..) ?_;exact h2,fun b hb=>by refine rr (List.mem_singleton.mp hb ..) ?_;exact h1⟩ kb
 have k₃ : Kp Φ.own I σ I' ((D,.lst ys) :: σ') s { s₂ with heap:=h' }:=by
  refine ⟨fun b o e x y=>kb b o (hl b o e) (k'.keep b o e x y),fun b e=>?_,k'.new,k'.im,k'.os⟩
  obtain ⟨o,ho⟩:=Option.isSome_iff_exists.mp e
  by_cases hbL : b∈[L]
  ·exact absurd hbL (hl b o ho)
  ·obtain ⟨o',ho'⟩:=Option.isSome_iff_exists.mp (k'.alive b e)
   refine rr (kb b o' hbL ho' ..) ?_;rfl
 obtain ⟨I₂,R₄,_,hk,_⟩:=R₃.freezeSlot (i:=0) (j:=j) (a:=D) (xs:=ys) (fun hjl=>by refine rr (List.getElem?_set_self (by simpa using hjl) ..) ?_;rfl) rfl
 replace R₄:=(List.set_set ..) ▸ R₄
 exact wpAny_pure (wpAny_pure (g .next _ _ _ _ .next q .next R₄ (hk _ _ _ _ k₃)))
end
section
inductive QFor1 (prog : Program) (w : World) (C : Addr) (Φ : Fc) (i : Nat) {α : Type} (emb : α→V) (body : List Stmt) (ρ : List (Option V)) (Q : QX) (vals : List V) (σ : St) : Prop
 | mk (xs : List α) (J : List α→List (Option V)→St→Prop) (e : vals = xs.map emb) (h0 : J xs ρ σ) (turn : ∀ x rest ρ₁ σ₁,(x :: rest) <:+ xs→J (x :: rest) ρ₁ σ₁→EX prog w C Φ body (ρ₁.set i (some (emb x))) σ₁ (kLoop (J rest) Q)) (fin : ∀ ρ₁ σ₁,J [] ρ₁ σ₁→Q .next ρ₁ σ₁)
inductive QFor2 (prog : Program) (w : World) (C : Addr) (Φ : Fc) (i j : Nat) {α : Type} (emb : α→V × V) (body : List Stmt) (ρ : List (Option V)) (Q : QX) (vals : List (V × V)) (σ : St) : Prop
 | mk (xs : List α) (J : List α→List (Option V)→St→Prop) (e : vals = xs.map emb) (h0 : J xs ρ σ) (turn : ∀ x rest ρ₁ σ₁,(x :: rest) <:+ xs→J (x :: rest) ρ₁ σ₁→EX prog w C Φ body ((ρ₁.set i (some (emb x).1)).set j (some (emb x).2)) σ₁ (kLoop (J rest) Q)) (fin : ∀ ρ₁ σ₁,J [] ρ₁ σ₁→Q .next ρ₁ σ₁)
noncomputable abbrev kBody (Q : QV) : QX:=fun fl _ σ'=>match fl with
 | .ret v=>Q v σ'
 | _=>Q .none σ'
theorem EX1.for1 (Ok : Φ.Ok) {x : Str} {px : Pos} {i : Nat} {o : Option Addr} (hi : Φ.slots[i]? = some (x,o)) (hs : o = none ∨ Φ.env.kindOf x = some .cell) {iter : Expr} {body : List Stmt} {pos : Pos} {Q : QX}
  (hfs : ∀ x,foldedSetIterable iter Φ.env x = Pure.pure x) {α : Type} (emb : α→V)
  (h : IE1 prog w C Φ iter ρ σ (QFor1 prog w C Φ i emb body ρ Q)) : EX1 prog w C Φ (.For (.Name x px) iter body [] pos) ρ σ Q:=by
 refine EX1.for_ hfs (IT.one Ok hi hs fun A I s a R QQ E g=>h A I s a R QQ E fun vals σ' I' s' It hid St ⟨xs,J,hv,hJ,turn,fin⟩=>g vals σ' I' s' It hid St ?_)
 subst hv
 refine ⟨fun k ρ₁ σ₁=>J (xs.drop k) ρ₁ σ₁,hJ,fun k ρ₁ σ₁ hk hJ=>?_,fun ρ₁ σ₁ hJ=>fin _ _ (by simpa using hJ)⟩
 have hk' : k < xs.length:=by simpa using hk
 replace hJ : J (xs.drop k) ρ₁ σ₁:=hJ
 replace hJ:=(List.drop_eq_getElem_cons hk' ..) ▸ hJ
 have e : (xs.map emb)[k]? = some (emb xs[k]):=by refine rr (List.getElem?_map ..) ?_;refine rr (List.getElem?_eq_getElem hk' ..) ?_;rfl
 show EX _ _ _ _ _ (ρ₁.set i ((xs.map emb)[k]?)) _ _
 refine rr e ?_
 exact turn xs[k] _ ρ₁ σ₁ (by refine rl (List.drop_eq_getElem_cons hk' ..) ?_;exact List.drop_suffix _ _) hJ
theorem EX1.for2 (Ok : Φ.Ok) (hh : Φ.hd = none) {x y : Str} {px py pt : Pos} {kt : Nat} {i j : Nat} {o o' : Option Addr} (hi : Φ.slots[i]? = some (x,o)) (hs : o = none ∨ Φ.env.kindOf x = some .cell) (hj : Φ.slots[j]? = some (y,o')) (hs' : o' = none ∨ Φ.env.kindOf y = some .cell)
  {iter : Expr} {body : List Stmt} {pos : Pos} {Q : QX}
  (hfs : ∀ x,foldedSetIterable iter Φ.env x = Pure.pure x) {α : Type} (emb : α→V × V)
  (h : IE2 prog w C Φ iter ρ σ (QFor2 prog w C Φ i j emb body ρ Q)) : EX1 prog w C Φ (.For (.Tuple [.Name x px,.Name y py] kt pt) iter body [] pos) ρ σ Q:=by
 refine EX1.for_ hfs (IT.two Ok hh hi hs hj hs' fun A I s a R QQ E g=>h A I s a R QQ E fun vals σ' I' s' It hid St ⟨xs,J,hv,hJ,turn,fin⟩=>g vals σ' I' s' It hid St ?_)
 subst hv
 refine ⟨fun k ρ₁ σ₁=>J (xs.drop k) ρ₁ σ₁,hJ,fun k ρ₁ σ₁ hk hJ=>?_,fun ρ₁ σ₁ hJ=>fin _ _ (by simpa using hJ)⟩
 have hk' : k < xs.length:=by simpa using hk
 replace hJ : J (xs.drop k) ρ₁ σ₁:=hJ
 replace hJ:=(List.drop_eq_getElem_cons hk' ..) ▸ hJ
 have e : (xs.map emb)[k]? = some (emb xs[k]):=by refine rr (List.getElem?_map ..) ?_;refine rr (List.getElem?_eq_getElem hk' ..) ?_;rfl
 show EX _ _ _ _ _ ((ρ₁.set i ((xs.map emb)[k]?.map (·.1))).set j ((xs.map emb)[k]?.map (·.2))) _ _
 refine rr e ?_
 exact turn xs[k] _ ρ₁ σ₁ (by refine rl (List.drop_eq_getElem_cons hk' ..) ?_;exact List.drop_suffix _ _) hJ
theorem OP.mulIr {i j : Int} {Q : QV} (hm : Builtin.Int.intBits j ≤ 64) (q : Q (.int (i * j)) σ) : OP prog w C Φ ρ σ .Mult (.int i) (.int j) Q:=OP.mulI (.of_right hm) q
theorem OP.divIs {i j : Int} {Q : QV} (h0 : j ≠ 0) (hd : j.natAbs < 1073741824) (q : Q (.int (i.fdiv j)) σ) : OP prog w C Φ ρ σ .FloorDiv (.int i) (.int j) Q:=OP.divI h0 (PyProof.noPylong_small hd) q
theorem FnBody.of {d : Fn} {ps : List Str} (ok : d.ok ps = true) (hl : 2 ≤ Φ.lvl) {vs : List V} {Q : QV} (ρ₀ : List (Option V)) (e : vs.map some ++ List.replicate ((slotsOf 0 d.scope.names).length - vs.length) none = ρ₀)
  (h : ∀ L f cdv,(Φ.enter d L f cdv).Ok→EX prog w C (Φ.enter d L f cdv) d.body ρ₀ σ (kBody Q)) : FnBody prog w C Φ d vs σ Q:=fun L f cdv=>by
 refine rr e ?_
 exact h L f cdv (Fn.enterOk ok hl L f cdv)
noncomputable abbrev Sl (Φ : Fc) (i : Nat) (x : String) (o : Option Addr) : Prop:=Φ.slots[i]? = some (Str.ofString x,o)
structure Nb (mg : Str→Option Value) : Prop where
 len : mg "len" = none
 range : mg "range" = none
 enumerate : mg "enumerate" = none
 zip : mg "zip" = none
 sum : mg "sum" = none
 max : mg "max" = none
 min : mg "min" = none
 str : mg "str" = none
 sorted : mg "sorted" = none
 ord : mg "ord" = none
 chr : mg "chr" = none
 bytes : mg "bytes" = none
 tuple : mg "tuple" = none
 list : mg "list" = none
 dict : mg "dict" = none
noncomputable def okN (x : Str) : Bool:=!(x == ("__debug__" : Str)) && !(x == ("__name__" : Str))
theorem okN.d {x : Str} (h : okN x = true) : (x == ("__debug__" : Str)) = false:=by unfold okN at h;simp only [Bool.and_eq_true,Bool.not_eq_true'] at h;exact h.1
theorem okN.n {x : Str} (h : okN x = true) : x ≠ ("__name__" : Str):=by unfold okN at h;simp only [Bool.and_eq_true,Bool.not_eq_true',beq_eq_false_iff_ne] at h;exact h.2
inductive BiB : Str→String→Prop
 | len : BiB "len" "len" | sum : BiB "sum" "sum" | max : BiB "max" "max" | min : BiB "min" "min" | sorted : BiB "sorted" "sorted" | ord : BiB "ord" "ord" | chr : BiB "chr" "chr"
inductive BiT : Str→String→Prop
 | str : BiT "str" "str" | bytes : BiT "bytes" "bytes" | tuple : BiT "tuple" "tuple" | list : BiT "list" "list" | dict : BiT "dict" "dict" | range : BiT "range" "range" | enumerate : BiT "enumerate" "enumerate" | zip : BiT "zip" "zip"
inductive BiE (x : Str) (v : Value) : Prop | mk (ok : okN x = true) (hv : bootBuiltins x = some v) (fN : ∀ {mg : Str→Option Value},Nb mg→mg x = none)
theorem BiB.e {x : Str} {id : String} : BiB x id→BiE x (.builtin id)
 | .len=>⟨by decide +kernel,by decide +kernel,Nb.len⟩
 | .sum=>⟨by decide +kernel,by decide +kernel,Nb.sum⟩
 | .max=>⟨by decide +kernel,by decide +kernel,Nb.max⟩
 | .min=>⟨by decide +kernel,by decide +kernel,Nb.min⟩
 | .sorted=>⟨by decide +kernel,by decide +kernel,Nb.sorted⟩
 | .ord=>⟨by decide +kernel,by decide +kernel,Nb.ord⟩
 | .chr=>⟨by decide +kernel,by decide +kernel,Nb.chr⟩
theorem BiT.e {x : Str} {id : String} : BiT x id→BiE x (.type id)
 | .str=>⟨by decide +kernel,by decide +kernel,Nb.str⟩
 | .bytes=>⟨by decide +kernel,by decide +kernel,Nb.bytes⟩
 | .tuple=>⟨by decide +kernel,by decide +kernel,Nb.tuple⟩
 | .list=>⟨by decide +kernel,by decide +kernel,Nb.list⟩
 | .dict=>⟨by decide +kernel,by decide +kernel,Nb.dict⟩
 | .range=>⟨by decide +kernel,by decide +kernel,Nb.range⟩
 | .enumerate=>⟨by decide +kernel,by decide +kernel,Nb.enumerate⟩
 | .zip=>⟨by decide +kernel,by decide +kernel,Nb.zip⟩
variable {mg mb : Str→Option Value} {x : Str} {id : String} {p pos : Pos} {e : Expr} {args : List Expr}
theorem EV.bB (B : BiB x id) (Ok : Φ.Ok) (hb : Φ.env.builtins = builtinsNs) (T : Tx Φ.h₀ mg mb) (N : Nb mg) {Q : QV} (hx : Φ.env.kindOf x = some .globalImplicit)
  (he : starEach (e :: args) Φ.env = (false,eval e Φ.env) :: starEach args Φ.env) (hpl : (backTo pos (starEach args Φ.env)).any (·.1) = false) (h : EA prog w C Φ pos (e :: args) ρ σ (kBJ prog w C Φ ρ id Q)) :
  EV prog w C Φ (.Call (.Name x p) (e :: args) [] pos) ρ σ Q:=by
 obtain ⟨ok,hv,fN⟩:=B.e
 exact EV.callB Ok hb T hx (okN.d ok) (fN N) hv (okN.n ok) he hpl h
theorem EV.bT (B : BiT x id) (Ok : Φ.Ok) (hb : Φ.env.builtins = builtinsNs) (T : Tx Φ.h₀ mg mb) (N : Nb mg) {Q : QV} (hx : Φ.env.kindOf x = some .globalImplicit)
  (he : starEach (e :: args) Φ.env = (false,eval e Φ.env) :: starEach args Φ.env) (hpl : (backTo pos (starEach args Φ.env)).any (·.1) = false) (h : EA prog w C Φ pos (e :: args) ρ σ (kBT prog w C Φ ρ id Q)) :
  EV prog w C Φ (.Call (.Name x p) (e :: args) [] pos) ρ σ Q:=by
 obtain ⟨ok,hv,fN⟩:=B.e
 exact EV.callT Ok hb T hx (okN.d ok) (fN N) hv (okN.n ok) he hpl h
theorem IE1.bT (B : BiT x id) (Ok : Φ.Ok) (hb : Φ.env.builtins = builtinsNs) (T : Tx Φ.h₀ mg mb) (N : Nb mg) {Q : List V→St→Prop} (hx : Φ.env.kindOf x = some .globalImplicit)
  (he : starEach (e :: args) Φ.env = (false,eval e Φ.env) :: starEach args Φ.env) (hpl : (backTo pos (starEach args Φ.env)).any (·.1) = false) (h : EA prog w C Φ pos (e :: args) ρ σ (kIB1 prog w C Φ ρ id Q)) :
  IE1 prog w C Φ (.Call (.Name x p) (e :: args) [] pos) ρ σ Q:=by
 obtain ⟨ok,hv,fN⟩:=B.e
 exact IE1.ofCall Ok hb T hx (okN.d ok) (fN N) hv (okN.n ok) he hpl h
theorem IE2.bT (B : BiT x id) (Ok : Φ.Ok) (hb : Φ.env.builtins = builtinsNs) (T : Tx Φ.h₀ mg mb) (N : Nb mg) {Q : List (V × V)→St→Prop} (hx : Φ.env.kindOf x = some .globalImplicit)
  (he : starEach (e :: args) Φ.env = (false,eval e Φ.env) :: starEach args Φ.env) (hpl : (backTo pos (starEach args Φ.env)).any (·.1) = false) (h : EA prog w C Φ pos (e :: args) ρ σ (kIB2 prog w C Φ ρ id Q)) :
  IE2 prog w C Φ (.Call (.Name x p) (e :: args) [] pos) ρ σ Q:=by
 obtain ⟨ok,hv,fN⟩:=B.e
 exact IE2.ofCall Ok hb T hx (okN.d ok) (fN N) hv (okN.n ok) he hpl h
end
section
theorem EX1.compF (Ok : Φ.Ok) {elt iter : Expr} {ifs : List Expr} {scope : Scope} {pos : Pos} (hs : scopeC scope = true) (hc : capOk Φ.slots scope.names = true) (hfs : ∀ x,foldedSetIterable iter Φ.env x = Pure.pure x)
  {y : Str} {py spos : Pos} {j : Nat} (hj : Φ.slots[j]? = some (y,none)) {x : Str} {px : Pos} (hw : swapsWith (.ListComp elt [⟨.Name x px,iter,ifs,0⟩] scope pos) (some (.Name y py)) spos.line Φ.env = Pure.pure true) {Q : QX}
  {i : Nat} (hi : (slotsC Φ.slots scope.names)[i]? = some (x,none)) {α : Type} (emb : α→V) (p : α→Bool) (f : α→V)
  (h : IE1 prog w C Φ iter ρ σ (QCF1 prog w C Φ ρ scope ifs elt i emb p f (kAsgL j ρ Q))) :
  EX1 prog w C Φ (.Assign [.Name y py] (.ListComp elt [⟨.Name x px,iter,ifs,0⟩] scope pos) spos) ρ σ Q:=by
 refine EX1.assignComp Ok hs hc hfs hj hw (nd:=[]) ?_
 exact ITC.pure Ok hs hc hi emb p f (Q:=kAsgD j ρ Q) fun A I s a R QQ E g =>
  h A I s a R QQ E fun vals σ' I' s' It hid St ⟨xs,h1,h2,h3,h4⟩=>g vals σ' I' s' It hid St ⟨xs,h1,h2,h3,fun D=>h4⟩
noncomputable def innerT (elt t1 i1 : Expr) (ifs1 : List Expr) (t2 i2 : Expr) (scope : Scope) (pos : Pos) (D : Addr) (env : Env) : Sem Unit:=do
 let x ← eval i2 env
 standAt i2.pos
 let x ← foldedSetIterable i2 env x
 let _ ← runOwn (.compStart (.ListComp elt [⟨t1,i1,ifs1,0⟩,⟨t2,i2,[],0⟩] scope pos) 1 (← holding [x] (pyIter x)) (.ref D) env) env
theorem start_inner {elt t1 i1 : Expr} {ifs1 : List Expr} {t2 i2 : Expr} {scope : Scope} {pos : Pos} {it acc : Value} {env : Env} {A : Around} {R : Result→Shared→Prop} {s : Shared}
  (h0 : codeAny (model prog w) A (.compLoop (.ListComp elt [⟨t1,i1,ifs1,0⟩,⟨t2,i2,[],0⟩] scope pos) 1 it acc env) R s)
  (h : wpAny (model prog w) A (pyIter it) (fun it' s'=>codeAny (model prog w) A (.compLoop (.ListComp elt [⟨t1,i1,ifs1,0⟩,⟨t2,i2,[],0⟩] scope pos) 1 it' acc env) R s')
   (notedBy (model prog w) A env fun x s'=>R (.error x) s') s) :
  codeAny (model prog w) A (.compStart (.ListComp elt [⟨t1,i1,ifs1,0⟩,⟨t2,i2,[],0⟩] scope pos) 1 it acc env) R s:=by
 refine codeAny_of_tree ?_
 refine wpAny_notedAt ?_
 refine wpAny_bind (wpAny_askSetting (wpAny_ite ?_))
 split
 ·first
   | exact wpAny_bind (wpAny_pure (wpAny_pure (And.intro rfl h0)))
   | exact wpAny_pure (And.intro rfl h0)
 ·first
   | exact wpAny_bind (wpAny_rule (wpAny_bind (wpAny_standAt (wpAny_bind (wpAny_mono h (fun it' s' h'=>wpAny_pure (And.intro rfl h')) fun _ _ x=>x)))))
   | (refine wpAny_bind (wpAny_rule ?_);show wpAny _ _ (standAt i2.pos >>= _) _ _ s;exact wpAny_bind (wpAny_standAt (wpAny_bind (wpAny_mono h (fun it' s' h'=>wpAny_pure (And.intro rfl h')) fun _ _ x=>x))))
theorem CT.inner (Ok : Φ.Ok) {elt t1 i1 : Expr} {ifs1 : List Expr} {x2 : Str} {px2 : Pos} {i2 : Expr} {scope : Scope} {pos : Pos} {D : Addr} {ys : List V} {i : Nat} (hi : Φ.slots[i]? = some (x2,none)) (hfs : ∀ x,foldedSetIterable i2 Φ.env x = Pure.pure x)
  {α : Type} (emb : α→V) (f : α→V) {Q : List V→List (Option V)→St→Prop}
  (h : IE1 prog w C Φ i2 ρ ((D,.lst ys) :: σ) fun vals σ'=>σ' = (D,.lst ys) :: σ∧∃ xs : List α,vals = xs.map emb∧ys.length + xs.length ≤ sizeLine ∧
   (∀ x∈xs,∀ ys',EV prog w C Φ elt (ρ.set i (some (emb x))) ((D,.lst ys') :: σ) fun v σ''=>v = f x∧σ'' = (D,.lst ys') :: σ)∧∀ ρ',(ρ' = ρ ∨ ∃ o,ρ' = ρ.set i o)→Q (ys ++ xs.map f) ρ' σ) :
  CT prog w C Φ [Φ.env.locals] D (innerT elt t1 i1 ifs1 (.Name x2 px2) i2 scope pos D Φ.env) ys ρ σ Q:=by
 intro A I s a R QQ E g
 refine wpAny_bind (wpAny_mono (h A I s a R (fun it s₁=>wpAny (model prog w) A (runOwn (.compStart (.ListComp elt [⟨t1,i1,ifs1,0⟩,⟨.Name x2 px2,i2,[],0⟩] scope pos) 1 it (.ref D) Φ.env) Φ.env) (fun _ s₂=>QQ s₂) E s₁) E ?_) (fun xv s₁ h₁=>?_) fun _ _ x=>x)
 ·rintro vals σ' I' s' It hid St ⟨e,xs,hv,hz,helt,hq⟩ S st R' k' O' hn
  subst e hv
  haveI X:=S.itr Ok (px:=px2) hi (.inl rfl)
  replace X:=(List.length_map ..) ▸ X
  refine wpAny_runOwn (h:=none) ?_
  have loop : ∀ R₀ : Result→Shared→Prop,(∀ ys' ρ' σ' I'' s'',ys' = ys ++ xs.map f∧(ρ' = ρ ∨ ∃ o,ρ' = ρ.set i o)∧σ' = σ→Rel w.params C Φ I'' ρ' ((D,.lst ys') :: σ') s''→Kp [Φ.env.locals] I ((D,.lst ys) :: σ) I'' ((D,.lst ys') :: σ') s s''→R₀ (.ok .next) s'') →
    codeAny (model prog w) A (.compLoop (.ListComp elt [⟨t1,i1,ifs1,0⟩,⟨.Name x2 px2,i2,[],0⟩] scope pos) 1 (.ref It) (.ref D) Φ.env) R₀ s':=by
   intro R₀ hR
   refine compLoop_T (p:=i2.pos) (T:=emitOf elt D Φ.env) (ifs:=[]) (target:=.Name x2 px2) a rfl X (fun k ys' ρ₁ σ₁=>ys' = ys ++ (xs.take k).map f∧(ρ₁ = ρ ∨ ∃ o,ρ₁ = ρ.set i o)∧σ₁ = σ) (fun k ys' ρ₁ σ₁ hk hJ=>?_) (fun k ys' ρ₁ σ₁ hJ p hp=>nomatch hp) (I₀:=I) (σ₀:=(D,.lst ys) :: σ) (s₀:=s) hn R' (k'.wider fun a h=>nomatch h) ⟨st,fun _ _ e=>e,R'.im⟩ O' ⟨by simp,.inl rfl,rfl⟩ fun ys' ρ' σ' I'' s'' hJ R'' K''=>?_
   ·obtain ⟨e1,e2,e3⟩:=hJ
    subst e3
    haveI hx : xs[k]? = some xs[k]:=List.getElem?_eq_getElem hk
    haveI hb : ρ₁.set i ((xs.map emb)[k]?) = ρ.set i (some (emb xs[k])):=by
     refine rr (List.getElem?_map ..) ?_;refine rr hx ?_
     rcases e2 with rfl | ⟨o,rfl⟩
     ·rfl
     ·simp
    refine rr hb ?_
    refine CB.nil (CT.emit (by refine rr e1 ?_;simp;lia) ((helt _ (List.getElem_mem hk) ys').mono fun v σ'' ⟨q1,q2⟩=>⟨σ₁,by refine rr q2 ?_;exact .refl _,?_,.inr ⟨_,rfl⟩,rfl⟩))
    haveI e4 : xs.take (k + 1) = xs.take k ++ [xs[k]]:=by refine rr (List.take_add_one ..) ?_;refine rr hx ?_;rfl
    refine rr e1 ?_;refine rr q1 ?_;refine rr e4 ?_
    simp only [List.map_append,List.map_cons,List.map_nil,List.append_assoc]
   ·obtain ⟨e1,e2,e3⟩:=hJ
    exact hR _ _ _ _ _ ⟨by refine rr e1 ?_;refine rr (List.take_length ..) ?_;rfl,e2,e3⟩ R'' K''
  have fin : ∀ ys' ρ' σ' I'' s'',ys' = ys ++ xs.map f∧(ρ' = ρ ∨ ∃ o,ρ' = ρ.set i o)∧σ' = σ→Rel w.params C Φ I'' ρ' ((D,.lst ys') :: σ') s''→Kp [Φ.env.locals] I ((D,.lst ys) :: σ) I'' ((D,.lst ys') :: σ') s s''→QQ s'':=by
   rintro ys' ρ' σ' I'' s'' ⟨rfl,e2,rfl⟩ R'' K''
   exact g _ _ _ _ _ (hq ρ' e2) R'' K''
  exact start_inner (loop _ fin) (X.self 0 I' _ _ _ ⟨st,fun _ _ e=>e,R'.im⟩ (loop _ fin))
 ·refine wpAny_bind (wpAny_standAt (wpAny_bind (wpAny_of_eq (hfs xv) (wpAny_bind (wpAny_holding (wpAny_mono h₁ (fun it s₂ h₂=>?_) fun _ _ x=>x))))))
  exact wpAny_bind (wpAny_mono h₂ (fun _ s₃ h₃=>wpAny_pure h₃) fun _ _ x=>x)
theorem turn_inner {elt t1 i1 t2 i2 : Expr} {scope : Scope} {pos : Pos} (It D : Addr) (env : Env) :
  compTurn (.ListComp elt [⟨t1,i1,[],0⟩,⟨t2,i2,[],0⟩] scope pos) 0 (.ref It) (.ref D) env = turnTree i1.pos t1 [] It env (innerT elt t1 i1 [] t2 i2 scope pos D env) (.compLoop (.ListComp elt [⟨t1,i1,[],0⟩,⟨t2,i2,[],0⟩] scope pos) 0 (.ref It) (.ref D) env):=by
 unfold compTurn turnTree innerT
 simp [bind_assoc]
 refine congrArg (fun k=>standAt i1.pos >>= fun _=>k) (congrArg (fun k=>pyNext (.ref It) >>= k) (funext fun r=>?_))
 cases r <;> rfl
theorem set_here {α : Type} {l : List α} {i : Nat} {x : α} (h : l[i]? = some x) : l.set i x = l:=by
 refine List.ext_getElem? fun j=>?_
 by_cases q : i = j
 ·subst q
  refine rr (List.getElem?_set_self (List.getElem?_eq_some_iff.mp h).1 ..) ?_;refine rr h ?_;rfl
 ·refine rr (List.getElem?_set_ne q ..) ?_;rfl
inductive QFF (prog : Program) (w : World) (C : Addr) (Φ : Fc) (ρ : List (Option V)) (scope : Scope) (elt iter2 : Expr) (i1 i2 : Nat) {α β : Type} (emb1 : α→V) (emb2 : β→V) (f : α→β→V) (P : List V→St→Prop) (vals : List V) (σ' : St) : Prop
 | mk (xs : List α) (zs : List β) (e : vals = xs.map emb1) (hz : xs.length * zs.length ≤ sizeLine)
  (cf : ∀ x∈xs,∀ L D ys o,(Φ.comp scope L).Ok→IE1 prog w C (Φ.comp scope L) iter2 (((rhoC Φ.slots ρ scope.names).set i1 (some (emb1 x))).set i2 o) ((D,.lst ys) :: σ') fun vals σ''=>σ'' = (D,.lst ys) :: σ'∧vals = zs.map emb2 ∧
   ∀ z∈zs,∀ ys',EV prog w C (Φ.comp scope L) elt (((rhoC Φ.slots ρ scope.names).set i1 (some (emb1 x))).set i2 (some (emb2 z))) ((D,.lst ys') :: σ') (kIs (f x z) ((D,.lst ys') :: σ'))) (q : P (xs.flatMap fun x=>zs.map (f x)) σ')
theorem EX1.compFF (Ok : Φ.Ok) {elt iter1 iter2 : Expr} {scope : Scope} {pos : Pos} (hs : scopeC scope = true) (hc : capOk Φ.slots scope.names = true) (hfs : ∀ x,foldedSetIterable iter1 Φ.env x = Pure.pure x)
  {y : Str} {py spos : Pos} {j : Nat} (hj : Φ.slots[j]? = some (y,none)) {x1 x2 : Str} {px1 px2 : Pos} (hw : swapsWith (.ListComp elt [⟨.Name x1 px1,iter1,[],0⟩,⟨.Name x2 px2,iter2,[],0⟩] scope pos) (some (.Name y py)) spos.line Φ.env = Pure.pure true) {Q : QX}
  {i1 i2 : Nat} (hi1 : (slotsC Φ.slots scope.names)[i1]? = some (x1,none)) (hi2 : (slotsC Φ.slots scope.names)[i2]? = some (x2,none)) (h12 : i1 ≠ i2)
  (hn1 : (rhoC Φ.slots ρ scope.names)[i1]? = some none) (hn2 : (rhoC Φ.slots ρ scope.names)[i2]? = some none) (hfs2 : ∀ L x,foldedSetIterable iter2 (Φ.comp scope L).env x = Pure.pure x) {α β : Type} (emb1 : α→V) (emb2 : β→V) (f : α→β→V)
  (h : IE1 prog w C Φ iter1 ρ σ (QFF prog w C Φ ρ scope elt iter2 i1 i2 emb1 emb2 f (kAsgL j ρ Q))) :
  EX1 prog w C Φ (.Assign [.Name y py] (.ListComp elt [⟨.Name x1 px1,iter1,[],0⟩,⟨.Name x2 px2,iter2,[],0⟩] scope pos) spos) ρ σ Q:=by
 intro A I s a R QQ E g
 refine rr (exec_Assign_Name_used _ _ _ _ hw ..) ?_
 refine wpAny_bind (wpAny_standAt (wpAny_bind ?_))
 refine wpAny_bind ?_
 refine comp_core (nd:=[]) Ok hs hc hfs (fun D env=>innerT elt (.Name x1 px1) iter1 [] (.Name x2 px2) iter2 scope pos D env) (fun It D env=>turn_inner It D env) (Q:=kAsgD j ρ Q) (use:=some (PySem.assign (.Name y py) Φ.env)) a R ?_ fun D ys σ' I' s' L m q R' k h1 h2 h3 h4 hm=>?_
 ·refine ITC.one Ok hs hc hi1 fun A I s a R QQ E g=>h A I s a R QQ E fun vals σ' I' s' It hid St ⟨xs,zs,hv,hz,hcf,hq⟩=>g vals σ' I' s' It hid St ?_
  subst hv
  refine ⟨fun k ys ρ₁ σ₁=>σ₁ = σ'∧ys = (xs.take k).flatMap (fun x=>zs.map (f x))∧∃ o1 o2,ρ₁ = ((rhoC Φ.slots ρ scope.names).set i1 o1).set i2 o2,⟨rfl,by simp,none,none,by refine rr (set_here hn1 ..) ?_;refine rr (set_here hn2 ..) ?_;rfl⟩,fun _ _ _ _ _ p hp=>(nomatch hp),fun k ys ρ₁ σ₁ L D okC hk ⟨e1,e2,o1,o2,e3⟩=>?_,fun D ys ρ₁ σ₁ ⟨e1,e2,e3⟩=>?_⟩
  ·subst e1
   have hk' : k < xs.length:=by simpa using hk
   haveI hx : xs[k]? = some xs[k]:=List.getElem?_eq_getElem hk'
   haveI hb : ρ₁.set i1 ((xs.map emb1)[k]?) = ((rhoC Φ.slots ρ scope.names).set i1 (some (emb1 xs[k]))).set i2 o2:=by
    refine rr (List.getElem?_map ..) ?_;refine rr hx ?_;refine rr e3 ?_;refine rr (List.set_comm _ _ (fun e=>h12 e.symm) ..) ?_;refine rr (List.set_set ..) ?_
    rfl
   haveI e4 : xs.take (k + 1) = xs.take k ++ [xs[k]]:=by refine rr (List.take_add_one ..) ?_;refine rr hx ?_;rfl
   have lf : ∀ l : List α,(l.flatMap fun x=>zs.map (f x)).length = l.length * zs.length:=by
    intro l
    induction l with
    | nil=>simp
    | cons a l ih=>refine rr (List.flatMap_cons ..) ?_;refine rr (List.length_append ..) ?_;refine rr ih ?_;refine rr (List.length_map ..) ?_;refine rr (List.length_cons ..) ?_;refine rr (Nat.succ_mul ..) ?_;lia
   haveI hle : ys.length + zs.length ≤ sizeLine:=by
    have z1 : (xs.take (k + 1)).length * zs.length ≤ xs.length * zs.length:=Nat.mul_le_mul_right _ (by refine rr (List.length_take ..) ?_;lia)
    replace z1:=e4 ▸ z1;replace z1:=(List.length_append ..) ▸ z1;replace z1:=(List.length_singleton ..) ▸ z1;replace z1:=(Nat.succ_mul ..) ▸ z1
    rw [e2,lf]
    lia
   refine rr hb ?_
   refine CB.nil (CT.inner okC (i:=i2) hi2 (hfs2 L) emb2 (f xs[k]) ?_)
   haveI z:=hcf xs[k] (List.getElem_mem hk') L D ys o2 okC
   intro A I s a R QQ E g
   refine z A I s a R QQ E fun vals σ'' I'' s'' It hid St ⟨q1,q2,q3⟩=>g vals σ'' I'' s'' It hid St ⟨q1,zs,q2,hle,fun z hz ys'=>?_,fun ρ' hρ'=>⟨rfl,?_,?_⟩⟩
   ·refine rr (List.set_set ..) ?_
    exact q3 z hz ys'
   ·refine rr e2 ?_;refine rr e4 ?_;refine rr (List.flatMap_append ..) ?_
    simp
   ·rcases hρ' with rfl | ⟨o,rfl⟩
    ·exact ⟨_,_,rfl⟩
    ·exact ⟨_,_,by refine rr (List.set_set ..) ?_;rfl⟩
  ·subst e1
   refine rr e2 ?_;refine rr (List.length_map ..) ?_;refine rr (List.take_length ..) ?_
   exact hq
 ·refine wpAny_assign_Name (store_slot Ok hj (.inl rfl) R' (.ref D) fun s₂ R₂ k₂ kk=>?_)
  haveI hL : L ∉ [(none : Option Addr).getD Φ.env.locals]:=fun e=>h1 (by refine rr (List.mem_singleton.mp e ..) ?_;exact .head _)
  refine ⟨m,hm.at' fun o e=>kk L o hL e,fun h' hsb=>?_⟩
  have k' : Kp Φ.own I σ I' ((D,.lst ys) :: σ') s s₂:=(k.wider fun a h=>nomatch h).trans (k₂.wider (slot_own hj)) R'.apartI
  have kb : ∀ b o,b ∉ [L]→s₂.heap.get? b = some o→h'.get? b = some o:=fun b o hb e=>(hsb.2 b fun q=>hb (List.mem_singleton.mpr q)).trans e
  have hl : ∀ b o,s.heap.get? b = some o→b ∉ [L]:=fun b o e q=>by replace e:=(List.mem_singleton.mp q ..) ▸ e;replace e:=h4 ▸ e;exact nsm e
  haveI R₃ : Rel w.params C Φ I' (ρ.set j (some (.ref D))) ((D,.lst ys) :: σ') { s₂ with heap:=h' }:=R₂.offset (tk:=s₂.toks) (wr:=[L]) ⟨fun b hb=>by refine rr (List.mem_singleton.mp hb ..) ?_;exact h3,fun b hb=>by refine rr (List.mem_singleton.mp hb ..) ?_;exact h2,fun b hb=>by refine rr (List.mem_singleton.mp hb ..) ?_;exact h1⟩ kb
  have k₃ : Kp Φ.own I σ I' ((D,.lst ys) :: σ') s { s₂ with heap:=h' }:=by
   refine ⟨fun b o e x y=>kb b o (hl b o e) (k'.keep b o e x y),fun b e=>?_,k'.new,k'.im,k'.os⟩
   obtain ⟨o,ho⟩:=Option.isSome_iff_exists.mp e
   by_cases hbL : b∈[L]
   ·exact absurd hbL (hl b o ho)
   ·obtain ⟨o',ho'⟩:=Option.isSome_iff_exists.mp (k'.alive b e)
    refine rr (kb b o' hbL ho' ..) ?_;rfl
  obtain ⟨I₂,R₄,_,hk,_⟩:=R₃.freezeSlot (i:=0) (j:=j) (a:=D) (xs:=ys) (fun hjl=>by refine rr (List.getElem?_set_self (by simpa using hjl) ..) ?_;rfl) rfl
  replace R₄:=(List.set_set ..) ▸ R₄
  exact wpAny_pure (wpAny_pure (g .next _ _ _ _ .next q .next R₄ (hk _ _ _ _ k₃)))
end
noncomputable def spl (c : Nat) : List Nat→List (List Nat)
 | []=>[[]]
 | a :: r=>if a = c then [] :: spl c r else (match spl c r with
  | []=>[[a]]
  | p :: ps=>(a :: p) :: ps)
theorem spl_ne (c : Nat) : ∀ x,spl c x ≠ []
 | []=>by simp [spl]
 | a :: r=>by
  refine rr (spl.eq_2 ..) ?_
  split
  ·simp
  ·split <;> simp
theorem spl_free (c : Nat) : ∀ (p : List Nat),c ∉ p→spl c p = [p]
 | [],_=>rfl
 | a :: p,h=>by
  haveI h1 : a ≠ c:=fun e=>h (e ▸ .head _)
  have h2 : c ∉ p:=fun e=>h (.tail _ e)
  rw [spl];refine rr (if_neg h1 ..) ?_;refine rr (spl_free c p h2 ..) ?_;rfl
theorem spl_app (c : Nat) : ∀ (p r : List Nat),c ∉ p→spl c (p ++ c :: r) = p :: spl c r
 | [],r,_=>by simp [spl]
 | a :: p,r,h=>by
  haveI h1 : a ≠ c:=fun e=>h (e ▸ .head _)
  haveI h2 : c ∉ p:=fun e=>h (.tail _ e)
  refine rr (List.cons_append ..) ?_;rw [spl];refine rr (if_neg h1 ..) ?_;refine rr (spl_app c p r h2 ..) ?_;rfl
theorem spl_glue (c : Nat) : ∀ (ps : List (List Nat)),ps ≠ []→(∀ p∈ps,c ∉ p)→spl c (glue [c] ps) = ps
 | [],h,_=>absurd rfl h
 | [p],_,hf=>spl_free c p (hf p (.head _))
 | p :: q :: r,_,hf=>by
  haveI e : glue [c] (p :: q :: r) = p ++ c :: glue [c] (q :: r):=by simp [glue]
  rw [e,spl_app c p _ (hf p (.head _)),spl_glue c (q :: r) (by simp) fun p hp=>hf p (.tail _ hp)]
theorem strJoin_glue (sep : List Nat) : ∀ ss : List (List Nat),Str.join (mkS sep) (ss.map mkS) = mkS (glue sep ss)
 | []=>rfl
 | [x]=>rfl
 | x :: y :: r=>by
  show mkS x ++ mkS sep ++ Str.join (mkS sep) ((y :: r).map mkS) = _
  rw [strJoin_glue sep (y :: r),str_app,str_app]
  rfl
theorem unmk (s : Str) : mkS s.cps.toList = s:=by cases s;simp
theorem split_one (c : Nat) (x : List Nat) : Txt.split (mkS x) (mkS [c]) = (spl c x).map mkS:=by
 haveI h1:=StrLaws.join_split (mkS x) (mkS [c])
 haveI h2:=StrLaws.split_free (mkS x) c
 haveI h3 : Txt.split (mkS x) (mkS [c]) ≠ []:=fun e=>by have:=split_pos (mkS x) (mkS [c]);replace this:=e ▸ this;simp at this
 haveI e : Txt.split (mkS x) (mkS [c]) = ((Txt.split (mkS x) (mkS [c])).map fun s=>s.cps.toList).map mkS:=by
  refine rr (List.map_map ..) ?_
  conv=>lhs;rw [← List.map_id (Txt.split (mkS x) (mkS [c]))]
  exact List.map_congr_left fun s _=>(unmk s).symm
 rw [e,strJoin_glue] at h1
 haveI h4 : glue [c] ((Txt.split (mkS x) (mkS [c])).map fun s=>s.cps.toList) = x:=mkS_inj h1
 refine rr e ?_
 congr 1
 haveI:=spl_glue c ((Txt.split (mkS x) (mkS [c])).map fun s=>s.cps.toList) (by simpa using h3) (by
  intro p hp
  obtain ⟨s,hs,rfl⟩:=List.mem_map.mp hp
  exact h2 s hs)
 replace this:=h4 ▸ this
 exact this.symm
section
variable {Q : QV}
theorem vrs_values {I : Im} : ∀ (l : List (Str × Tok)),VRs C I ((l.map (·.1)).map fun s=>V.str s.cps.toList) (strValues l)
 | []=>.nil
 | (s,t) :: l=>.cons (by have:=VR.str (C:=C) (I:=I) s.cps.toList t;replace this:=(show (⟨s.cps.toList.toArray⟩ : Str) = s from unmk s ..) ▸ this;exact this) (vrs_values l)
set_option tactic.hygienic true in
theorem BJ.splitG {x y : List Nat} {ps : List (List Nat)} (hy : y ≠ []) (hz : x.length + 2 ≤ sizeLine) (e : Txt.split (mkS x) (mkS y) = ps.map mkS) (q : Q (.lst (ps.map .str)) σ) : BJ prog w C Φ ρ σ "str.split" [.str x,.str y] Q:=by
 intro A I s vals a R hv QQ E g
 obtain ⟨v,u,rfl,h1,h2⟩:=hv.inv2
 obtain ⟨_,rfl⟩:=h1.inv;obtain ⟨_,rfl⟩:=h2.inv
 rename_i t u
 have hyl : ((mkS y).length == 0) = false:=by
  refine rr str_len ?_
  cases y with
  | nil=>exact absurd rfl hy
  | cons a y=>rfl
 have fin : ∀ (l : List (Str × Tok)) (tk : Nat),l.map (·.1) = Txt.split (mkS x) (mkS y)→QQ (.ref s.heap.objs.size) { s with heap:=s.heap.push { cls:=.type "list",data:=.seq (strValues l).toArray },toks:=tk }:=by
  intro l tk hl
  haveI hps : (l.map (·.1)).map (fun s=>V.str s.cps.toList) = ps.map .str:=by
   refine rr hl ?_;refine rr e ?_;refine rr (List.map_map ..) ?_
   exact List.map_congr_left fun p _=>by simp
  refine g.push (v:=.lst (ps.map .str)) R (fun I' im hI=>?_) rfl q
  refine rl hps ?_
  exact .mk_lst hI (vrs_values l)
 haveI hn : (Builtin.Str.partsBetween (mkS x) (Builtin.Str.occurrences (mkS x) (mkS y) 0 (mkS x).length ((mkS x).length + 1)) (mkS y).length).length ≤ sizeLine:=by
  haveI e1:=StrLaws.occ_length_le (mkS x) (mkS y) 0 (mkS x).length ((mkS x).length + 1)
  rw [length_partsBetween]
  rw [str_len] at e1 ⊢
  lia
 haveI hx : (mkS x).length ≤ sizeLine:=by refine rr str_len ?_;lia
 cases c1 : (decide ((mkS x).length < (mkS y).length) || decide (Builtin.Str.strKind (mkS x) < Builtin.Str.strKind (mkS y)))
 ·cases hf : (Builtin.Str.occurrences (mkS x) (mkS y) 0 (mkS x).length ((mkS x).length + 1)).isEmpty
  ·refine call_meets F.slot_str_split (typeIs_str _ _ _) F.entry_str_split (F.args_str_split_2 _ _) (meets_str_split_sep (mkS x) (mkS y) t u c1 hyl hf hx hn) ?_
   rw [strsFrom_eq]
   refine fin (numbered s.toks _) _ ((numbered_texts _ _).trans ?_)
   unfold Txt.split
   refine rr c1 ?_;refine rr hf ?_;rfl
  ·refine call_meets F.slot_str_split (typeIs_str _ _ _) F.entry_str_split (F.args_str_split_2 _ _) (meets_str_split_not_found (mkS x) (mkS y) t u c1 hyl hf) (fin [(mkS x,t)] s.toks ?_)
   unfold Txt.split
   refine rr c1 ?_;refine rr hf ?_;rfl
 ·refine call_meets F.slot_str_split (typeIs_str _ _ _) F.entry_str_split (F.args_str_split_2 _ _) (meets_str_split_cannot_occur (mkS x) (mkS y) t u c1) (fin [(mkS x,t)] s.toks ?_)
  unfold Txt.split
  refine rr c1 ?_;rfl
set_option tactic.hygienic true in
theorem BJ.split1 {x : List Nat} {c : Nat} (hz : x.length + 2 ≤ sizeLine) (q : Q (.lst ((spl c x).map .str)) σ) : BJ prog w C Φ ρ σ "str.split" [.str x,.str [c]] Q:=BJ.splitG (by simp) hz (split_one c x) q
theorem drop_takeWhile (p : Nat→Bool) : ∀ x : List Nat,x.drop (x.takeWhile p).length = x.dropWhile p
 | []=>rfl
 | a :: x=>by
  refine rr (List.takeWhile_cons ..) ?_;refine rr (List.dropWhile_cons ..) ?_
  split
  ·simpa using drop_takeWhile p x
  ·rfl
theorem lstrip_one (c : Nat) (x : List Nat) : Txt.lstripChars (mkS x) (mkS [c]) = mkS (x.dropWhile fun a=>a == c):=by
 unfold Txt.lstripChars
 refine rr (PyProof.Rows.stripBy_eq ..) ?_
 haveI hg : (mkS [c]).cps.contains = fun a=>a == c:=by
  funext a
  by_cases h : a = c
  ·subst h;simp
  ·haveI h2 : (a == c) = false:=beq_eq_false_iff_ne.mpr h
   refine rr h2 ?_
   simp
   exact fun e=>h e
 refine rr hg ?_
 haveI h1 : stripLo (fun a=>a == c) true (mkS x) = (x.takeWhile fun a=>a == c).length:=by simp [stripLo]
 haveI h2 : stripHi (fun a=>a == c) false (mkS x) (stripLo (fun a=>a == c) true (mkS x)) = x.length:=by simp [stripHi,str_len]
 rw [h2,h1,strSub_mk]
 congr 1
 haveI h3:=drop_takeWhile (fun a=>a == c) x
 haveI h4 : (x.takeWhile fun a=>a == c).length ≤ x.length:=takeWhile_len_le _ _
 refine rr h3 ?_;rw [List.take_of_length_le]
 refine rl h3 ?_;refine rr (List.length_drop ..) ?_
 exact Nat.le_refl _
theorem BJ.lstrip1 {x : List Nat} {c : Nat} (hz : x.length ≤ sizeLine) (q : Q (.str (x.dropWhile fun a=>a == c)) σ) : BJ prog w C Φ ρ σ "str.lstrip" [.str x,.str [c]] Q:=by
 intro A I s vals a R hv QQ E g
 obtain ⟨v,u,rfl,h1,h2⟩:=hv.inv2
 obtain ⟨_,rfl⟩:=h1.inv;obtain ⟨_,rfl⟩:=h2.inv
 refine SC.lstripChars (fun t' k=>?_) (by refine rr str_len ?_;exact hz)
 rw [lstrip_one]
 exact g.toks R (.str _ _) q
end
theorem rng_mem {a b k : Int} (h : k∈rng a b) : a ≤ k∧k < b:=by
 obtain ⟨n,hn,rfl⟩:=List.mem_map.mp h
 haveI:=List.mem_range.mp hn
 lia
theorem sl (n : Nat) (h : n ≤ 1000000) : n ≤ sizeLine:=by
 haveI : sizeLine = 2 ^ 24:=sizeLine_eq
 lia
set_option tactic.hygienic true in
theorem spl_len (c : Nat) : ∀ (x : List Nat),∀ p∈spl c x,p.length ≤ x.length
 | [],p,h=>by refine rr (List.mem_singleton.mp h ..) ?_;exact Nat.le_refl _
 | a :: r,p,h=>by
  replace h:=(spl.eq_2 ..) ▸ h
  split at h
  ·rcases List.mem_cons.mp h with rfl | h
   ·exact Nat.zero_le _
   ·exact Nat.le_succ_of_le (spl_len c r p h)
  ·split at h
   ·refine rr (List.mem_singleton.mp h ..) ?_;simp
   ·rename_i q ps e
    rcases List.mem_cons.mp h with rfl | h
    ·haveI:=spl_len c r q (by refine rr e ?_;exact .head _);simpa using this
    ·exact Nat.le_succ_of_le (spl_len c r p (by refine rr e ?_;exact .tail _ h))
set_option tactic.hygienic true in
theorem spl_count (c : Nat) : ∀ (x : List Nat),(spl c x).length ≤ x.length + 1
 | []=>Nat.le_refl _
 | a :: r=>by
  have ih:=spl_count c r
  refine rr (spl.eq_2 ..) ?_
  split
  ·simpa using ih
  ·split
   ·simp
   ·rename_i q ps e
    replace ih:=e ▸ ih
    simp at ih ⊢
    lia
theorem vpick_len {α : Type} (xs : List α) (lo hi st : Option Int) : (vpick xs lo hi st).length ≤ xs.length:=by
 haveI h1:=slicePick_size_le ((xs.map fun _=>Value.none).toArray) lo hi st
 haveI h2 : (slicePick ((xs.map fun _=>Value.none).toArray) lo hi st).toList = vpick (xs.map fun _=>Value.none) lo hi st:=by
  unfold slicePick vpick
  simp
 haveI h3:=congrArg List.length h2
 rw [vpick_map,List.length_map] at h3
 refine rl h3 ?_
 simpa using h1
section
variable {Q : QV}
theorem GI.mapI {α : Type} (f : α→V) (xs : List α) (d : α) {x : V} {k : Int} (hx : IsL σ x (xs.map f)) (h0 : 0 ≤ k) (h1 : k < xs.length) (hz : xs.length ≤ 1000000) (q : Q (f (xs.getD k.toNat d)) σ) : GI prog w C Φ ρ σ x (.int k) Q:=by
 refine GI.listI hx h0 (by lia) ?_ q
 haveI : k.toNat < xs.length:=by lia
 simp [this]
theorem BJ.appendM {α : Type} (f : α→V) {a : Addr} {xs : List α} {x : α} {i : Nat} (hi : σ[i]? = some (a,.lst (xs.map f))) (hz : xs.length ≤ 1000000) (q : Q .none (σ.set i (a,.lst ((xs ++ [x]).map f)))) : BJ prog w C Φ ρ σ "list.append" [.ref a,f x] Q:=by
 refine BJ.append hi (sl _ (by simpa using hz)) ?_
 replace q:=(List.map_append ..) ▸ q
 exact q
theorem BJ.joinS {sep : List Nat} {ss : List (List Nat)} {x : V} {m : Nat} (hx : IsL σ x (ss.map .str)) (hm : ∀ s∈ss,s.length ≤ m) (hz : ss.length * (m + sep.length) ≤ 1000000) (q : Q (.str (glue sep ss)) σ) : BJ prog w C Φ ρ σ "str.join" [.str sep,x] Q:=by
 refine BJ.join hx ?_ q
 haveI : (ss.map (·.length)).sum ≤ ss.length * m:=by
  clear hz hx q
  induction ss with
  | nil=>simp
  | cons a ss ih =>
   haveI h1:=ih fun s hs=>hm s (.tail _ hs)
   haveI h2:=hm a (.head _)
   simp only [List.map_cons,List.sum_cons,List.length_cons]
   refine rr (Nat.succ_mul ..) ?_
   lia
 replace hz:=(Nat.mul_add ..) ▸ hz
 lia
noncomputable def maxOf : List Int→Int
 | []=>0
 | [a]=>a
 | a :: r=>max a (maxOf r)
theorem maxOf_mem : ∀ {l : List Int},l ≠ []→maxOf l∈l
 | [],h=>absurd rfl h
 | [a],_=>.head _
 | a :: b :: r,_=>by
  haveI h:=maxOf_mem (l:=b :: r) (by simp)
  simp only [maxOf]
  by_cases q : a ≤ maxOf (b :: r)
  ·refine rr (Int.max_eq_right q ..) ?_;exact .tail _ h
  ·refine rr (Int.max_eq_left (by lia) ..) ?_;exact .head _
theorem maxOf_ge : ∀ {l : List Int},∀ a∈l,a ≤ maxOf l
 | [],a,h=>nomatch h
 | [b],a,h=>by refine rr (List.mem_singleton.mp h ..) ?_;exact Int.le_refl _
 | b :: c :: r,a,h=>by
  simp only [maxOf]
  rcases List.mem_cons.mp h with rfl | h
  ·exact Int.le_max_left _ _
  ·exact Int.le_trans (maxOf_ge (l:=c :: r) a h) (Int.le_max_right _ _)
theorem BJ.maxO (hh : Φ.hd = none) {x : V} {ns : List Int} (hx : IsL σ x (ns.map .int)) (hne : ns ≠ []) (q : Q (.int (maxOf ns)) σ) : BJ prog w C Φ ρ σ "max" [x] Q:=BJ.maxL hh hx (maxOf_mem hne) maxOf_ge q
theorem rng_nil {a b : Int} (h : b ≤ a) : rng a b = []:=by
 unfold rng
 rw [show (b - a).toNat = 0 by lia];rfl
theorem rng_cons {a b : Int} (h : a < b) : rng a b = a :: rng (a + 1) b:=by
 unfold rng
 rw [show (b - a).toNat = (b - (a + 1)).toNat + 1 by lia,List.range_succ_eq_map,List.map_cons,List.map_map]
 congr 1
 ·simp
 ·refine List.map_congr_left fun k _=>?_
  simp only [Function.comp]
  lia
theorem rng_inv {a b x : Int} {r : List Int} (h : x :: r = rng a b) : x = a∧r = rng (a + 1) b∧a < b:=by
 by_cases q : a < b
 ·replace h:=(rng_cons q ..) ▸ h
  cases h
  exact ⟨rfl,rfl,q⟩
 ·rw [rng_nil (by lia)] at h
  cases h
inductive QM1 (prog : Program) (w : World) (C : Addr) (Φ : Fc) (ρ : List (Option V)) (scope : Scope) (elt : Expr) (i : Nat) {α : Type} (emb f : α→V) (Q : QV) (vals : List V) (σ' : St) : Prop
 | mk (xs : List α) (e : vals = xs.map emb) (hz : xs.length ≤ sizeLine) (cf : ∀ x∈xs,∀ L D ys,(Φ.comp scope L).Ok→EV prog w C (Φ.comp scope L) elt ((rhoC Φ.slots ρ scope.names).set i (some (emb x))) ((D,.lst ys) :: σ') (kIs (f x) ((D,.lst ys) :: σ'))) (q : Q (.lst (xs.map f)) σ')
inductive QM2 (prog : Program) (w : World) (C : Addr) (Φ : Fc) (ρ : List (Option V)) (scope : Scope) (elt : Expr) (i j : Nat) {α : Type} (emb : α→V × V) (f : α→V) (Q : QV) (vals : List (V × V)) (σ' : St) : Prop
 | mk (xs : List α) (e : vals = xs.map emb) (hz : xs.length ≤ sizeLine) (cf : ∀ x∈xs,∀ L D ys,(Φ.comp scope L).Ok→EV prog w C (Φ.comp scope L) elt (((rhoC Φ.slots ρ scope.names).set i (some (emb x).1)).set j (some (emb x).2)) ((D,.lst ys) :: σ') (kIs (f x) ((D,.lst ys) :: σ'))) (q : Q (.lst (xs.map f)) σ')
theorem EV.compM (Ok : Φ.Ok) {elt iter : Expr} {scope : Scope} {pos : Pos} (hs : scopeC scope = true) (hc : capOk Φ.slots scope.names = true) (hfs : ∀ x,foldedSetIterable iter Φ.env x = Pure.pure x)
  {x : Str} {px : Pos} {i : Nat} (hi : (slotsC Φ.slots scope.names)[i]? = some (x,none)) {α : Type} (emb : α→V) (f : α→V)
  (h : IE1 prog w C Φ iter ρ σ (QM1 prog w C Φ ρ scope elt i emb f Q)) :
  EV prog w C Φ (.ListComp elt [⟨.Name x px,iter,[],0⟩] scope pos) ρ σ Q:=by
 refine EV.compF Ok hs hc hfs hi emb (fun _=>true) f fun A I s a R QQ E g=>h A I s a R QQ E fun vals σ' I' s' It hid St ⟨xs,h1,h2,h3,h4⟩=>g vals σ' I' s' It hid St ⟨xs,h1,h2,fun x hx L D ys ok=>⟨rfl,h3 x hx L D ys ok⟩,?_⟩
 refine rr (List.filter_eq_self.mpr (fun _ _=>rfl) ..) ?_
 exact h4
theorem EV.compM2 (Ok : Φ.Ok) (hh : Φ.hd = none) {elt iter : Expr} {scope : Scope} {pos : Pos} (hs : scopeC scope = true) (hc : capOk Φ.slots scope.names = true) (hfs : ∀ x,foldedSetIterable iter Φ.env x = Pure.pure x)
  {x y : Str} {px py pt : Pos} {kt : Nat} {i j : Nat} (hi : (slotsC Φ.slots scope.names)[i]? = some (x,none)) (hj : (slotsC Φ.slots scope.names)[j]? = some (y,none)) {α : Type} (emb : α→V × V) (f : α→V)
  (h : IE2 prog w C Φ iter ρ σ (QM2 prog w C Φ ρ scope elt i j emb f Q)) :
  EV prog w C Φ (.ListComp elt [⟨.Tuple [.Name x px,.Name y py] kt pt,iter,[],0⟩] scope pos) ρ σ Q:=by
 refine EV.compF2 Ok hh hs hc hfs hi hj emb (fun _=>true) f fun A I s a R QQ E g=>h A I s a R QQ E fun vals σ' I' s' It hid St ⟨xs,h1,h2,h3,h4⟩=>g vals σ' I' s' It hid St ⟨xs,h1,h2,fun x hx L D ys ok=>⟨rfl,h3 x hx L D ys ok⟩,?_⟩
 refine rr (List.filter_eq_self.mpr (fun _ _=>rfl) ..) ?_
 exact h4
theorem EO.one {e : Expr} {Q : Option Int→St→Prop} (h : EV prog w C Φ e ρ σ fun v σ'=>∃ i,v = .int i∧Q (some i) σ') : EO prog w C Φ (some e) ρ σ Q:=h
theorem EO.no {Q : Option Int→St→Prop} (h : Q none σ) : EO prog w C Φ none ρ σ Q:=h
end
section
open PySem.Builtin PySem.Builtin.ObjectAttr
section
structure PlK (K : Frag) (C : Addr) : Prop where
 ga : findIn K (.ref C) "__getattribute__" = some (some (.builtin "object.__getattribute__"))
 gk : findIn K (.ref C) "__getattr__" = some none
 sa : findIn K (.ref C) "__setattr__" = some (some (.builtin "object.__setattr__"))
 hd : (clsIn K C).any (·.hasDict) = true
 po : plainOver K C = true
theorem instAt_of {h : Heap} {x C' dx : Addr} {es : List DictEntry} {n : Nat} (hx : h.get? x = some (instObj C' dx)) (hd : h.get? dx = some (dictOf es n)) : InstAt h x (instObj C' dx) C' (some (dictOf es n)):=⟨hx,rfl,rfl,hd⟩
theorem putL_len (name : Str) (hh : Int) (key v : Value) : ∀ es : List DictEntry,(putL name hh key v es).length ≤ es.length + 1
 | []=>by simp [putL]
 | e :: r=>by
  haveI ih:=putL_len name hh key v r
  unfold putL
  split
  ·simp
  ·simp only [List.length_cons];lia
set_option tactic.hygienic true in
theorem store_raw {K : Frag} {A : Around} {E : Value→Shared→Prop} {s : Shared} {x C' dx : Addr} {es : List DictEntry} {n : Nat} {name : Str} {v : Value} {Q : Unit→Shared→Prop} (X : K.In s.heap) (hx : s.heap.get? x = some (instObj C' dx)) (hdx : s.heap.get? dx = some (dictOf es n)) (P : PlK K C')
  (hn : findIn K (.ref C') name = some none) (hl : (getL name es).isSome = true) (hz : es.length < 1000)
  (h : ∀ h' t tk,h'.get? dx = some (dictOf (putL name (PyData.keyHash w.params name) (.str name t) v es) (putN name es n))→Heap.SameBut dx s.heap h'→Q () { s with heap:=h',toks:=tk }) : wpAny (model prog w) A (setAttr (.ref x) name v) Q E s:=by
 haveI I:=instAt_of hx hdx
 refine set_plain X I P.sa ?_
 refine osa_open (s:={ s with toks:=s.toks + 1 }) X I P.po (by unfold takerIn;rw [hn];rfl) fun b=>?_
 obtain ⟨cd,hc,hd'⟩:=any_some P.hd
 refine wpAny_bind (wpAny_pure (wpAny_bind (wpAny_bind (wpAny_loadPart hx (wpAny_bind ((looks_clsIn X hc).here (s:={ s with toks:=s.toks + 1 }) ?_))))))
 rw [hd']
 refine wpAny_pure (a:=some dx) (wpAny_bind (wpAny_pure (wpAny_bind ?_)))
 refine wpAny_bind (wpAny_bind (wpAny_askSetting (wpAny_pure (wpAny_bind (wpAny_mkText (wpAny_bind (wpAny_loadPart hdx ?_)))))))
 dsimp only
 haveI c : (!es.toArray.any (·.key.isStr name) && es.toArray.any (·.refKey)) = false:=by
  rw [← Array.any_toList,← Array.any_toList]
  unfold getL at hl
  split at hl
  ·rename_i en he
   rw [List.any_eq_true.mpr ⟨en,List.mem_of_find?_eq_some he,List.find?_some he⟩];rfl
  ·split at hl
   ·cases hl
   ·rename_i z;rw [Bool.not_eq_true] at z;rw [z,Bool.and_false]
 rw [aRefKeyMayBeTheName_at,c]
 refine wpAny_updatePart hdx ?_
 haveI hput:=putName_dict name (PyData.keyHash w.params name) (.str name (s.toks + 1)) v es n
 haveI hlen:=putL_len name (PyData.keyHash w.params name) (.str name (s.toks + 1)) v es
 haveI hget : (s.heap.update dx (Obj.putName name (PyData.keyHash w.params name) (.str name (s.toks + 1)) v)).get? dx = some (dictOf (putL name (PyData.keyHash w.params name) (.str name (s.toks + 1)) v es) (putN name es n)):=by
  rw [Heap.get?_update_self _ hdx (by rw [hput];rfl),hput]
 refine wpAny_bind (wpAny_lookBehind hget (pastItsLine_dict (by rw [List.size_toArray,sizeLine_eq];lia)) ?_)
 exact wpAny_pure (h _ _ _ hget (Heap.SameBut.update ..))
noncomputable def Ents (P : Params) (C : Addr) (I : Im) (es : List (Str × V)) (ents : List DictEntry) : Prop:=ents.length = es.length ∧
   ∀ (i : Nat) k x (e : DictEntry),es[i]? = some (k,x)→ents[i]? = some e→(∃ t,e.key = .str k t)∧VR C I x e.val
theorem Ents.cons_inv {P : Params} {I : Im} {k : Str} {x : V} {es : List (Str × V)} {ents : List DictEntry} (h : Ents P C I ((k,x) :: es) ents) : ∃ e r,ents = e :: r∧(∃ t,e.key = .str k t)∧VR C I x e.val∧Ents P C I es r:=by
 cases ents with
 | nil=>have:=h.1;simp at this
 | cons e r =>
  obtain ⟨a,b⟩:=h.2 0 k x e rfl rfl
  exact ⟨e,r,rfl,a,b,by have:=h.1;simpa using this,fun i k x e' p q=>h.2 (i + 1) k x e' (by simpa using p) (by simpa using q)⟩
theorem Ents.get {P : Params} {I : Im} (name : Str) : ∀ {es : List (Str × V)} {ents : List DictEntry},Ents P C I es ents →
  (∀ x,es.lookup name = some x→∃ v,getL name ents = some (some v)∧VR C I x v)∧(es.lookup name = none→getL name ents = some none∧∀ hh key v,putL name hh key v ents = ents ++ [⟨hh,key,v⟩])
 | [],ents,h=>by
  haveI : ents = []:=List.length_eq_zero_iff.mp h.1
  subst this
  exact ⟨fun x e=>(nomatch e),fun _=>⟨rfl,fun _ _ _=>rfl⟩⟩
 | (k,x) :: es,ents,h=>by
  obtain ⟨e,r,rfl,⟨t,hk⟩,hx,hr⟩:=h.cons_inv
  obtain ⟨i1,i2⟩:=Ents.get name hr
  by_cases q : name = k
  ·subst q
   haveI hs : e.key.isStr name = true:=by refine rr hk ?_;simp [Value.isStr]
   refine ⟨fun y hy=>?_,fun hy=>?_⟩
   ·rw [List.lookup_cons,beq_self_eq_true] at hy
    obtain rfl:=si hy
    exact ⟨e.val,by unfold getL;refine rr (List.find?_cons ..) ?_;refine rr hs ?_;rfl,hx⟩
   ·rw [List.lookup_cons,beq_self_eq_true] at hy
    exact snm hy
  ·have hb : (name == k) = false:=beq_eq_false_iff_ne.mpr q
   haveI hs : e.key.isStr name = false:=by
    refine rr hk ?_
    exact beq_eq_false_iff_ne.mpr fun e=>q e.symm
   haveI hr2 : e.refKey = false:=by unfold DictEntry.refKey;refine rr hk ?_;rfl
   refine ⟨fun y hy=>?_,fun hy=>?_⟩
   ·rw [List.lookup_cons] at hy;replace hy:=hb ▸ hy
    obtain ⟨v,hv,r'⟩:=i1 y hy
    refine ⟨v,?_,r'⟩
    unfold getL at hv ⊢
    refine rr (List.find?_cons ..) ?_;refine rr hs ?_
    simp only [List.any_cons,hr2,Bool.false_or]
    exact hv
   ·rw [List.lookup_cons] at hy;replace hy:=hb ▸ hy
    obtain ⟨h1,h2⟩:=i2 hy
    refine ⟨?_,fun hh key v=>?_⟩
    ·unfold getL at h1 ⊢
     refine rr (List.find?_cons ..) ?_;refine rr hs ?_
     simp only [List.any_cons,hr2,Bool.false_or]
     exact h1
    ·unfold putL
     rw [hs,h2]
     simp
theorem handed_of {I : Im} {x : V} {v : Value} (h : VR C I x v) : handedIn v = true:=by cases h <;> rfl
theorem findObj_own {K : Frag} {C' : Addr} {od : Obj} {name : Str} {v : Value} (P : PlK K C') (hn : findIn K (.ref C') name = some none) (hl : lookIn name od = some (some v)) : findObj K C' (some od) name = some (.value v):=by
 obtain ⟨cd,hc,hd⟩:=any_some P.hd
 unfold findObj PySem.W.ownOf
 refine rr hc ?_;refine rr hn ?_
 simp [hd,hl]
inductive QSetA (C' : Addr) (attr : Str) (ρ : List (Option V)) (v : V) (Q : QX) (ov : V) (σ₂ : St) : Prop
 | mk (x dx : Addr) (es : List (Str × V)) (i : Nat) (e : ov = .ref x) (h1 : (x,.ins C' dx)∈σ₂) (h2 : σ₂[i]? = some (dx,.nsd es)) (h3 : es.lookup attr = none) (h4 : es.length < 900) (q : Q .next ρ (σ₂.set i (dx,.nsd (es ++ [(attr,v)]))))
noncomputable abbrev kSetA (prog : Program) (w : World) (C : Addr) (Φ : Fc) (o : Expr) (ρ : List (Option V)) (C' : Addr) (attr : Str) (Q : QX) : V→St→Prop:=fun v σ₁=>EV prog w C Φ o ρ σ₁ (QSetA C' attr ρ v Q)
theorem EX1.setattr {K : Frag} {C' : Addr} (X : K.In Φ.h₀) (P : PlK K C') {value o : Expr} {attr : Str} {pos' pos : Pos} {Q : QX} (hn : findIn K (.ref C') attr = some none)
  (hw : swapsWith value (some (.Attribute o attr pos')) pos.line Φ.env = Pure.pure false)
  (h : EV prog w C Φ value ρ σ (kSetA prog w C Φ o ρ C' attr Q)) :
  EX1 prog w C Φ (.Assign [.Attribute o attr pos'] value pos) ρ σ Q:=by
 intro A I s a R QQ E g
 refine plainObj_wpAny_Assign_Attribute (h A I s a R _ E fun v σ₁ I₁ s₁ vv q hv R₁ k₁=>?_) hw
 refine q A I₁ s₁ a R₁ _ E fun ov σ₂ I₂ s₂ ovv z0 hov R₂ k₂=>?_
 obtain ⟨x,dx,es,i,e,hx,hi,hl,hz,q₂⟩:=z0
 subst e
 obtain ⟨_,rfl⟩:=hov.inv
 obtain ⟨ox,hox,hox'⟩:=R₂.cell x _ hx
 obtain rfl : ox = instObj C' dx:=hox'
 obtain ⟨od,hod,ents,n,rfl,hlen,hents⟩:=R₂.cell dx _ (List.mem_of_getElem? hi)
 haveI hE : Ents w.params C I₂ es ents:=⟨hlen,hents⟩
 obtain ⟨h1,h2⟩:=(Ents.get attr hE).2 hl
 refine store_raw (X.keeps R₂.h₀) hox hod P hn (by refine rr h1 ?_;rfl) (by lia) fun h' t tk hput hsb=>?_
 rw [h2] at hput
 haveI hv₂:=hv.mono k₂.im
 haveI z:=R₂.set hi (c':=.nsd (es ++ [(attr,v)])) (tk:=tk) hsb hput ⟨_,_,rfl,by simp [hlen],fun j k y e' hj he'=>?_⟩
 ·exact g .next ρ _ I₂ _ .next q₂ .next z.1 (((k₁.trans k₂ R₁.apartI).trans z.2 R₂.apartI).wider fun a h=>nomatch h)
 ·by_cases hjl : j < es.length
  ·replace hj:=(List.getElem?_append_left hjl ..) ▸ hj
   rw [List.getElem?_append_left (by lia)] at he'
   exact hents j k y e' hj he'
  ·rw [List.getElem?_append_right (by lia)] at hj
   rw [List.getElem?_append_right (by lia)] at he';replace he':=hlen ▸ he'
   cases hq : j - es.length with
   | zero =>
    rw [hq] at hj he'
    simp at hj he'
    obtain ⟨rfl,rfl⟩:=hj
    subst he'
    exact ⟨⟨_,rfl⟩,hv₂⟩
   | succ m=>replace hj:=hq ▸ hj;simp at hj
inductive QAttrN (C' : Addr) (attr : Str) (Q : QV) (ov : V) (σ₂ : St) : Prop
 | mk (x dx : Addr) (es : List (Str × V)) (v : V) (e : ov = .ref x) (h1 : (x,.ins C' dx)∈σ₂) (h2 : (dx,.nsd es)∈σ₂) (h3 : es.lookup attr = some v) (q : Q v σ₂)
theorem EV.attrN {K : Frag} {C' : Addr} (X : K.In Φ.h₀) (P : PlK K C') {o : Expr} {attr : Str} {pos : Pos} {Q : QV} (hn : findIn K (.ref C') attr = some none)
  (he : eval (.Attribute o attr pos) Φ.env = (do
   let ov ← eval o Φ.env
   standAt pos.atName
   let r ← holding [ov] (getAttr ov attr true)
   letTemporaryGo o ov r
   Pure.pure r))
  (h : EV prog w C Φ o ρ σ (QAttrN C' attr Q)) : EV prog w C Φ (.Attribute o attr pos) ρ σ Q:=by
 intro A I s a R QQ E g
 refine Attribute_any_ (h A I s a R _ E fun ov σ₂ I₂ s₂ ovv z0 hov R₂ k₂=>?_) he
 obtain ⟨x,dx,es,v,e,hx,hi,hl,q⟩:=z0
 subst e
 obtain ⟨_,rfl⟩:=hov.inv
 obtain ⟨ox,hox,hox'⟩:=R₂.cell x _ hx
 obtain rfl : ox = instObj C' dx:=hox'
 obtain ⟨od,hod,ents,n,rfl,hlen,hents⟩:=R₂.cell dx _ hi
 haveI hE : Ents w.params C I₂ es ents:=⟨hlen,hents⟩
 obtain ⟨val,h1,r⟩:=(Ents.get attr hE).1 v hl
 exact get_value (X.keeps R₂.h₀) (instAt_of hox hod) P.ga (findObj_own P hn (by rw [lookIn_dict];exact h1)) (handed_of r) ((g.after R₂ k₂).toks R₂ r q)
noncomputable def wspGet (raw : List Nat) (n nt : Int) (count : List Int) (b : Int) (simple : Bool) : List (Str × V) :=
 [("raw",.str raw),("n",.int n),("nt",.int nt),("norm",.tup [.tup (count.map .int),.int b]),("is_simple",.bool simple)]
inductive WspI (C : Addr) (I : Im) (raw : List Nat) (n nt : Int) (count : List Int) (b : Int) (simple : Bool) (v : Value) : Prop
 | mk (x : _) (d : _) (ents : _) (ep : _) (h0 : v = .ref x) (h1 : I x = some (instObj C d)) (h2 : I d = some (dictOf ents ep)) (h3 : ∀ P,Ents P C I (wspGet raw n nt count b simple) ents)
theorem VR.wsp_inv {I : Im} {raw : List Nat} {n nt : Int} {count : List Int} {b : Int} {simple : Bool} {v : Value} (h : VR C I (.wsp raw n nt count b simple) v) : WspI C I raw n nt count b simple v:=by
 cases h with
 | wsp h1 h2 h3 =>
  refine ⟨_,_,_,_,rfl,h1,h2,fun P=>⟨rfl,fun i k x e hi he=>?_⟩⟩
  match i,hi,he with
  | 0,hi,he=>cases hi;obtain rfl:=si he;exact ⟨⟨_,rfl⟩,.str _ _⟩
  | 1,hi,he=>cases hi;obtain rfl:=si he;exact ⟨⟨_,rfl⟩,.int _ _⟩
  | 2,hi,he=>cases hi;obtain rfl:=si he;exact ⟨⟨_,rfl⟩,.int _ _⟩
  | 3,hi,he=>cases hi;obtain rfl:=si he;exact ⟨⟨_,rfl⟩,h3⟩
  | 4,hi,he=>cases hi;obtain rfl:=si he;exact ⟨⟨_,rfl⟩,.bool _⟩
  | i + 5,hi,he=>simp [wspGet] at hi
inductive QAttrW (attr : Str) (Q : QV) (ov : V) (σ₂ : St) : Prop
 | mk (raw : List Nat) (n nt : Int) (count : List Int) (b : Int) (simple : Bool) (v : V) (e : ov = .wsp raw n nt count b simple) (h : (wspGet raw n nt count b simple).lookup attr = some v) (q : Q v σ₂)
theorem EV.attrW {K : Frag} (X : K.In Φ.h₀) (P : PlK K C) {o : Expr} {attr : Str} {pos : Pos} {Q : QV} (hn : findIn K (.ref C) attr = some none)
  (he : eval (.Attribute o attr pos) Φ.env = (do
   let ov ← eval o Φ.env
   standAt pos.atName
   let r ← holding [ov] (getAttr ov attr true)
   letTemporaryGo o ov r
   Pure.pure r))
  (h : EV prog w C Φ o ρ σ (QAttrW attr Q)) : EV prog w C Φ (.Attribute o attr pos) ρ σ Q:=by
 intro A I s a R QQ E g
 refine Attribute_any_ (h A I s a R _ E fun ov σ₂ I₂ s₂ ovv z0 hov R₂ k₂=>?_) he
 obtain ⟨raw,n,nt,count,b,simple,v,e,hl,q⟩:=z0
 subst e
 obtain ⟨x,d,ents,ep,rfl,hx,hd,hE⟩:=hov.wsp_inv
 obtain ⟨val,h1,r⟩:=(Ents.get attr (hE w.params)).1 v hl
 exact get_value (X.keeps R₂.h₀) (instAt_of (R₂.im _ _ hx) (R₂.im _ _ hd)) P.ga (findObj_own P hn (by rw [lookIn_dict];exact h1)) (handed_of r) ((g.after R₂ k₂).toks R₂ r q)
inductive IsW (name : Str) (ov : V) : Prop
 | mk (raw : List Nat) (n nt : Int) (count : List Int) (b : Int) (simple : Bool) (e : ov = .wsp raw n nt count b simple) (h : (wspGet raw n nt count b simple).lookup name = none)
noncomputable abbrev kMW2 (prog : Program) (w : World) (C : Addr) (Φ : Fc) (d : Fn) (ps : List Str) (ov : V) (Q : QV) : List V→St→Prop:=fun xs σ₂=>(ov :: xs).length = ps.length∧FnBody prog w C Φ d (ov :: xs) σ₂ Q
noncomputable abbrev kMW (prog : Program) (w : World) (C : Addr) (Φ : Fc) (name : Str) (d : Fn) (ps : List Str) (pos : Pos) (es : List Expr) (ρ : List (Option V)) (Q : QV) : V→St→Prop:=fun ov σ₁=>IsW name ov∧EA prog w C Φ pos es ρ σ₁ (kMW2 prog w C Φ d ps ov Q)
theorem EV.methW {K : Frag} (X : K.In Φ.h₀) (P : PlK K C) {mg mb : Str→Option Value} (T : Tx Φ.h₀ mg mb) {d : Fn} {ps : List Str} (ok : d.ok ps = true) (hl : 2 ≤ Φ.lvl) {f : Addr} {cdv : Value} (hf : FnAt Φ.h₀ f d cdv)
  (hbind : BindOk d ps)
  {o e : Expr} {name : Str} {apos pos : Pos} {args : List Expr} {pl : Sem Bool} {Q : QV} (hm : findIn K (.ref C) name = some (some (.ref f))) (ht : typeIn K (.ref f) = some (.type "function"))
  (he : eval (.Call (.Attribute o name apos) (e :: args) [] pos) Φ.env = (do
   let ov ← eval o Φ.env
   standAt apos.atName
   let (f,first) ← holding [ov] (getMethod ov name pl)
   callWith pos f first (backTo pos (starEach (e :: args) Φ.env)) [])) (hs : starEach (e :: args) Φ.env = (false,eval e Φ.env) :: starEach args Φ.env)
  (h : EV prog w C Φ o ρ σ (kMW prog w C Φ name d ps pos (e :: args) ρ Q)) :
  EV prog w C Φ (.Call (.Attribute o name apos) (e :: args) [] pos) ρ σ Q:=by
 intro A I s a R QQ E g
 refine MethodCall_ (h A I s a R _ E fun ov σ₁ I₁ s₁ val z0 hv R₁ k₁=>?_) he
 obtain ⟨⟨raw,n,nt,count,b,simple,e',hlk⟩,q⟩:=z0
 subst e'
 obtain ⟨x,dx,ents,ep,rfl,hx,hd,hE⟩:=hv.wsp_inv
 obtain ⟨h1,_⟩:=(Ents.get name (hE w.params)).2 hlk
 refine method_fn (X.keeps R₁.h₀) (instAt_of (R₁.im _ _ hx) (R₁.im _ _ hd)) P.ga P.gk hm ht (by show (lookIn name (dictOf ents ep)).map _ = _;rw [lookIn_dict,h1];rfl) ?_
 obtain ⟨o',doc,pm,an,ct,ho,hdat,hcd⟩:=hf
 haveI q':=q A I₁ s₁ a R₁ (fun vs s₂=>(s₂.heap.get? f = some o'∧o'.data = .func (fnX d.name d.qual d.params d.body d.scope [] .none .none doc pm an cdv ct))∧wpAny (model prog w) A (call (.ref f) ([.ref x] ++ vs)) QQ E s₂) E fun xs σ₂ I₂ s₂ vals q₂ hxs R₂ k₂ =>
  ⟨⟨R₂.h₀ _ _ ho,hdat⟩,call_fn ok hl T ⟨o',doc,pm,an,ct,ho,hdat,hcd⟩ hbind a R₂ (.cons (hv.mono k₂.im) hxs) q₂.1 q₂.2 (g.after R₂ (k₁.trans k₂ R₁.apartI))⟩
 rw [hs] at q' ⊢
 exact Calls.callWith_function (o:=o') (fd:=fnX d.name d.qual d.params d.body d.scope [] .none .none doc pm an cdv ct) (Calls.evalArgs_plain q')
end
end
section
open PySem.Builtin PySem.Builtin.ObjectAttr
section
noncomputable def Fc.low (Φ : Fc) : Fc:={ Φ with lvl:=Φ.lvl - 1 }
theorem Rel.low {P : Params} {I : Im} {s : Shared} (R : Rel P C Φ I ρ σ s) : Rel P C Φ.low I ρ σ s:=⟨R.im,R.base,R.cell,R.apart,R.nodup,R.ownI,R.ns,R.cells,R.gens⟩
theorem Rel.unlow {P : Params} {I : Im} {s : Shared} (R : Rel P C Φ.low I ρ σ s) : Rel P C Φ I ρ σ s:=⟨R.im,R.base,R.cell,R.apart,R.nodup,R.ownI,R.ns,R.cells,R.gens⟩
theorem units_make (A : Around) (C : Addr) (vals : List Value) : (A.under (.builtin "type.__call__" ⟨.ref C :: vals,[]⟩)).units = A.units + 1:=by
 unfold Around.under;rfl
theorem AOk.make {A : Around} (a : AOk Φ A) (hl : 2 ≤ Φ.lvl) (C' : Addr) (vals : List Value) : AOk Φ.low (A.under (.builtin "type.__call__" ⟨.ref C' :: vals,[]⟩)):=by
 refine ⟨a.hd,a.fr,?_,?_⟩
 ·haveI:=a.dp
  rw [depth_under_make]
  show A.depth + 1 + 20 * (Φ.lvl - 1) ≤ 600
  lia
 ·haveI:=a.un
  rw [units_make]
  show A.units + 1 + 50 * (Φ.lvl - 1) ≤ 5000
  lia
noncomputable abbrev kNone (x : Addr) (Q : QV) : V→St→Prop:=fun v σ₂=>v = .none∧Q (.ref x) σ₂
noncomputable abbrev kCls (prog : Program) (w : World) (C : Addr) (Φ : Fc) (C' : Addr) (d : Fn) (ps : List Str) (Q : QV) : List V→St→Prop:=fun xs σ₁=>xs.length + 1 = ps.length∧∀ x dx,FnBody prog w C Φ.low d (.ref x :: xs) ((x,.ins C' dx) :: (dx,.nsd []) :: σ₁) (kNone x Q)
theorem EV.callC (Ok : Φ.Ok) {mg mb : Str→Option Value} (T : Tx Φ.h₀ mg mb) {K : Frag} {C' : Addr} (X : K.In Φ.h₀) (hm : makesIn K C' = true) (hk : keepIn K (.ref C') = true) {d : Fn} {ps : List Str} (ok : d.ok ps = true) (hl : 3 ≤ Φ.lvl) {f : Addr} {cdv : Value} (hf : FnAt Φ.h₀ f d cdv)
  (hbind : BindOk d ps)
  (hi : findIn K (.ref C') "__init__" = some (some (.ref f))) (ht : typeIn K (.ref f) = some (.type "function"))
  {x : Str} {p pos : Pos} {e : Expr} {args : List Expr} {Q : QV} (hx : Φ.env.kindOf x = some .globalImplicit)
  (hd : (x == ("__debug__" : Str)) = false) (hg : mg x = some (.ref C')) (he : starEach (e :: args) Φ.env = (false,eval e Φ.env) :: starEach args Φ.env) (hpl : (backTo pos (starEach args Φ.env)).any (·.1) = false)
  (h : EA prog w C Φ pos (e :: args) ρ σ (kCls prog w C Φ C' d ps Q)) :
  EV prog w C Φ (.Call (.Name x p) (e :: args) [] pos) ρ σ Q:=by
 intro A I s a R QQ E g
 refine Call_Name rfl (load_glob Ok T R hx hd hg ?_)
 refine callWith_K (X.keeps R.h₀) hk (h A I s a R _ E fun xs σ₁ I₁ s₁ vals ⟨hlen,q⟩ hxs R₁ k₁=>?_) he hpl
 refine ⟨X.keeps R₁.h₀,wpAny_call ?_⟩
 haveI X₁:=X.keeps R₁.h₀
 obtain ⟨hh,gs,dr,t,os⟩:=s₁
 refine make_core (makes_of X₁ hm) (looks_findIn X₁ hi) (fun self=>bind_fn X₁ self ht) (.inl rfl) ?_
 haveI hn1 : hh.get? hh.objs.size = none:=Heap.get?_none_of_le (Nat.le_refl _)
 have z1:=R₁.new (tk:=t) (a:=hh.objs.size) (c:=.nsd []) (o:=emptyDict) (h':=hh.push emptyDict) hn1 (fun b o e=>Heap.get?_push_of_some _ e) (Heap.get?_push_size _ rfl) ⟨[],0,rfl,rfl,fun i k x e a=>by simp at a⟩
 haveI hn2 : (hh.push emptyDict).get? (hh.objs.size + 1) = none:=Heap.get?_none_of_le (by refine rr (Heap.size_push ..) ?_;exact Nat.le_refl _)
 have hs2 : ((hh.push emptyDict).push (instObj C' hh.objs.size)).get? (hh.objs.size + 1) = some (instObj C' hh.objs.size):=by
  haveI:=Heap.get?_push_size (h:=hh.push emptyDict) (o:=instObj C' hh.objs.size) rfl
  replace this:=(Heap.size_push ..) ▸ this
  exact this
 have z2:=z1.1.new (tk:=t) (a:=hh.objs.size + 1) (c:=.ins C' hh.objs.size) (o:=instObj C' hh.objs.size) (h':=(hh.push emptyDict).push (instObj C' hh.objs.size)) hn2 (fun b o e=>Heap.get?_push_of_some _ e) hs2 rfl
 haveI kk:=(k₁.trans z1.2 R₁.apartI).trans z2.2 z1.1.apartI
 refine call_fn_code (Φ:=Φ.low) (s:=⟨(hh.push emptyDict).push (instObj C' hh.objs.size),gs,dr,t,os⟩) ok (by show 2 ≤ Φ.lvl - 1;lia) T hf hbind (a.make (by lia) C' vals) z2.1.low (.cons (.ref (hh.objs.size + 1)) hxs) (by simpa using hlen) (q (hh.objs.size + 1) hh.objs.size) (QQ:=fun v s'=>v = .none∧QQ (.ref (hh.objs.size + 1)) s') (E:=E) ?_ |> codeAny_mono <| ?_
 ·rintro v σ' I' s' val ⟨hv,q'⟩ hr R' k'
  subst hv
  obtain ⟨_,rfl⟩:=hr.inv
  exact ⟨rfl,g _ σ' I' s' _ q' (.ref _) R'.unlow (kk.trans k' z2.1.apartI)⟩
 ·intro r s' z
  rcases r with e | (v | _ | _ | _) <;> first | exact z | exact z.elim
end
end
section
open PySem.Builtin PySem.Builtin.ObjectAttr
section
theorem Kp.from {W : List Addr} {I I' : Im} {σ₀ σ' : St} {s s' : Shared} (k : Kp W I σ₀ I' σ' s s') (h : σ₀.Sublist σ) : Kp W I σ I' σ' s s' :=
 ⟨fun b o e hk hw=>k.keep b o e (fun q=>hk ((keys_sub h).subset q)) hw,k.alive,fun a q=>(k.new a q).imp id fun q=>q.imp (fun q=>(keys_sub h).subset q) id,k.im,k.os⟩
theorem EX.drop {ss : List Stmt} {Q : QX} {σ₀ : St} (hs : σ₀.Sublist σ) (h : EX prog w C Φ ss ρ σ₀ Q) : EX prog w C Φ ss ρ σ Q :=
 fun A I s a R QQ E g=>h A I s a (R.sub hs) QQ E fun f ρ' σ' I' s' fl q hf R' k=>g f ρ' σ' I' s' fl q hf R' (k.from hs)
theorem OP.addLM {x y : V} {xs ys : List V} (hx : IsL σ x xs) (hy : IsL σ y ys) (hz : xs.length + ys.length ≤ sizeLine) {Q : QV} (q : ∀ a,Q (.ref a) ((a,.lst (xs ++ ys)) :: σ)) : OP prog w C Φ ρ σ .Add x y Q:=by
 intro A I s vx vy a R hvx hvy QQ E g
 obtain ⟨l,vs,n,rfl,hl,hvs⟩:=hx.at R hvx
 obtain ⟨b,us,m,rfl,hb,hus⟩:=hy.at R hvy
 haveI e : vs.toArray ++ us.toArray = (vs ++ us).toArray:=by simp
 refine concat_meets ⟨_,hl,rfl⟩ ⟨_,hb,rfl⟩ noFill_list_add seq_list_add PySem.F.slot_list_add PySem.F.entry_list_add (PySem.F.args_list_add_2 _ _) (list_addW l b vs.toArray us.toArray n m none none #[] #[] (by simpa [hvs.1,hus.1] using hz)) ⟨hl,hb,?_⟩
 refine rr e ?_
 exact g.new (c:=.lst (xs ++ ys)) (tk:=s.toks) (o:={ cls:=.type "list",data:=.seq (vs ++ us).toArray }) R ⟨vs ++ us,0,rfl,hvs.append hus⟩ rfl q
noncomputable def AS (prog : Program) (w : World) (C : Addr) (Φ : Fc) (t : Expr) (v : V) (ρ : List (Option V)) (σ : St) (Q : List (Option V)→St→Prop) : Prop :=
 ∀ A I s val,AOk Φ A→Rel w.params C Φ I ρ σ s→VR C I v val→∀ (QQ : Unit→Shared→Prop) (E : Value→Shared→Prop),
  (∀ ρ' σ' I' s',Q ρ' σ'→Rel w.params C Φ I' ρ' σ' s'→Kp Φ.own I σ I' σ' s s'→QQ () s')→wpAny (model prog w) A (assign t Φ.env val) QQ E s
noncomputable def ASs (prog : Program) (w : World) (C : Addr) (Φ : Fc) (ts : List Expr) (vs : List V) (ρ : List (Option V)) (σ : St) (Q : List (Option V)→St→Prop) : Prop :=
 ∀ A I s vals,AOk Φ A→Rel w.params C Φ I ρ σ s→VRs C I vs vals→∀ (QQ : Unit→Shared→Prop) (E : Value→Shared→Prop),
  (∀ ρ' σ' I' s',Q ρ' σ'→Rel w.params C Φ I' ρ' σ' s'→Kp Φ.own I σ I' σ' s s'→QQ () s')→wpAny (model prog w) A (assignInOrder (ts.map fun t=>assign t Φ.env) vals) QQ E s
theorem AS.name (Ok : Φ.Ok) {x : Str} {pos : Pos} {i : Nat} {o : Option Addr} {v : V} {Q : List (Option V)→St→Prop} (hi : Φ.slots[i]? = some (x,o)) (hs : o = none ∨ Φ.env.kindOf x = some .cell) (q : Q (ρ.set i (some v)) σ) : AS prog w C Φ (.Name x pos) v ρ σ Q:=by
 intro A I s val a R hv QQ E g
 refine wpAny_assign_Name (store_slot Ok hi hs R hv fun s' R' k _=>?_)
 exact g _ σ I s' q R' (k.wider (slot_own hi))
theorem ASs.nil {Q : List (Option V)→St→Prop} (q : Q ρ σ) : ASs prog w C Φ [] [] ρ σ Q:=by
 intro A I s vals a R hv QQ E g
 refine rr (hv.nil_inv ..) ?_
 exact assignInOrder_nil (g ρ σ I s q R .refl)
theorem ASs.cons {t : Expr} {ts : List Expr} {v : V} {vs : List V} {Q : List (Option V)→St→Prop} (h : AS prog w C Φ t v ρ σ fun ρ' σ'=>ASs prog w C Φ ts vs ρ' σ' Q) : ASs prog w C Φ (t :: ts) (v :: vs) ρ σ Q:=by
 intro A I s vals a R hv QQ E g
 obtain ⟨val,us,rfl,h1,h2⟩:=hv.cons_inv
 refine assignInOrder_cons (h A I s val a R h1 _ E fun ρ' σ' I' s' q R' k=>?_)
 exact q A I' s' us a R' (h2.mono k.im) QQ E fun ρ'' σ'' I'' s'' q' R'' k'=>g ρ'' σ'' I'' s'' q' R'' (k.trans k' R'.apartI)
theorem AS.tup (hh : Φ.hd = none) {ts : List Expr} {k : Nat} {pos : Pos} {v : V} {Q : List (Option V)→St→Prop} (hst : (assignEach ts Φ.env).findIdx? (·.1) = none) (he : (assignEach ts Φ.env).map (·.2) = ts.map fun t=>assign t Φ.env)
  (h : ∃ xs,v = .tup xs∧xs.length = ts.length∧ASs prog w C Φ ts xs ρ σ Q) : AS prog w C Φ (.Tuple ts k pos) v ρ σ Q:=by
 intro A I s val a R hv QQ E g
 obtain ⟨xs,rfl,hlen,h⟩:=h
 obtain ⟨l,vs,n,rfl,hI,hvs⟩:=hv.tup_inv
 haveI hT : IsTup s.heap l vs.toArray:=⟨_,R.im _ _ hI,rfl,_,rfl⟩
 have hn : (assignEach ts Φ.env).length = vs.toArray.size:=by
  haveI:=congrArg List.length he
  simp only [List.length_map] at this
  refine rr this ?_;refine rr (List.size_toArray ..) ?_;refine rr (hvs.1 ..) ?_;refine rr hlen ?_;rfl
 refine assign_Tuple_tuple (a.hd.trans hh) hT hn hst fun h' hx=>?_
 refine rr he ?_
 have k₀ : ∀ b o,s.heap.get? b = some o→h'.get? b = some o:=fun b o e=>hx b o (Nat.ne_of_lt (Heap.lt_size e)) e
 haveI G : Gr I I s { s with heap:=h',toks:=s.toks }:=Gr.same R.im k₀
 exact h A I _ vs a (R.grow G) hvs QQ E fun ρ' σ' I' s' q R' k=>g ρ' σ' I' s' q R' (G.kp.trans k R.apartI)
noncomputable abbrev kAs (prog : Program) (w : World) (C : Addr) (Φ : Fc) (t : Expr) (ρ : List (Option V)) (P : List (Option V)→St→Prop) : V→St→Prop:=fun v σ'=>AS prog w C Φ t v ρ σ' P
noncomputable abbrev kAs2 (prog : Program) (w : World) (C : Addr) (Φ : Fc) (t : Expr) (v : V) (P : List (Option V)→St→Prop) : List (Option V)→St→Prop:=fun ρ₁ σ₁=>AS prog w C Φ t v ρ₁ σ₁ P
noncomputable abbrev kAs3 (prog : Program) (w : World) (C : Addr) (Φ : Fc) (t₁ t₂ t₃ : Expr) (ρ : List (Option V)) (P : List (Option V)→St→Prop) : V→St→Prop:=fun v σ'=>AS prog w C Φ t₁ v ρ σ' (kAs2 prog w C Φ t₂ v (kAs2 prog w C Φ t₃ v P))
inductive QTup2 (i j : Nat) (ρ : List (Option V)) (P : List (Option V)→St→Prop) (v : V) (σ' : St) : Prop | mk (a b : V) (e : v = .tup [a,b]) (q : P ((ρ.set j (some b)).set i (some a)) σ')
theorem EX1.asg {t value : Expr} {pos : Pos} {Q : QX} (hs : swapsWithSole [t] value pos.line Φ.env = Pure.pure false) (hw : swappedStores [t] value Φ.env = Pure.pure none) (he : (assignEach [t] Φ.env).map (·.2) = [PySem.assign t Φ.env])
  (h : EV prog w C Φ value ρ σ (kAs prog w C Φ t ρ (Q .next))) : EX1 prog w C Φ (.Assign [t] value pos) ρ σ Q:=by
 intro A I s a R QQ E g
 refine wpAny_Assign_stores (h A I s a R _ E fun v σ' I' s' val q hv R' k=>?_) hs hw
 refine rr he ?_
 haveI z:=q A I' s' val a R' hv (fun _ s''=>QQ .next s'') E fun ρ'' σ'' I'' s'' q' R'' k'=>g .next ρ'' σ'' I'' s'' .next q' .next R'' ((k.wider fun a h=>nomatch h).trans k' R'.apartI)
 exact z
theorem EX1.asg3 {t₁ t₂ t₃ value : Expr} {pos : Pos} {Q : QX} (hw : swappedStores [t₁,t₂,t₃] value Φ.env = Pure.pure none) (he : (assignEach [t₁,t₂,t₃] Φ.env).map (·.2) = [PySem.assign t₁ Φ.env,PySem.assign t₂ Φ.env,PySem.assign t₃ Φ.env])
  (h : EV prog w C Φ value ρ σ (kAs3 prog w C Φ t₁ t₂ t₃ ρ (Q .next))) : EX1 prog w C Φ (.Assign [t₁,t₂,t₃] value pos) ρ σ Q:=by
 intro A I s a R QQ E g
 refine wpAny_Assign_three (h A I s a R _ E fun v σ' I' s' val q hv R' k=>?_) he hw
 haveI g':=g.afterE R' k
 refine q A I' s' val a R' hv _ E fun ρ₁ σ₁ I₁ s₁ q₁ R₁ k₁=>?_
 refine q₁ A I₁ s₁ val a R₁ (hv.mono k₁.im) _ E fun ρ₂ σ₂ I₂ s₂ q₂ R₂ k₂=>?_
 refine q₂ A I₂ s₂ val a R₂ ((hv.mono k₁.im).mono k₂.im) _ E fun ρ₃ σ₃ I₃ s₃ q₃ R₃ k₃=>?_
 exact g' .next ρ₃ σ₃ I₃ s₃ .next q₃ .next R₃ ((k₁.trans k₂ R₁.apartI).trans k₃ R₂.apartI)
theorem EX1.asgSwap2 (Ok : Φ.Ok) (hh : Φ.hd = none) {ts : List Expr} {kt : Nat} {tpos pos : Pos} {value : Expr} {x y : Str} {i j : Nat} {Q : QX} (hi : Φ.slots[i]? = some (x,none)) (hj : Φ.slots[j]? = some (y,none))
  (hs : swapsWithSole [.Tuple ts kt tpos] value pos.line Φ.env = Pure.pure false) (hw : swappedStores [.Tuple ts kt tpos] value Φ.env = Pure.pure (some [x,y]))
  (h : EV prog w C Φ value ρ σ (QTup2 i j ρ (Q .next))) : EX1 prog w C Φ (.Assign [.Tuple ts kt tpos] value pos) ρ σ Q:=by
 intro A I s ak R QQ E g
 refine Assign_Tuple_swapped (names:=[x,y]) (h A I s ak R _ E fun v σ' I' s' val ⟨a,b,e,q⟩ hv R' k=>?_) hs hw
 subst e
 obtain ⟨l,vs,n,rfl,hI,hvs⟩:=hv.tup_inv
 obtain ⟨va,us,rfl,h1,h2⟩:=hvs.cons_inv
 obtain ⟨vb,us,rfl,h3,h4⟩:=h2.cons_inv
 replace hI:=(h4.nil_inv ..) ▸ hI
 haveI hT : IsTup s'.heap l #[va,vb]:=⟨_,R'.im _ _ hI,rfl,_,rfl⟩
 haveI hlen : ([x,y] : List Str).length = (#[va,vb] : Array Value).size:=rfl
 refine rr hlen ?_
 refine unpackItems_tuple (ak.hd.trans hh) hT (fun h' hx=>?_)
 have k₀ : ∀ b o,s'.heap.get? b = some o→h'.get? b = some o:=fun b o e=>hx b o (Nat.ne_of_lt (Heap.lt_size e)) e
 haveI G : Gr I' I' s' { s' with heap:=h',toks:=s'.toks }:=Gr.same R'.im k₀
 refine assignInOrder_cons (wpAny_bindName (store_slot Ok hj (.inl rfl) (R'.grow G) h3 fun s₁ R₁ k₁ _=>?_))
 refine assignInOrder_cons (wpAny_bindName (store_slot Ok hi (.inl rfl) R₁ h1 fun s₂ R₂ k₂ _=>?_))
 refine assignInOrder_nil ?_
 haveI k₃:=((k.wider (W':=Φ.own) fun a h=>nomatch h).trans (G.kp (σ:=σ')) R'.apartI).trans (k₁.wider (slot_own hj)) R'.apartI
 exact g .next _ σ' I' s₂ .next q .next R₂ (k₃.trans (k₂.wider (slot_own hi)) R₁.apartI)
theorem setItem_upd {A : Around} {E : Value→Shared→Prop} {s : Shared} {l : Addr} {items : Array Value} {n : Nat} {k : Int} {t : Tok} {v : Value} {Q : Unit→Shared→Prop} (ho : s.heap.get? l = some (listOf items n))
  (h0 : 0 ≤ k) (hfit : k < 2 ^ 63) (hn : k < items.size)
  (hQ : Q () { s with heap:=s.heap.update l (Obj.mapSeq (·.setIfInBounds k.toNat v)) }) :
  wpAny (model prog w) A (setItem (.ref l) (.int k t) v) Q E s:=by
 haveI hT : s.TypeIs (.ref l) "list":=⟨_,ho,rfl⟩
 haveI hd : (listOf items n).data = .seq items n:=rfl
 unfold setItem
 with_reducible refine wpAny_holding ?_
 refine wpAny_bind (wpAny_sequenceKey hT (by decide) ?_)
 refine wpAny_bind (wpAny_callSpecial?_slot (name:=Str.ofString "__setitem__") hT slot_list_setitem
  (wpAny_call_entry slot_list_setitem hT entry_list_setitem ?_ (args_list_setitem _ _ _)))
 show wpAny _ _ (Builtin.List.listSubscript? (.int k t) >>= _) _ _ s
 refine wpAny_bind (wpAny_listSubscript_int (fitsIndex_of h0 hfit) ?_)
 clear hfit
 obtain ⟨j,rfl⟩:=Int.eq_ofNat_of_zero_le h0
 haveI hj : j < items.size:=by lia
 haveI hx' : items[j]? = some items[j]:=Array.getElem?_eq_getElem hj
 refine wpAny_bind (wpAny_bind (wpAny_seqItemAt ho hd (wpAny_pure ?_)))
 refine rr hx' ?_
 refine wpAny_bind (wpAny_setSeqItemAt ho hd ?_)
 first
  | exact wpAny_bind (wpAny_pure (wpAny_pure ⟨.none,rfl,wpAny_pure hQ⟩))
  | exact wpAny_pure ⟨.none,rfl,wpAny_pure hQ⟩
noncomputable def SI (prog : Program) (w : World) (C : Addr) (Φ : Fc) (ρ : List (Option V)) (σ : St) (x y v : V) (Q : St→Prop) : Prop :=
 ∀ A I s vx vy val,AOk Φ A→Rel w.params C Φ I ρ σ s→VR C I x vx→VR C I y vy→VR C I v val→∀ (QQ : Unit→Shared→Prop) (E : Value→Shared→Prop),
  (∀ σ' I' s',Q σ'→Rel w.params C Φ I' ρ σ' s'→Kp [] I σ I' σ' s s'→QQ () s')→wpAny (model prog w) A (setItem vx vy val) QQ E s
theorem VRs.set {I : Im} {xs : List V} {vs : List Value} {x : V} {v : Value} (h : VRs C I xs vs) (hx : VR C I x v) (k : Nat) : VRs C I (xs.set k x) (vs.set k v):=by
 refine ⟨by simp [h.1],fun i y u a b=>?_⟩
 by_cases q : k = i
 ·subst q
  rw [List.getElem?_set_self'] at a b
  cases ha : xs[k]? with
  | none=>replace a:=ha ▸ a;simp at a
  | some z =>
   obtain ⟨zz,hz,_⟩:=h.get ha
   replace a:=ha ▸ a;replace b:=hz ▸ b
   simp at a b
   subst a b
   exact hx
 ·rw [List.getElem?_set_ne q] at a b
  exact h.2 i y u a b
theorem SI.list {a : Addr} {xs : List V} {v : V} {k : Int} {i : Nat} {Q : St→Prop} (hi : σ[i]? = some (a,.lst xs)) (h0 : 0 ≤ k) (h1 : k < xs.length) (hz : xs.length ≤ 1000000) (q : Q (σ.set i (a,.lst (xs.set k.toNat v)))) : SI prog w C Φ ρ σ (.ref a) (.int k) v Q:=by
 intro A I s vx vy val ak R hx hy hv QQ E g
 obtain ⟨_,rfl⟩:=hx.inv
 obtain ⟨_,rfl⟩:=hy.inv
 obtain ⟨o,ho,vs,n,rfl,hvs⟩:=R.cell a _ (List.mem_of_getElem? hi)
 refine setItem_upd ho h0 (by lia) (by refine rr (List.size_toArray ..) ?_;refine rr (hvs.1 ..) ?_;exact h1) ?_
 obtain ⟨n',hn'⟩:=upd_seq (f:=(·.setIfInBounds k.toNat val)) ho
 haveI e : vs.toArray.setIfInBounds k.toNat val = (vs.set k.toNat val).toArray:=by simp
 replace hn':=e ▸ hn'
 haveI z:=R.set (tk:=s.toks) hi (c':=.lst (xs.set k.toNat v)) (Heap.SameBut.update ..) hn' ⟨_,_,rfl,hvs.set hv _⟩
 exact g _ I _ q z.1 z.2
noncomputable abbrev kSi2 (prog : Program) (w : World) (C : Addr) (Φ : Fc) (ρ : List (Option V)) (x v : V) (P : St→Prop) : V→St→Prop:=fun y σ₂=>SI prog w C Φ ρ σ₂ x y v P
noncomputable abbrev kSi (prog : Program) (w : World) (C : Addr) (Φ : Fc) (i : Expr) (ρ : List (Option V)) (v : V) (P : St→Prop) : V→St→Prop:=fun x σ₁=>EV prog w C Φ i ρ σ₁ (kSi2 prog w C Φ ρ x v P)
theorem AS.sub {o i : Expr} {pos : Pos} {v : V} {Q : List (Option V)→St→Prop} (he : ∀ val,PySem.assign (.Subscript o i pos) Φ.env val = (do
  let ov ← holding [val] (eval o Φ.env)
  let iv ← holding [val,ov] (eval i Φ.env)
  standAt pos
  holding [val,ov,iv] (setItem ov iv val)
  release [val,ov,iv] []))
  (h : EV prog w C Φ o ρ σ (kSi prog w C Φ i ρ v (Q ρ))) : AS prog w C Φ (.Subscript o i pos) v ρ σ Q:=by
 intro A I s val a R hv QQ E g
 rw [he]
 refine wpAny_bind (wpAny_holding (h A I s a R _ E fun x σ₁ I₁ s₁ vx q hx R₁ k₁=>?_))
 refine wpAny_bind (wpAny_holding (q A I₁ s₁ a R₁ _ E fun y σ₂ I₂ s₂ vy q₂ hy R₂ k₂=>?_))
 refine wpAny_bind (wpAny_standAt (wpAny_bind (wpAny_holding ?_)))
 haveI k₃:=k₁.trans k₂ R₁.apartI
 refine q₂ A I₂ s₂ vx vy val a R₂ (hx.mono k₂.im) hy (hv.mono k₃.im) _ E fun σ₃ I₃ s₃ q₃ R₃ k₄=>?_
 exact wpAny_release (g ρ σ₃ I₃ s₃ q₃ R₃ ((k₃.trans k₄ R₂.apartI).wider fun a h=>nomatch h))
noncomputable def IP (prog : Program) (w : World) (C : Addr) (Φ : Fc) (ρ : List (Option V)) (σ : St) (op : Operator) (x y : V) (Q : QV) : Prop :=
 ∀ A I s vx vy,AOk Φ A→Rel w.params C Φ I ρ σ s→VR C I x vx→VR C I y vy→TJ prog w C Φ A I ρ σ s (inplaceOp op vx vy) Q
theorem IP.addI {i j : Int} {Q : QV} (q : Q (.int (i + j)) σ) : IP prog w C Φ ρ σ .Add (.int i) (.int j) Q:=fun A I s vx vy a R hx hy QQ E g=>by
 obtain ⟨_,rfl⟩:=hx.inv;obtain ⟨_,rfl⟩:=hy.inv;exact wpAny_iadd_int (g.toks R (.int _ _) q)
noncomputable abbrev kAug5 (prog : Program) (w : World) (C : Addr) (Φ : Fc) (ρ : List (Option V)) (x y : V) (P : St→Prop) : V→St→Prop:=fun v σ₅=>SI prog w C Φ ρ σ₅ x y v P
noncomputable abbrev kAug4 (prog : Program) (w : World) (C : Addr) (Φ : Fc) (op : Operator) (ρ : List (Option V)) (x y z : V) (P : St→Prop) : V→St→Prop:=fun u σ₄=>IP prog w C Φ ρ σ₄ op z u (kAug5 prog w C Φ ρ x y P)
noncomputable abbrev kAug3 (prog : Program) (w : World) (C : Addr) (Φ : Fc) (value : Expr) (op : Operator) (ρ : List (Option V)) (x y : V) (P : St→Prop) : V→St→Prop:=fun z σ₃=>EV prog w C Φ value ρ σ₃ (kAug4 prog w C Φ op ρ x y z P)
noncomputable abbrev kAug2 (prog : Program) (w : World) (C : Addr) (Φ : Fc) (value : Expr) (op : Operator) (ρ : List (Option V)) (x : V) (P : St→Prop) : V→St→Prop:=fun y σ₂=>GI prog w C Φ ρ σ₂ x y (kAug3 prog w C Φ value op ρ x y P)
noncomputable abbrev kAug (prog : Program) (w : World) (C : Addr) (Φ : Fc) (i value : Expr) (op : Operator) (ρ : List (Option V)) (P : St→Prop) : V→St→Prop:=fun x σ₁=>EV prog w C Φ i ρ σ₁ (kAug2 prog w C Φ value op ρ x P)
theorem EX1.augSub {o i value : Expr} {tpos pos : Pos} {op : Operator} {Q : QX} (hi : ∀ ov iv new,augStore i ov iv new = (do holding [new,ov,iv] (setItem ov iv new);release [new,ov,iv] [];Pure.pure .next))
  (h : EV prog w C Φ o ρ σ (kAug prog w C Φ i value op ρ (Q .next ρ))) :
  EX1 prog w C Φ (.AugAssign (.Subscript o i tpos) op value pos) ρ σ Q:=by
 intro A I s a R QQ E g
 refine wpAny_AugAssign_SubscriptAny (h A I s a R _ E fun x σ₁ I₁ s₁ vx q hx R₁ k₁=>?_) hi
 refine q A I₁ s₁ a R₁ _ E fun y σ₂ I₂ s₂ vy q₂ hy R₂ k₂=>?_
 haveI hx₂:=hx.mono k₂.im
 refine q₂ A I₂ s₂ vx vy a R₂ hx₂ hy _ E fun z σ₃ I₃ s₃ vz q₃ hz R₃ k₃=>?_
 refine q₃ A I₃ s₃ a R₃ _ E fun u σ₄ I₄ s₄ vu q₄ hu R₄ k₄=>?_
 refine q₄ A I₄ s₄ vz vu a R₄ (hz.mono k₄.im) hu _ E fun v σ₅ I₅ s₅ val q₅ hv R₅ k₅=>?_
 haveI kk:=((k₁.trans k₂ R₁.apartI).trans k₃ R₂.apartI).trans k₄ R₃.apartI |>.trans k₅ R₄.apartI
 haveI up : ∀ b o,I₂ b = some o→I₅ b = some o:=fun b o e=>k₅.im b o (k₄.im b o (k₃.im b o e))
 refine q₅ A I₅ s₅ vx vy val a R₅ (hx₂.mono up) (hy.mono up) hv _ E fun σ₆ I₆ s₆ q₆ R₆ k₆=>?_
 exact g .next ρ σ₆ I₆ s₆ .next q₆ .next R₆ ((kk.trans k₆ R₅.apartI).wider fun a h=>nomatch h)
end
end
section
open PySem.Builtin PySem.Builtin.ObjectAttr
section
theorem rc_tups {A : Around} {s : Shared} {I : Im} {xs ys : List V} {e : Nat→Bool} {v u : Value} (him : ∀ b o,I b = some o→s.heap.get? b = some o) (hv : VR C I (.tup xs) v) (hu' : VR C I (.tup ys) u) (hu : A.units < cLine)
  (he : ∀ (j : Nat) x y vx vy,xs[j]? = some x→ys[j]? = some y→VR C I x vx→VR C I y vy→SeqAt.EqAt A.in1 s vx vy (e j)) : SeqAt.RcAt A s v u ((List.range (min xs.length ys.length)).all e && xs.length == ys.length):=by
 obtain ⟨l,vs,n,rfl,hl,hvs⟩:=hv.tup_inv
 obtain ⟨b,us,m,rfl,hb,hus⟩:=hu'.tup_inv
 haveI z:=SeqAt.RcAt.tuples (A:=A) (s:=s) (items:=vs.toArray) (items2:=us.toArray) (e:=e) ⟨_,him _ _ hl,rfl,_,rfl⟩ ⟨_,him _ _ hb,rfl,_,rfl⟩ hu fun j h1 h2=>by
  have h1' : j < vs.length:=by simpa using h1
  have h2' : j < us.length:=by simpa using h2
  obtain ⟨x,hx,rx⟩:=hvs.get' (List.getElem?_eq_getElem h1')
  obtain ⟨y,hy,ry⟩:=hus.get' (List.getElem?_eq_getElem h2')
  exact he j x y _ _ hx hy rx ry
 simpa [hvs.1,hus.1] using z
theorem eqAt_tups {A : Around} {s : Shared} {I : Im} {xs ys : List V} {e : Nat→Bool} {v u : Value} (him : ∀ b o,I b = some o→s.heap.get? b = some o) (hv : VR C I (.tup xs) v) (hu' : VR C I (.tup ys) u) (hu : A.units < cLine)
  (he : ∀ (j : Nat) x y vx vy,xs[j]? = some x→ys[j]? = some y→VR C I x vx→VR C I y vy→SeqAt.EqAt A.in1 s vx vy (e j)) (hs : ∀ (j : Nat) x y vx,xs[j]? = some x→ys[j]? = some y→VR C I x vx→VR C I y vx→e j = true) :
  SeqAt.EqAt A s v u ((List.range (min xs.length ys.length)).all e && xs.length == ys.length):=by
 haveI hr:=rc_tups him hv hu' hu he
 obtain ⟨l,vs,n,rfl,hl,hvs⟩:=hv.tup_inv
 obtain ⟨b,us,m,rfl,hb,hus⟩:=hu'.tup_inv
 by_cases q : l = b
 ·subst q
  replace hb:=hl ▸ hb
  haveI hvu : vs = us:=by
   have:=congrArg Obj.data (Option.some.inj hb)
   simp at this
   exact this.1
  subst hvu
  have hlen : xs.length = ys.length:=hvs.1.symm.trans hus.1
  haveI hall : ((List.range (min xs.length ys.length)).all e && xs.length == ys.length) = true:=by
   refine rr (Bool.and_eq_true ..) ?_
   refine ⟨List.all_eq_true.mpr fun j hj=>?_,by simpa using hlen⟩
   have hj' : j < xs.length:=by have:=List.mem_range.mp hj;lia
   haveI hxj : xs[j]? = some xs[j]:=List.getElem?_eq_getElem hj'
   haveI hyj : ys[j]? = some (ys[j]'(by lia)):=List.getElem?_eq_getElem (by lia)
   obtain ⟨val,hval,r⟩:=hvs.get hxj
   exact hs j _ _ val hxj hyj r (hus.2 j _ val hyj hval)
  refine rr hall ?_
  exact SeqAt.EqAt.same _
 ·exact SeqAt.EqAt.of_refs q hr
theorem AOk.units1 {A : Around} (a : AOk Φ A) : A.in1.units < cLine:=by
 have:=a.un
 show A.units + 1 < 9900
 lia
noncomputable def VN (count : List Int) (b : Int) : V:=.tup [.tup (count.map .int),.int b]
theorem all_ints (xs ys : List Int) : ((List.range (min (xs.map V.int).length (ys.map V.int).length)).all (fun i=>decide (xs[i]? = ys[i]?)) && (xs.map V.int).length == (ys.map V.int).length) = decide (xs = ys):=by
 simp only [List.length_map]
 by_cases e : xs.length = ys.length
 ·have e2 : (xs.length == ys.length) = true:=by simpa using e
  rw [e2,Bool.and_true,show min xs.length ys.length = xs.length by lia,all_idx xs ys e]
 ·have e2 : (xs.length == ys.length) = false:=by simpa using e
  rw [e2,Bool.and_false,decide_eq_false (fun q=>e (by rw [q]))]
theorem CO.eqNorm {xs ys : List Int} {b c : Int} {Q : Bool→St→Prop} (q : Q (decide (xs = ys∧b = c)) σ) : CO prog w C Φ ρ σ .Eq (VN xs b) (VN ys c) Q:=fun A I s vx vy a R hx hy QQ E g=>by
 haveI hself : ∀ (xs ys : List Int) v,VR C I (.tup (xs.map .int)) v→VR C I (.tup (ys.map .int)) v→xs = ys:=fun xs ys v h1 h2=>by
  obtain ⟨l,vs,n,rfl,hl,hvs⟩:=h1.tup_inv
  obtain ⟨b,us,m,e,hb,hus⟩:=h2.tup_inv
  cases e
  replace hb:=hl ▸ hb
  have hvu : vs = us:=by
   have:=congrArg Obj.data (Option.some.inj hb)
   simp at this
   exact this.1
  subst hvu
  have i1:=hvs.ints
  have i2:=hus.ints
  have : ∀ (vs : List Value) (xs ys : List Int),IntsAre vs xs→IntsAre vs ys→xs = ys:=by
   intro vs xs ys h1
   induction h1 generalizing ys with
   | nil=>intro h2;cases h2;rfl
   | cons n t _ ih=>intro h2;cases h2 with | cons _ _ h2=>refine rr (ih _ h2 ..) ?_;rfl
  exact this vs xs ys i1 i2
 haveI hi : ∀ i j v,VR C I (.int i) v→VR C I (.int j) v→i = j:=fun i j v h1 h2=>by obtain ⟨_,rfl⟩:=h1.inv;cases h2;rfl
 haveI z:=rc_tups (A:=A) (e:=fun k=>if k = 0 then decide (xs = ys) else decide (b = c)) R.im hx hy a.units fun j x y vx vy hxj hyj rx ry=>by
  match j,hxj,hyj with
  | 0,hxj,hyj =>
   obtain rfl:=si hxj;obtain rfl:=si hyj
   haveI z:=eqAt_tups (A:=A.in1) (s:=s) (e:=fun i=>decide (xs[i]? = ys[i]?)) R.im rx ry a.units1 (fun j x y vx vy hxj hyj rx ry=>by
    rw [List.getElem?_map] at hxj hyj
    obtain ⟨i,hi,rfl⟩:=Option.map_eq_some_iff.mp hxj
    obtain ⟨k,hk,rfl⟩:=Option.map_eq_some_iff.mp hyj
    refine rr hi ?_;refine rr hk ?_
    simpa using eqAt_int i k vx vy rx ry) (fun j x y vx hxj hyj rx ry=>by
    rw [List.getElem?_map] at hxj hyj
    obtain ⟨i,hi',rfl⟩:=Option.map_eq_some_iff.mp hxj
    obtain ⟨k,hk,rfl⟩:=Option.map_eq_some_iff.mp hyj
    refine rr hi' ?_;refine rr hk ?_;refine rr (hi i k vx rx ry ..) ?_
    simp)
   rw [all_ints] at z
   exact z
  | 1,hxj,hyj=>obtain rfl:=si hxj;obtain rfl:=si hyj;exact eqAt_int _ _ _ _ rx ry
  | j + 2,hxj,hyj=>simp at hxj
 refine z prog w E QQ (g.here R (.bool _) ⟨_,rfl,?_⟩)
 haveI e : ((List.range (min [V.tup (xs.map .int),V.int b].length [V.tup (ys.map .int),V.int c].length)).all (fun k=>if k = 0 then decide (xs = ys) else decide (b = c)) && [V.tup (xs.map .int),V.int b].length == [V.tup (ys.map .int),V.int c].length) = decide (xs = ys∧b = c):=by
  haveI er : List.range (min [V.tup (xs.map .int),V.int b].length [V.tup (ys.map .int),V.int c].length) = [0,1]:=rfl
  refine rr er ?_
  simp
 refine rr e ?_
 exact q
noncomputable abbrev kMW0 (prog : Program) (w : World) (C : Addr) (Φ : Fc) (name : Str) (d : Fn) (ps : List Str) (Q : QV) : V→St→Prop:=fun ov σ₁=>IsW name ov∧1 = ps.length∧FnBody prog w C Φ d [ov] σ₁ Q
theorem EV.methW0 {K : Frag} (X : K.In Φ.h₀) (P : PlK K C) {mg mb : Str→Option Value} (T : Tx Φ.h₀ mg mb) {d : Fn} {ps : List Str} (ok : d.ok ps = true) (hl : 2 ≤ Φ.lvl) {f : Addr} {cdv : Value} (hf : FnAt Φ.h₀ f d cdv)
  (hbind : BindOk d ps)
  {o : Expr} {name : Str} {apos pos : Pos} {pl : Sem Bool} {Q : QV} (hm : findIn K (.ref C) name = some (some (.ref f))) (ht : typeIn K (.ref f) = some (.type "function"))
  (he : eval (.Call (.Attribute o name apos) [] [] pos) Φ.env = (do
   let ov ← eval o Φ.env
   standAt apos.atName
   let (f,first) ← holding [ov] (getMethod ov name pl)
   callWith pos f first (backTo pos (starEach [] Φ.env)) []))
  (h : EV prog w C Φ o ρ σ (kMW0 prog w C Φ name d ps Q)) :
  EV prog w C Φ (.Call (.Attribute o name apos) [] [] pos) ρ σ Q:=by
 intro A I s a R QQ E g
 refine MethodCall_ (h A I s a R _ E fun ov σ₁ I₁ s₁ val z0 hv R₁ k₁=>?_) he
 obtain ⟨⟨raw,n,nt,count,b,simple,e',hlk⟩,hps,q⟩:=z0
 subst e'
 obtain ⟨x,dx,ents,ep,rfl,hx,hd,hE⟩:=hv.wsp_inv
 obtain ⟨h1,_⟩:=(Ents.get name (hE w.params)).2 hlk
 refine method_fn (X.keeps R₁.h₀) (instAt_of (R₁.im _ _ hx) (R₁.im _ _ hd)) P.ga P.gk hm ht (by show (lookIn name (dictOf ents ep)).map _ = _;rw [lookIn_dict,h1];rfl) ?_
 obtain ⟨o',doc,pm,an,ct,ho,hdat,hcd⟩:=hf
 refine Calls.callWith_function (o:=o') (fd:=fnX d.name d.qual d.params d.body d.scope [] .none .none doc pm an cdv ct) (PyProof.Rows.evalArgs_nil3 ⟨⟨R₁.h₀ _ _ ho,hdat⟩,?_⟩)
 exact call_fn ok hl T ⟨o',doc,pm,an,ct,ho,hdat,hcd⟩ hbind a R₁ (.one hv) hps q (g.after R₁ k₁)
theorem EV.clsA (Ok : Φ.Ok) {K : Frag} {C' : Addr} {mc val : Value} (X : K.In Φ.h₀) (hr : readsIn K C' mc = true) {mg mb : Str→Option Value} (T : Tx Φ.h₀ mg mb) {x attr : Str} {p pos : Pos} {v : V} {Q : QV} (hx : Φ.env.kindOf x = some .globalImplicit) (hd : (x == ("__debug__" : Str)) = false) (hg : mg x = some (.ref C'))
  (hf : findCls K (.ref C') mc attr = some (.val val)) (hv : ∀ I : Im,VR C I v val)
  (he : eval (.Attribute (.Name x p) attr pos) Φ.env = (do
   let ov ← eval (.Name x p) Φ.env
   standAt pos.atName
   let r ← holding [ov] (getAttr ov attr true)
   letTemporaryGo (.Name x p) ov r
   Pure.pure r))
  (q : Q v σ) : EV prog w C Φ (.Attribute (.Name x p) attr pos) ρ σ Q:=by
 intro A I s a R QQ E g
 refine Attribute_any_ (load_glob Ok T R hx hd hg ?_) he
 exact cls_value (X.keeps R.h₀) hr hf (handed_of (hv I)) (g.toks R (hv I) q)
theorem Rel.freezeAny {P : Params} {I : Im} {s : Shared} (R : Rel P C Φ I ρ σ s) {i : Nat} {a : Addr} {c : Cell} (hi : σ[i]? = some (a,c)) :
  ∃ I' o,Rel P C Φ I' ρ (σ.eraseIdx i) s∧I' a = some o∧c.Is P C I' o∧(∀ W I₀ σ₀ s₀,Kp W I₀ σ₀ I σ s₀ s→Kp W I₀ σ₀ I' (σ.eraseIdx i) s₀ s)∧∀ b o,I b = some o→I' b = some o:=by
 have hm:=List.mem_of_getElem? hi
 have ka : a∈keys σ:=List.mem_map.mpr ⟨(a,c),hm,rfl⟩
 obtain ⟨oo,ho,hc⟩:=R.cell a _ hm
 have im : ∀ b o,I b = some o→I.put a oo b = some o:=fun b o e=>by
  have : b ≠ a:=fun q=>by have:=R.apartI a ka;replace e:=q ▸ e;replace this:=e ▸ this;exact snm this
  refine rr (Im.put_ne this ..) ?_;exact e
 have sub:=List.eraseIdx_sublist σ i
 have na : a ∉ keys (σ.eraseIdx i):=fun q=>by
  obtain ⟨p,hp,e⟩:=List.mem_map.mp q
  obtain ⟨j,hj,e'⟩:=List.mem_eraseIdx_iff_getElem?.mp hp
  obtain ⟨b,d⟩:=p
  dsimp only at e
  subst e
  exact hj (key_idx R e' hi)
 refine ⟨I.put a oo,oo,⟨fun b o e=>?_,fun b o e=>im b o (R.base b o e),fun b c hb=>?_,fun b hb=>⟨?_,(R.apart b ((keys_sub sub).subset hb)).2⟩,(keys_sub sub).nodup R.nodup,fun b hb=>?_,?_,fun j x c hj=>?_,R.gens⟩,Im.put_self,hc.mono im,fun W I₀ σ₀ s₀ k=>⟨k.keep,k.alive,fun b q=>?_,fun b o e=>im b o (k.im b o e),k.os⟩,im⟩
 ·by_cases q : b = a
  ·subst q;replace e:=(Im.put_self ..) ▸ e;obtain rfl:=si e;exact ho
  ·replace e:=(Im.put_ne q ..) ▸ e;exact R.im b o e
 ·obtain ⟨o',ho',hc'⟩:=R.cell b c (sub.subset hb)
  exact ⟨o',ho',hc'.mono im⟩
 ·haveI z : b ≠ a:=fun q=>na (by refine rl q ?_;exact hb)
  refine rr (Im.put_ne z ..) ?_
  exact R.apartI b ((keys_sub sub).subset hb)
 ·haveI z : b ≠ a:=fun q=>(R.apart a ka).2 (by refine rl q ?_;exact hb)
  refine rr (Im.put_ne z ..) ?_
  exact R.ownI b hb
 ·obtain ⟨m,hn,h⟩:=R.ns
  exact ⟨m,hn,fun i x v a b=>let ⟨val,e,r⟩:=h i x v a b;⟨val,e,r.mono im⟩⟩
 ·obtain ⟨u,hc,h⟩:=R.cells j x c hj
  exact ⟨u,hc,fun v e=>let ⟨val,e',r⟩:=h v e;⟨val,e',r.mono im⟩⟩
 ·refine k.new b ?_
  rcases q with q | q
  ·by_cases z : b = a
   ·exact .inr (z ▸ ka)
   ·replace q:=(Im.put_ne z ..) ▸ q;exact .inl q
  ·exact .inr ((keys_sub sub).subset q)
theorem len5 {α : Type} : ∀ {l : List α},l.length = 5→∃ a b c d e,l = [a,b,c,d,e]
 | [a,b,c,d,e],_=>⟨a,b,c,d,e,rfl⟩
inductive QFrzW (C : Addr) (Q : QV) (v : V) (σ' : St) : Prop
 | mk (x dx : Addr) (raw : List Nat) (n nt : Int) (count : List Int) (b : Int) (simple : Bool) (σ₀ : St) (e : v = .ref x) (hs : σ' = (x,.ins C dx) :: (dx,.nsd (wspGet raw n nt count b simple)) :: σ₀) (q : Q (.wsp raw n nt count b simple) σ₀)
theorem EV.freezeW {e : Expr} {Q : QV} (h : EV prog w C Φ e ρ σ (QFrzW C Q)) : EV prog w C Φ e ρ σ Q:=by
 intro A I s a R QQ E g
 refine h A I s a R QQ E fun v σ' I' s' val z0 hv R' k=>?_
 obtain ⟨x,dx,raw,n,nt,count,b,simple,σ₀,hv',hσ,q⟩:=z0
 subst hv' hσ
 obtain ⟨_,rfl⟩:=hv.inv
 obtain ⟨I₂,o,R₂,hx,hc,hk,im⟩:=R'.freezeAny (i:=0) rfl
 obtain rfl : o = instObj C dx:=hc
 obtain ⟨I₃,od,R₃,hd,hcd,hk₃,im₃⟩:=R₂.freezeAny (i:=0) rfl
 obtain ⟨ents,ep,rfl,hlen,hents⟩:=hcd
 refine g _ σ₀ I₃ s' (.ref x) q ?_ R₃ (hk₃ _ _ _ _ (hk _ _ _ _ k))
 haveI hlen' : ents.length = 5:=hlen
 obtain ⟨e1,e2,e3,e4,e5,rfl⟩:=len5 hlen'
 obtain ⟨⟨t1,h1⟩,r1⟩:=hents 0 _ _ e1 rfl rfl
 obtain ⟨⟨t2,h2⟩,r2⟩:=hents 1 _ _ e2 rfl rfl
 obtain ⟨⟨t3,h3⟩,r3⟩:=hents 2 _ _ e3 rfl rfl
 obtain ⟨⟨t4,h4⟩,r4⟩:=hents 3 _ _ e4 rfl rfl
 obtain ⟨⟨t5,h5⟩,r5⟩:=hents 4 _ _ e5 rfl rfl
 obtain ⟨k1,ke1,v1⟩:=e1
 obtain ⟨k2,ke2,v2⟩:=e2
 obtain ⟨k3,ke3,v3⟩:=e3
 obtain ⟨k4,ke4,v4⟩:=e4
 obtain ⟨k5,ke5,v5⟩:=e5
 dsimp only at h1 h2 h3 h4 h5 r1 r2 r3 r4 r5
 subst h1 h2 h3 h4 h5
 obtain ⟨_,rfl⟩:=r1.inv
 obtain ⟨_,rfl⟩:=r2.inv
 obtain ⟨_,rfl⟩:=r3.inv
 obtain ⟨_,rfl⟩:=r5.inv
 exact .wsp (im₃ _ _ hx) hd r4
end
end
section
open PySem.Builtin PySem.Builtin.Re PySem.Sre
theorem runFor_done {m : M} (h : m.outcome.isSome = true) : ∀ n,m.runFor n = m
 | 0=>rfl
 | n + 1=>by unfold M.runFor;refine rr (if_pos h ..) ?_;rfl
theorem step_done {m : M} (h : m.outcome.isSome = true) : m.step = m:=by unfold M.step;refine rr (if_pos h ..) ?_;rfl
theorem runFor_succ (m : M) (n : Nat) : m.runFor (n + 1) = m.step.runFor n:=by
 by_cases h : m.outcome.isSome = true
 ·refine rr (step_done h ..) ?_;rw [runFor_done h,runFor_done h]
 ·rw [M.runFor];refine rr (if_neg h ..) ?_;rfl
theorem runFor_add (m : M) : ∀ a b,m.runFor (a + b) = (m.runFor a).runFor b:=by
 intro a
 induction a generalizing m with
 | zero=>intro b;refine rr (Nat.zero_add ..) ?_;rfl
 | succ a ih=>intro b;rw [Nat.succ_add,runFor_succ,runFor_succ,ih]
theorem runFor_more {m : M} {n k : Nat} (h : (m.runFor n).outcome.isSome = true) (hk : n ≤ k) : m.runFor k = m.runFor n:=by
 obtain ⟨d,rfl⟩:=Nat.exists_eq_add_of_le hk
 rw [runFor_add,runFor_done h]
section
variable {A : Around} {E : Value→Shared→Prop} {s : Shared}
theorem drive_of {Q : M→Shared→Prop} : ∀ (k turns : Nat) (m : M),(m.runFor (4 * k)).outcome.isSome = true→k < turns→Q (m.runFor (4 * k)) s→wpAny (model prog w) A (reDrive turns m) Q E s
 | k,0,m,_,h,_=>absurd h (Nat.not_lt_zero _)
 | 0,t + 1,m,h,_,q=>by
  haveI h : m.outcome.isSome = true:=h
  unfold reDrive
  haveI e : m.runFor reTurnSteps = m:=runFor_done h _
  refine rr e ?_
  simp only [h,if_true]
  exact wpAny_pure q
 | k + 1,t + 1,m,h,hk,q=>by
  haveI e : m.runFor (4 * (k + 1)) = (m.runFor reTurnSteps).runFor (4 * k):=by
   rw [show 4 * (k + 1) = 4 + 4 * k by omega,runFor_add];rfl
  rw [e] at h q
  unfold reDrive
  by_cases z : (m.runFor reTurnSteps).outcome.isSome = true
  ·rw [runFor_done z] at q
   simp only [z,if_true]
   exact wpAny_pure q
  ·simp only [z,if_false]
   exact wpAny_bind (wpAny_rule (drive_of k t _ h (by omega) q))
theorem rules_of {S : Sre.Seen} {Q : PUnit→Shared→Prop} (q : Q ⟨⟩ s) : ∀ l : List Nat,wpAny (model prog w) A (forIn l PUnit.unit fun i _=>do
  if S.has i then rule (Sre.names.getD i "")
  Pure.pure (ForInStep.yield PUnit.unit)) Q E s
 | []=>wpAny_pure q
 | i :: r=>by
  refine rr (List.forIn_cons ..) ?_
  refine wpAny_bind ?_
  split
  ·exact wpAny_bind (wpAny_rule (wpAny_pure (rules_of q r)))
  ·exact wpAny_pure (rules_of q r)
theorem run_end {m m' : M} {n : Nat} {Q : Option M→Shared→Prop} (e : m.runFor n = m') (hn : n ≤ 1000000) (q : match m'.outcome with
  | some .matched=>Q (some m') s
  | some .failed=>Q none s
  | _=>False) : wpAny (model prog w) A (reRunToEnd m) Q E s:=by
 haveI ho : m'.outcome.isSome = true:=by
  cases z : m'.outcome with
  | none=>replace q:=z ▸ q;exact q.elim
  | some o=>rfl
 haveI e' : m.runFor (4 * n) = m':=by
  replace ho:=e.symm ▸ ho
  refine rr (runFor_more ho (by omega) ..) ?_;refine rr e ?_;rfl
 refine wpAny_bind (drive_of n (2 ^ 64) m (by refine rr e' ?_;exact ho) (Nat.lt_of_le_of_lt hn (by decide)) ?_)
 refine rr e' ?_
 refine wpAny_bind (rules_of ?_ _)
 split
 ·rename_i z;replace q:=z ▸ q;exact wpAny_pure q
 ·rename_i z;replace q:=z ▸ q;exact wpAny_pure q
 ·rename_i z;replace q:=z ▸ q;exact q.elim
 ·rename_i z;replace q:=z ▸ q;exact q.elim
end
end
section
open PySem.Builtin PySem.Builtin.Re PySem.Sre
theorem step_exec {m : M} (ho : m.outcome = none) (ha : m.answer = none) (hp : m.pc < m.code.size) : m.step = m.exec:=by
 unfold M.step
 refine rr ho ?_;refine rr ha ?_
 simp [hp]
theorem step_ans {m : M} {yes : Bool} {f : Sre.Frame} {rest : List Sre.Frame} (ho : m.outcome = none) (ha : m.answer = some yes) (hf : m.frames = f :: rest) :
  m.step = M.resume { m with answer:=none,frames:=rest,weight:=m.weight - (1 + f.kept.marks.size),pc:=f.pc,pos:=f.pos,outermost:=f.outermost } f yes:=by
 unfold M.step
 refine rr ho ?_;refine rr ha ?_;refine rr hf ?_
 rfl
theorem exec_at {m : M} {yes : Bool} (k : Nat) (hop : Sre.ops[m.word 0]? = some .AT) (hk : m.word 1 = k) (h : m.isAt k = .ok yes) :
  m.exec = if yes then { m with seen:=(m.seen.add (m.word 0)).add (43 + k),pc:=m.pc + 2 } else { m with seen:=(m.seen.add (m.word 0)).add (43 + k),answer:=some false }:=by
 subst hk
 unfold M.exec
 refine rr hop ?_
 have h' : ({ m with seen:=m.seen.add (m.word 0) } : M).isAt (m.word 1) = .ok yes:=h
 show (match ({ m with seen:=m.seen.add (m.word 0) } : M).isAt (m.word 1) with
  | .error why=>M.stick { m with seen:=m.seen.add (m.word 0) } why
  | .ok yes=>if yes then { m with seen:=(m.seen.add (m.word 0)).add (43 + m.word 1),pc:=m.pc + 2 } else { m with seen:=(m.seen.add (m.word 0)).add (43 + m.word 1),answer:=some false }) = _
 refine rr h' ?_;rfl
theorem exec_lit {m : M} (hop : Sre.ops[m.word 0]? = some .LITERAL) :
  m.exec = if m.lim ≤ m.pos then { m with seen:=m.seen.add (m.word 0),answer:=some false } else if m.text.getD m.pos 0 == m.word 1 then { m with seen:=m.seen.add (m.word 0),pc:=m.pc + 2,pos:=m.pos + 1 } else { m with seen:=m.seen.add (m.word 0),answer:=some false }:=by
 unfold M.exec
 refine rr hop ?_
 have hop' : Sre.ops[m.code.getD m.pc 0]? = some .LITERAL:=by simpa [M.word] using hop
 haveI hacc : Sre.accepts m.code m.pc (m.text.getD m.pos 0) (m.seen.add (m.word 0)) = .ok (m.text.getD m.pos 0 == m.word 1,m.seen.add (m.word 0)):=by
  unfold Sre.accepts
  refine rr hop' ?_;rfl
 haveI hw : Sre.itemWidth m.code m.pc = 2:=by
  unfold Sre.itemWidth
  refine rr hop' ?_;rfl
 show (if m.lim ≤ m.pos then _ else match Sre.accepts m.code m.pc (m.text.getD m.pos 0) (m.seen.add (m.word 0)) with
  | .error why=>M.stick { m with seen:=m.seen.add (m.word 0) } why
  | .ok (false,seen)=>({ m with seen } : M).say false
  | .ok (true,seen)=>{ m with seen,pc:=m.pc + Sre.itemWidth m.code m.pc,pos:=m.pos + 1 }) = _
 refine rr hacc ?_;refine rr hw ?_
 split
 ·rfl
 ·cases m.text.getD m.pos 0 == m.word 1 <;> rfl
theorem exec_lit_over {m : M} (hop : Sre.ops[m.word 0]? = some .LITERAL) (hl : m.lim ≤ m.pos) : m.exec = { m with seen:=m.seen.add (m.word 0),answer:=some false }:=by refine rr (exec_lit hop ..) ?_;refine rr (if_pos hl ..) ?_;rfl
theorem exec_lit_no {m : M} (hop : Sre.ops[m.word 0]? = some .LITERAL) (hl : m.pos < m.lim) (h : (m.text.getD m.pos 0 == m.word 1) = false) : m.exec = { m with seen:=m.seen.add (m.word 0),answer:=some false }:=by
 refine rr (exec_lit hop ..) ?_;refine rr (if_neg (by lia) ..) ?_;refine rr h ?_;rfl
theorem exec_lit_yes {m : M} (hop : Sre.ops[m.word 0]? = some .LITERAL) (hl : m.pos < m.lim) (h : (m.text.getD m.pos 0 == m.word 1) = true) : m.exec = { m with seen:=m.seen.add (m.word 0),pc:=m.pc + 2,pos:=m.pos + 1 }:=by
 refine rr (exec_lit hop ..) ?_;refine rr (if_neg (by lia) ..) ?_;refine rr h ?_;rfl
theorem exec_succ {m : M} (hop : Sre.ops[m.word 0]? = some .SUCCESS) (hw : m.wholeText = false) (hm : m.mustAdvance = false ∨ m.outermost = false) :
  m.exec = { m with seen:=m.seen.add (m.word 0),handed:=m.pos,answer:=some true }:=by
 unfold M.exec
 refine rr hop ?_
 show (if (m.outermost && ((m.wholeText && m.pos != m.lim) || (m.mustAdvance && m.pos == m.start))) = true then _ else _) = _
 haveI e : (m.outermost && ((m.wholeText && m.pos != m.lim) || (m.mustAdvance && m.pos == m.start))) = false:=by
  refine rr hw ?_
  rcases hm with h | h <;> rw [h] <;> simp
 refine rr e ?_
 rfl
theorem resume_next {m : M} {f : Sre.Frame} (hw : f.wait = .nextStart) : m.resume f false = if f.pos < m.lastStart then M.attemptFrom { m with mustAdvance:=false } (f.pos + 1) false else m.say false:=by
 unfold M.resume
 refine rr hw ?_
 rfl
theorem resume_stop {m : M} {f : Sre.Frame} (hw : f.wait = .nextStart) (h : m.lastStart ≤ f.pos) : m.resume f false = m.say false:=by
 refine rr (resume_next hw ..) ?_;refine rr (if_neg (by lia) ..) ?_;rfl
theorem resume_go {m : M} {f : Sre.Frame} (hw : f.wait = .nextStart) (h : f.pos < m.lastStart) : m.resume f false = M.attemptFrom { m with mustAdvance:=false } (f.pos + 1) false:=by
 refine rr (resume_next hw ..) ?_;refine rr (if_pos h ..) ?_;rfl
noncomputable def qc : Array Nat:=#[14,4,0,1,1,6,1,16,46,1]
noncomputable def qAt (text : Array Nat) (s : Nat) (first : Bool) (sn : Sre.Seen) : M:={ code:=qc,text,lim:=text.size,start:=s,lastStart:=text.size,wholeText:=false,mustAdvance:=false,pc:=5,pos:=s,handed:=s,outermost:=first,marks:=#[],lastmark:=-1,lastindex:=-1,loops:=#[],inner:=none,frames:=[{ wait:=.nextStart,pc:=5,pos:=s,outermost:=first }],weight:=1,answer:=none,seen:=sn,outcome:=none }
noncomputable def bol (text : Array Nat) (s : Nat) : Bool:=s == 0 || text.getD (s - 1) 0 == 10
theorem qc_first {m : M} (hm : m.code = qc) : m.hasFirstSet = false:=by unfold M.hasFirstSet;refine rr hm ?_;rfl
theorem qAt_start (text : Array Nat) (s : Nat) (h : s < text.size) : Sre.forSearch qc text 0 s text.size false = qAt text s true (({} : Sre.Seen).add 14):=by
 unfold Sre.forSearch
 haveI e : Sre.header qc = (1,5):=by rfl
 refine rr e ?_
 haveI h1 : (decide (s > text.size) || decide (text.size - s < 1)) = false:=by
  refine rr (decide_eq_false (by lia) ..) ?_;refine rr (decide_eq_false (by lia) ..) ?_;rfl
 simp only [h1,Bool.false_eq_true,if_false]
 unfold M.attemptFrom
 refine rr (qc_first rfl ..) ?_
 rfl
theorem qAt_over (text : Array Nat) (s : Nat) (h : text.size ≤ s) : ((Sre.forSearch qc text 0 s text.size false).runFor 1).outcome = some .failed:=by
 unfold Sre.forSearch
 haveI e : Sre.header qc = (1,5):=by rfl
 refine rr e ?_
 haveI h1 : (decide (s > text.size) || decide (text.size - s < 1)) = true:=by
  refine rr (decide_eq_true (p:=text.size - s < 1) (by lia) ..) ?_;simp
 simp only [h1,if_true]
 rfl
theorem q_isAt {text : Array Nat} {s : Nat} {f : Bool} {sn : Sre.Seen} : (qAt text s f sn).isAt 1 = .ok (bol text s):=rfl
theorem q_next {m : M} {text : Array Nat} {s : Nat} {f : Bool} {sn : Sre.Seen} (h : s < text.size) (e : ∃ pc pos,m = { (qAt text s f sn) with pc:=pc,pos:=pos,answer:=some false }) : ∃ sn',m.step = qAt text (s + 1) false sn':=by
 obtain ⟨pc,pos,rfl⟩:=e
 refine ⟨sn,?_⟩
 refine rr (step_ans (yes:=false) (f:={ wait:=.nextStart,pc:=5,pos:=s,outermost:=f }) (rest:=[]) rfl rfl rfl ..) ?_
 refine rr (resume_go rfl h ..) ?_
 unfold M.attemptFrom
 refine rr (qc_first rfl ..) ?_
 rfl
theorem q_fail {m : M} {text : Array Nat} {s : Nat} {f : Bool} {sn : Sre.Seen} (h : text.size ≤ s) (e : ∃ pc pos,m = { (qAt text s f sn) with pc:=pc,pos:=pos,answer:=some false }) : (m.runFor 2).outcome = some .failed:=by
 obtain ⟨pc,pos,rfl⟩:=e
 rw [runFor_succ,step_ans (yes:=false) (f:={ wait:=.nextStart,pc:=5,pos:=s,outermost:=f }) (rest:=[]) rfl rfl rfl]
 refine rr (resume_stop rfl h ..) ?_
 rfl
theorem q_step1 (text : Array Nat) (s : Nat) (f : Bool) (sn : Sre.Seen) : (qAt text s f sn).step = if bol text s then { (qAt text s f sn) with seen:=(sn.add 6).add 44,pc:=7 } else { (qAt text s f sn) with seen:=(sn.add 6).add 44,answer:=some false }:=by
 refine rr (step_exec rfl rfl (show (5 : Nat) < 10 by decide) ..) ?_;refine rr (exec_at 1 rfl rfl q_isAt ..) ?_
 rfl
theorem q_turn (text : Array Nat) (s : Nat) (f : Bool) (sn : Sre.Seen) (h : s < text.size) :
  if bol text s && text.getD s 0 == 46 then (∃ m,(qAt text s f sn).runFor 5 = m∧m.outcome = some .matched∧m.start = s∧m.handed = s + 1)
  else ∃ n sn',n ≤ 3∧(qAt text s f sn).runFor n = qAt text (s + 1) false sn':=by
 cases hb : bol text s with
 | false =>
  obtain ⟨sn',e⟩:=q_next (m:={ (qAt text s f ((sn.add 6).add 44)) with answer:=some false }) (sn:=(sn.add 6).add 44) (f:=f) h ⟨_,_,rfl⟩
  refine ⟨2,sn',by lia,?_⟩
  rw [runFor_succ,q_step1,hb]
  exact e
 | true =>
  cases hd : text.getD s 0 == 46 with
  | false =>
   obtain ⟨sn',e⟩:=q_next (m:={ (qAt text s f (((sn.add 6).add 44).add 16)) with pc:=7,answer:=some false }) (sn:=((sn.add 6).add 44).add 16) (f:=f) h ⟨_,_,rfl⟩
   refine ⟨3,sn',by lia,?_⟩
   rw [runFor_succ,q_step1,hb,runFor_succ]
   refine rr (if_pos rfl ..) ?_;refine rr (step_exec rfl rfl (show (7 : Nat) < 10 by decide) ..) ?_;refine rr (exec_lit_no rfl h hd ..) ?_
   exact e
  | true =>
   refine ⟨_,rfl,?_⟩
   rw [runFor_succ,q_step1,hb,runFor_succ]
   refine rr (if_pos rfl ..) ?_;refine rr (step_exec rfl rfl (show (7 : Nat) < 10 by decide) ..) ?_;refine rr (exec_lit_yes rfl h hd ..) ?_
   rw [runFor_succ,step_exec rfl rfl (show (9 : Nat) < 10 by decide),exec_succ rfl rfl (.inl rfl)]
   exact ⟨rfl,rfl,rfl⟩
noncomputable def qFind (text : Array Nat) : Nat→Nat→Option Nat
 | 0,_=>none
 | n + 1,s=>if bol text s && text.getD s 0 == 46 then some s else qFind text n (s + 1)
theorem q_run (text : Array Nat) : ∀ (k s : Nat) (f : Bool) (sn : Sre.Seen),s + k = text.size→∃ n m,n ≤ 5 * k + 4∧(qAt text s f sn).runFor n = m∧match qFind text k s with
  | some p=>m.outcome = some .matched∧m.start = p∧m.handed = p + 1
  | none=>m.outcome = some .failed
 | 0,s,f,sn,h=>by
  refine ⟨4,_,by lia,rfl,?_⟩
  show (M.runFor 4 _).outcome = _
  rw [runFor_succ,q_step1]
  cases hb : bol text s with
  | false =>
   refine rr (if_neg (by decide) ..) ?_
   haveI z:=q_fail (m:={ (qAt text s f ((sn.add 6).add 44)) with answer:=some false }) (sn:=(sn.add 6).add 44) (f:=f) (text:=text) (s:=s) (by lia) ⟨_,_,rfl⟩
   haveI z2:=runFor_more (m:={ (qAt text s f ((sn.add 6).add 44)) with answer:=some false }) (n:=2) (k:=3) (by refine rr z ?_;rfl) (by lia)
   exact (congrArg M.outcome z2).trans z
  | true =>
   rw [runFor_succ,if_pos rfl,step_exec rfl rfl (show (7 : Nat) < 10 by decide),exec_lit_over rfl (show text.size ≤ s by lia)]
   exact q_fail (sn:=((sn.add 6).add 44).add 16) (f:=f) (text:=text) (s:=s) (by lia) ⟨_,_,rfl⟩
 | k + 1,s,f,sn,h=>by
  haveI t:=q_turn text s f sn (by lia)
  unfold qFind
  by_cases z : (bol text s && text.getD s 0 == 46) = true
  ·replace t:=(if_pos z ..) ▸ t
   refine rr (if_pos z ..) ?_
   obtain ⟨m,e,o⟩:=t
   exact ⟨5,m,by lia,e,o⟩
  ·replace t:=(if_neg z ..) ▸ t
   refine rr (if_neg z ..) ?_
   obtain ⟨n,sn',hn,e⟩:=t
   obtain ⟨n',m,hn',e',o⟩:=q_run text k (s + 1) false sn' (by lia)
   exact ⟨n + n',m,by lia,by rw [runFor_add,e,e'],o⟩
end
section
open PySem.Builtin PySem.Builtin.Re PySem.Sre
noncomputable def ec : Array Nat:=#[14,9,4,1,2,16,10,16,13,0,7,7,16,13,16,10,15,18,5,16,10,15,13,11,16,13,5,5,0,16,10,1,15,2,0,1]
noncomputable def eM (text : Array Nat) (s pc pos handed : Nat) (om : Bool) (frames : List Sre.Frame) (weight : Nat) (answer : Option Bool) (seen : Sre.Seen) : M:={ code:=ec,text,lim:=text.size,start:=s,lastStart:=text.size,wholeText:=false,mustAdvance:=false,pc,pos,handed,outermost:=om,marks:=#[],lastmark:=-1,lastindex:=-1,loops:=#[],inner:=none,frames,weight,answer,seen,outcome:=none }
noncomputable abbrev fS (s : Nat) (om : Bool) : Sre.Frame:={ wait:=.nextStart,pc:=10,pos:=s,outermost:=om }
noncomputable abbrev fB (pc s : Nat) (om : Bool) : Sre.Frame:={ wait:=.nextBranch,pc,pos:=s,outermost:=om }
noncomputable abbrev fN (s : Nat) (om : Bool) : Sre.Frame:={ wait:=.lookNot,pc:=26,pos:=s,outermost:=om }
section
variable {text : Array Nat} {s : Nat} {om : Bool} {h : Nat} {sn : Sre.Seen}
theorem e_branch : (eM text s 10 s h om [fS s om] 1 none sn).step = eM text s 12 s s om [fB 11 s om,fS s om] 2 none (sn.add 7):=by
 refine rr (step_exec rfl rfl (show (10 : Nat) < 36 by decide) ..) ?_;rfl
theorem e_back (b : Nat) (pc p : Nat) (hb : b = 11 ∨ b = 18) : (eM text s pc p h om [fB b s om,fS s om] 2 (some false) sn).step = eM text s (b + ec.getD b 0 + 1) s s om [fB (b + ec.getD b 0) s om,fS s om] 2 none sn:=by
 refine rr (step_ans rfl rfl rfl ..) ?_
 rcases hb with rfl | rfl <;> rfl
theorem e_lit {pc p w : Nat} {fr : List Sre.Frame} (h1 : ec.getD pc 0 = 16) (hl : pc < 36) (hp : p < text.size) (hc : (text.getD p 0 == ec.getD (pc + 1) 0) = true) : (eM text s pc p h om fr w none sn).step = eM text s (pc + 2) (p + 1) h om fr w none (sn.add 16):=by
 haveI hw : (eM text s pc p h om fr w none sn).word 0 = 16:=h1
 rw [step_exec rfl rfl hl,exec_lit_yes (by rw [hw];rfl) hp hc,hw];rfl
theorem e_litno {pc p w : Nat} {fr : List Sre.Frame} (h1 : ec.getD pc 0 = 16) (hl : pc < 36) (hc : text.size ≤ p ∨ (text.getD p 0 == ec.getD (pc + 1) 0) = false) : (eM text s pc p h om fr w none sn).step = eM text s pc p h om fr w (some false) (sn.add 16):=by
 haveI hw : (eM text s pc p h om fr w none sn).word 0 = 16:=h1
 refine rr (step_exec rfl rfl hl ..) ?_
 by_cases hp : text.size ≤ p
 ·rw [exec_lit_over (by rw [hw];rfl) hp,hw];rfl
 ·rw [exec_lit_no (by rw [hw];rfl) (show p < text.size by lia) (hc.resolve_left hp),hw];rfl
theorem e_jump {pc p w : Nat} {fr : List Sre.Frame} (h1 : ec.getD pc 0 = 15) (hl : pc < 36) : (eM text s pc p h om fr w none sn).step = eM text s (pc + 1 + ec.getD (pc + 1) 0) p h om fr w none (sn.add 15):=by
 haveI hw : (eM text s pc p h om fr w none sn).word 0 = 15:=h1
 refine rr (step_exec rfl rfl hl ..) ?_
 unfold M.exec
 haveI ho : Sre.ops[(eM text s pc p h om fr w none sn).word 0]? = some .JUMP:=by refine rr hw ?_;rfl
 refine rr ho ?_;refine rr hw ?_
 rfl
theorem e_not {p : Nat} {fr : List Sre.Frame} : (eM text s 26 p h om fr 2 none sn).step = eM text s 29 p p false (fN p om :: fr) 3 none (sn.add 5):=by
 refine rr (step_exec rfl rfl (show (26 : Nat) < 36 by decide) ..) ?_
 unfold M.exec
 haveI ho : Sre.ops[(eM text s 26 p h om fr 2 none sn).word 0]? = some .ASSERT_NOT:=rfl
 refine rr ho ?_
 rfl
theorem e_notback {p q pc : Nat} {b : Bool} {fr : List Sre.Frame} : (eM text s pc q h b (fN p om :: fr) 3 (some false) sn).step = eM text s 32 p h om fr 2 none sn:=by
 refine rr (step_ans rfl rfl rfl ..) ?_
 rfl
theorem e_win {p w b : Nat} : ((eM text s 35 p h om [fB b s om,fS s om] w none sn).runFor 4).outcome = some .matched∧((eM text s 35 p h om [fB b s om,fS s om] w none sn).runFor 4).start = s∧((eM text s 35 p h om [fB b s om,fS s om] w none sn).runFor 4).handed = p:=by
 rw [runFor_succ,step_exec rfl rfl (show (35 : Nat) < 36 by decide),exec_succ rfl rfl (.inl rfl),runFor_succ,step_ans rfl rfl rfl]
 exact ⟨rfl,rfl,rfl⟩
noncomputable def eolLen (text : Array Nat) (s : Nat) : Nat:=if text.getD s 0 == 13 && (decide (s + 1 < text.size) && text.getD (s + 1) 0 == 10) then 2 else 1
theorem e_at (hs : s < text.size) (hc : text.getD s 0 = 10 ∨ text.getD s 0 = 13) : ∃ m,(eM text s 10 s h om [fS s om] 1 none sn).runFor 16 = m∧m.outcome = some .matched∧m.start = s∧m.handed = s + eolLen text s:=by
 refine ⟨_,rfl,?_⟩
 unfold eolLen
 rcases hc with hc | hc
 ·haveI e1 : (text.getD s 0 == 13) = false:=by refine rr hc ?_;rfl
  refine rr e1 ?_;refine rr (Bool.false_and ..) ?_;refine rr (if_neg (by decide) ..) ?_
  rw [runFor_succ,e_branch,runFor_succ,e_litno rfl (by decide) (.inr (by rw [hc];rfl)),runFor_succ,e_back 11 _ _ (.inl rfl),runFor_succ]
  rw [e_lit (pc:=11 + ec.getD 11 0 + 1) rfl (by decide) hs (by rw [hc];rfl),runFor_succ,e_jump (pc:=11 + ec.getD 11 0 + 1 + 2) rfl (by decide)]
  haveI z:=e_win (text:=text) (s:=s) (om:=om) (h:=s) (sn:=(((((sn.add 7).add 16).add 16)).add 15)) (p:=s + 1) (w:=2) (b:=18)
  haveI z2:=runFor_more (m:=eM text s 35 (s + 1) s om [fB 18 s om,fS s om] 2 none (((((sn.add 7).add 16).add 16)).add 15)) (n:=4) (k:=11) (by refine rr (z.1 ..) ?_;rfl) (by lia)
  exact ⟨(congrArg M.outcome z2).trans z.1,(congrArg M.start z2).trans z.2.1,(congrArg M.handed z2).trans z.2.2⟩
 ·haveI e1 : (text.getD s 0 == 13) = true:=by refine rr hc ?_;rfl
  refine rr e1 ?_;refine rr (Bool.true_and ..) ?_
  rw [runFor_succ,e_branch,runFor_succ,e_lit rfl (by decide) hs (by rw [hc];rfl),runFor_succ]
  by_cases hn : (decide (s + 1 < text.size) && text.getD (s + 1) 0 == 10) = true
  ·refine rr (if_pos hn ..) ?_
   haveI hn':=hn
   replace hn':=(Bool.and_eq_true ..) ▸ hn'
   rw [e_lit (pc:=12 + 2) rfl (by decide) (of_decide_eq_true hn'.1) hn'.2,runFor_succ,e_jump (pc:=12 + 2 + 2) rfl (by decide)]
   haveI z:=e_win (text:=text) (s:=s) (om:=om) (h:=s) (sn:=((((sn.add 7).add 16).add 16)).add 15) (p:=s + 1 + 1) (w:=2) (b:=11)
   haveI z2:=runFor_more (m:=eM text s 35 (s + 1 + 1) s om [fB 11 s om,fS s om] 2 none (((((sn.add 7).add 16).add 16)).add 15)) (n:=4) (k:=12) (by refine rr (z.1 ..) ?_;rfl) (by lia)
   exact ⟨(congrArg M.outcome z2).trans z.1,(congrArg M.start z2).trans z.2.1,(congrArg M.handed z2).trans z.2.2⟩
  ·refine rr (if_neg hn ..) ?_
   have hno : text.size ≤ s + 1 ∨ (text.getD (s + 1) 0 == 10) = false:=by
    by_cases q : text.size ≤ s + 1
    ·exact .inl q
    ·right
     replace hn:=(Bool.not_eq_true ..) ▸ hn;replace hn:=(decide_eq_true (show s + 1 < text.size by lia) ..) ▸ hn;replace hn:=(Bool.true_and ..) ▸ hn
     exact hn
   rw [e_litno rfl (by decide) hno,runFor_succ,e_back 11 _ _ (.inl rfl),runFor_succ]
   rw [e_litno (pc:=11 + ec.getD 11 0 + 1) rfl (by decide) (.inr (by rw [hc];rfl)),runFor_succ]
   rw [show 11 + ec.getD 11 0 = 18 from rfl,e_back 18 _ _ (.inr rfl),runFor_succ]
   rw [e_lit (pc:=18 + ec.getD 18 0 + 1) rfl (by decide) hs (by rw [hc];rfl),runFor_succ]
   rw [show 18 + ec.getD 18 0 + 1 + 2 = 26 from rfl,e_not,runFor_succ,e_litno rfl (by decide) hno,runFor_succ,e_notback,runFor_succ,e_jump rfl (by decide)]
   haveI z:=e_win (text:=text) (s:=s) (om:=om) (h:=s + 1) (sn:=((((((((sn.add 7).add 16).add 16).add 16).add 16).add 5).add 16).add 15)) (p:=s + 1) (w:=2) (b:=23)
   haveI z2:=runFor_more (m:=eM text s 35 (s + 1) (s + 1) om [fB 23 s om,fS s om] 2 none ((((((((sn.add 7).add 16).add 16).add 16).add 16).add 5).add 16).add 15)) (n:=4) (k:=5) (by refine rr (z.1 ..) ?_;rfl) (by lia)
   exact ⟨(congrArg M.outcome z2).trans z.1,(congrArg M.start z2).trans z.2.1,(congrArg M.handed z2).trans z.2.2⟩
theorem e_inSet (c : Nat) (sn : Sre.Seen) : ∃ sn',Sre.inSet ec c 36 5 true sn = .ok (c == 10 || c == 13,sn'):=by
 show ∃ sn',(if c == 10 then Except.ok (true,sn.add 16) else Sre.inSet ec c 35 7 true (sn.add 16)) = .ok (c == 10 || c == 13,sn')
 cases h1 : c == 10 with
 | true=>exact ⟨_,rfl⟩
 | false =>
  refine rr (if_neg (by decide) ..) ?_
  show ∃ sn',(if c == 13 then Except.ok (true,(sn.add 16).add 16) else Sre.inSet ec c 34 9 true ((sn.add 16).add 16)) = .ok (false || c == 13,sn')
  cases h2 : c == 13 with
  | true=>exact ⟨_,rfl⟩
  | false =>
   refine rr (if_neg (by decide) ..) ?_
   exact ⟨_,rfl⟩
noncomputable def eFind (text : Array Nat) : Nat→Nat→Option Nat
 | 0,_=>none
 | n + 1,s=>if text.getD s 0 == 10 || text.getD s 0 == 13 then some s else eFind text n (s + 1)
theorem e_admitted {m : M} (hc : m.code = ec) (ht : m.text = text) (hl : m.lim = text.size) : ∀ (k s : Nat) (sn : Sre.Seen),s + k = text.size→∃ sn',M.admitted m (k + 1) s sn = .ok (eFind text k s,sn')
 | 0,s,sn,h=>by
  unfold M.admitted
  rw [if_pos (by rw [hl];lia)]
  exact ⟨_,rfl⟩
 | k + 1,s,sn,h=>by
  unfold M.admitted
  rw [if_neg (by rw [hl];lia),hc,ht]
  obtain ⟨sn',e⟩:=e_inSet (text.getD s 0) sn
  haveI e' : Sre.inSet ec (text.getD s 0) ec.size 5 true sn = .ok (text.getD s 0 == 10 || text.getD s 0 == 13,sn'):=e
  rw [e']
  unfold eFind
  cases z : (text.getD s 0 == 10 || text.getD s 0 == 13) with
  | true=>exact ⟨_,rfl⟩
  | false=>exact e_admitted hc ht hl k (s + 1) sn' (by lia)
theorem eFind_some {k s p : Nat} : eFind text k s = some p→s ≤ p∧p < s + k∧(text.getD p 0 = 10 ∨ text.getD p 0 = 13):=by
 induction k generalizing s with
 | zero=>intro h;exact nsm h
 | succ k ih =>
  intro h
  unfold eFind at h
  split at h
  ·rename_i z
   obtain rfl:=si h
   exact ⟨by lia,by lia,by simpa using z⟩
  ·obtain ⟨a,b,c⟩:=ih h
   exact ⟨by lia,by lia,c⟩
theorem e_search (text : Array Nat) (s : Nat) (hs : s ≤ text.size) : ∃ m,(Sre.forSearch ec text 0 s text.size false).runFor 16 = m∧match eFind text (text.size - s) s with
  | some p=>m.outcome = some .matched∧m.start = p∧m.handed = p + eolLen text p
  | none=>m.outcome = some .failed:=by
 haveI e : Sre.header ec = (1,10):=by rfl
 haveI hf : ∀ m : M,m.code = ec→m.hasFirstSet = true:=fun m hm=>by unfold M.hasFirstSet;refine rr hm ?_;rfl
 by_cases h0 : s < text.size
 ·haveI e0 : Sre.forSearch ec text 0 s text.size false = M.attemptFrom (eM text s 10 s s true [] 0 none (({} : Sre.Seen).add 14)) s true:=by
   unfold Sre.forSearch
   refine rr e ?_
   haveI h1 : (decide (s > text.size) || decide (text.size - s < 1)) = false:=by
    refine rr (decide_eq_false (by lia) ..) ?_;refine rr (decide_eq_false (by lia) ..) ?_;rfl
   simp only [h1,Bool.false_eq_true,if_false]
   rfl
  refine rr e0 ?_
  unfold M.attemptFrom
  refine rr (hf _ rfl ..) ?_
  obtain ⟨sn',z⟩:=e_admitted (text:=text) (m:=eM text s 10 s s true [] 0 none (({} : Sre.Seen).add 14)) rfl rfl rfl (text.size - s) s (({} : Sre.Seen).add 14) (by lia)
  haveI z' : M.admitted (eM text s 10 s s true [] 0 none (({} : Sre.Seen).add 14)) (text.size + 1 - s) s (({} : Sre.Seen).add 14) = .ok (eFind text (text.size - s) s,sn'):=by
   rw [show text.size + 1 - s = text.size - s + 1 by lia];exact z
  haveI hk : ∃ m,M.runFor 16 (match (Except.ok (eFind text (text.size - s) s,sn') : Except String (Option Nat × Sre.Seen)) with
   | .ok (some s',seen)=>M.attemptAt { (eM text s 10 s s true [] 0 none (({} : Sre.Seen).add 14)) with mustAdvance:=false,seen } s' true
   | .ok (none,seen)=>M.say { (eM text s 10 s s true [] 0 none (({} : Sre.Seen).add 14)) with seen } false
   | .error why=>M.stick (eM text s 10 s s true [] 0 none (({} : Sre.Seen).add 14)) why) = m∧match eFind text (text.size - s) s with
   | some p=>m.outcome = some .matched∧m.start = p∧m.handed = p + eolLen text p
   | none=>m.outcome = some .failed:=by
   cases hp : eFind text (text.size - s) s with
   | none=>exact ⟨_,rfl,rfl⟩
   | some p =>
    obtain ⟨_,hlt,hcp⟩:=eFind_some hp
    exact e_at (text:=text) (s:=p) (om:=true) (h:=p) (sn:=sn') (by lia) hcp
  replace hk:=z'.symm ▸ hk
  exact hk
 ·haveI hz : text.size - s = 0:=by lia
  refine rr hz ?_
  refine ⟨_,rfl,?_⟩
  haveI e0 : Sre.forSearch ec text 0 s text.size false = M.say (eM text s 10 s s true [] 0 none (({} : Sre.Seen).add 14)) false ∨ Sre.forSearch ec text 0 s text.size false = M.say { (eM text s 10 s s true [] 0 none (({} : Sre.Seen).add 14)) with lastStart:=0 } false:=by
   right
   unfold Sre.forSearch
   refine rr e ?_
   haveI h1 : (decide (s > text.size) || decide (text.size - s < 1)) = true:=by
    refine rr (decide_eq_true (p:=text.size - s < 1) (by lia) ..) ?_;simp
   simp only [h1,if_true]
   rfl
  rcases e0 with e0 | e0 <;> rw [e0] <;> rfl
end
end
section
open PySem.Builtin PySem.Builtin.Re
theorem pa_pat : PlainAttrs "re.Pattern" :=
 ⟨⟨"object.__getattribute__",by rw [typeLookup_type,builtinLookup_eq_fast];kernel_rfl,by decide +kernel⟩,by rw [typeLookup_type,builtinLookup_eq_fast];kernel_rfl⟩
theorem slot_sub : Slot "re.Pattern" "sub" "re.Pattern.sub" :=
 .of (owner:="re.Pattern") (n:="sub") (by rw [typeLookup_type,builtinLookup_eq_fast];kernel_rfl) (by decide +kernel) (by decide +kernel) (by decide +kernel)
  (by first | exact .inl (by decide +kernel) | exact .inr (by decide +kernel)) (by rw [isSubtype_type];kernel_rfl)
theorem type_sub : typeOf (.builtin "re.Pattern.sub") = pure (.type "method_descriptor"):=by show builtinType _ = _;refine rr builtinType_eq_fast ?_;kernel_rfl
theorem entry_sub : entryFor table "re.Pattern.sub" = some Builtin.«re.Pattern.sub»:=entryFor_of_tree (by kernel_rfl)
theorem entry_subloop : entryFor table "re.Pattern.sub.loop" = some Builtin.«re.Pattern.sub.loop»:=entryFor_of_tree (by kernel_rfl)
theorem args_sub (a b c : Value) : argsOk "re.Pattern.sub" ⟨[a,b,c],[]⟩:=by unfold argsOk;kernel_rfl
theorem slot_search : Slot "re.Pattern" "search" "re.Pattern.search" :=
 .of (owner:="re.Pattern") (n:="search") (by rw [typeLookup_type,builtinLookup_eq_fast];kernel_rfl) (by decide +kernel) (by decide +kernel) (by decide +kernel)
  (by first | exact .inl (by decide +kernel) | exact .inr (by decide +kernel)) (by rw [isSubtype_type];kernel_rfl)
theorem type_search : typeOf (.builtin "re.Pattern.search") = pure (.type "method_descriptor"):=by show builtinType _ = _;refine rr builtinType_eq_fast ?_;kernel_rfl
theorem entry_search : entryFor table "re.Pattern.search" = some Builtin.«re.Pattern.search»:=entryFor_of_tree (by kernel_rfl)
theorem args_search (a b : Value) : argsOk "re.Pattern.search" ⟨[a,b],[]⟩:=by unfold argsOk;kernel_rfl
theorem pa_mat : PlainAttrs "re.Match" :=
 ⟨⟨"object.__getattribute__",by rw [typeLookup_type,builtinLookup_eq_fast];kernel_rfl,by decide +kernel⟩,by rw [typeLookup_type,builtinLookup_eq_fast];kernel_rfl⟩
theorem slot_span : Slot "re.Match" "span" "re.Match.span" :=
 .of (owner:="re.Match") (n:="span") (by rw [typeLookup_type,builtinLookup_eq_fast];kernel_rfl) (by decide +kernel) (by decide +kernel) (by decide +kernel)
  (by first | exact .inl (by decide +kernel) | exact .inr (by decide +kernel)) (by rw [isSubtype_type];kernel_rfl)
theorem type_span : typeOf (.builtin "re.Match.span") = pure (.type "method_descriptor"):=by show builtinType _ = _;refine rr builtinType_eq_fast ?_;kernel_rfl
theorem entry_span : entryFor table "re.Match.span" = some Builtin.«re.Match.span»:=entryFor_of_tree (by kernel_rfl)
theorem args_span (a b : Value) : argsOk "re.Match.span" ⟨[a,b],[]⟩:=by unfold argsOk;kernel_rfl
theorem look_buf : typeLookup (.type "bytes") "__buffer__" = pure (some (.builtin "bytes.__buffer__")):=by rw [typeLookup_type,builtinLookup_eq_fast];kernel_rfl
theorem look_rel : typeLookup (.type "bytes") "__release_buffer__" = pure none:=by rw [typeLookup_type,builtinLookup_eq_fast];kernel_rfl
theorem sub_bytes : isSubtype (.type "bytes") (.type "bytes") = pure true:=by rw [isSubtype_type];kernel_rfl
section
variable {A : Around} {E : Value→Shared→Prop} {s : Shared}
theorem typeIs_bytes (s : Shared) (b : Array UInt8) (t : Tok) : s.TypeIs (.bytes b t) "bytes":=rfl
theorem own_bytes {b : Array UInt8} {t : Tok} {Q : Bool→Shared→Prop} (q : Q true s) : wpAny (model prog w) A (Bytes.slotIsOwn (.bytes b t) "__buffer__") Q E s:=by
 refine wpAny_bind (wpAny_specialOf (typeIs_bytes s b t) look_buf ?_)
 refine wp_neg (by decide +kernel) ?_
 refine wpAny_isInstance (typeIs_bytes s b t) (b:=true) ?_ q
 show isSubtype (.type "bytes") (.type (("bytes.__buffer__" : String).dropRight ("__buffer__".length + 1))) = _
 rw [show ("bytes.__buffer__" : String).dropRight ("__buffer__".length + 1) = "bytes" by decide +kernel]
 exact sub_bytes
theorem rel_bytes {b : Array UInt8} {t : Tok} {Q : Bool→Shared→Prop} (q : Q false s) : wpAny (model prog w) A (Bytes.ownRelease (.bytes b t)) Q E s:=by
 exact wpAny_bind (wpAny_bind (wpAny_specialOf (typeIs_bytes s b t) look_rel (wpAny_pure (wpAny_pure q))))
theorem buf_bytes {id : String} {b : Array UInt8} {t : Tok} {full : Bool} {Q : Option (Array UInt8)→Shared→Prop} (q : Q (some b) s) : wpAny (model prog w) A (Bytes.buffer? id (.bytes b t) full) Q E s:=by
 refine wpAny_bind (wpAny_specialOf (typeIs_bytes s b t) look_buf ?_)
 refine wpAny_bind (own_bytes ?_)
 refine wpAny_bind (wpAny_specialOf (typeIs_bytes s b t) look_buf ?_)
 refine wpAny_bind (rel_bytes ?_)
 exact wpAny_bind (wpAny_pure (wpAny_pure q))
theorem quiet_bytes {id : String} {b : Array UInt8} {t : Tok} {Q : Option (Array UInt8)→Shared→Prop} (q : Q (some b) s) : wpAny (model prog w) A (Bytes.bufferQuiet? id (.bytes b t)) Q E s:=by
 exact wpAny_bind (wpAny_attempt (buf_bytes (wpAny_pure q)))
theorem textOf_str {x : Str} {t : Tok} {Q : Array Nat × Nat→Shared→Prop} (q : Q (x.cps,0) s) : wpAny (model prog w) A (reTextOf (.str x t)) Q E s:=by
 exact wpAny_bind (wpAny_pure (wpAny_pure q))
theorem textOf_bytes {b : Array UInt8} {t : Tok} {Q : Array Nat × Nat→Shared→Prop} (q : Q (b.map (·.toNat),1) s) : wpAny (model prog w) A (reTextOf (.bytes b t)) Q E s:=by
 refine wpAny_bind (wpAny_pure ?_)
 exact wpAny_bind (quiet_bytes (wpAny_pure q))
inductive PatE (h : Heap) (p : Addr) (code : Array Nat) (kind : Nat) : Prop
 | mk (o : _) (fs : _) (q : _) (oq : _) (items : _) (n : _) (h0 : h.get? p = some o) (h1 : o.cls = .type "re.Pattern") (h2 : o.dict = none) (h3 : o.data = .fields fs) (h4 : fs.getD 2 .none = .int 0 0) (h5 : fs.getD 5 .none = .ref q) (h6 : reRawNat (fs.getD 6 .none) = kind) (h7 : h.get? q = some oq) (h8 : oq.data = .seq items n) (h9 : (items.map reRawOf).map (·.toNat) = code)
structure PatAt (h : Heap) (p : Addr) (code : Array Nat) (kind : Nat) : Prop where
 ex : PatE h p code kind
theorem PatAt.keeps {h h' : Heap} {p : Addr} {code : Array Nat} {kind : Nat} (x : PatAt h p code kind) (k : ∀ b o,h.get? b = some o→h'.get? b = some o) : PatAt h' p code kind:=by
 obtain ⟨o,fs,q,oq,items,n,h1,h2,h3,h4,h5,h6,h7,h8,r1,r2⟩:=x
 exact ⟨o,fs,q,oq,items,n,k _ _ h1,h2,h3,h4,h5,h6,h7,k _ _ h8,r1,r2⟩
theorem raw_items {q : Addr} {oq : Obj} {items : Array Value} {n : Nat} {Q : Array Int→Shared→Prop} (hq : s.heap.get? q = some oq) (hd : oq.data = .seq items n) (k : Q (items.map reRawOf) s) : wpAny (model prog w) A (reRawItems (.ref q)) Q E s:=by
 exact wpAny_bind (wpAny_seqItems hq hd (wpAny_pure k))
theorem target_str {p : Addr} {code : Array Nat} {x : Str} {t : Tok} {Q : ReTarget→Shared→Prop} (P : PatAt s.heap p code 0) (q : Q ⟨.ref p,.str x t,code,x.cps,0,0,0,x.cps.size⟩ s) : wpAny (model prog w) A (reWholeTarget (.ref p) (.str x t)) Q E s:=by
 obtain ⟨o,fs,qa,oq,items,n,h1,h2,h3,h4,h5,h6,h7,h8,h9,h10⟩:=P
 refine wpAny_bind (wpAny_fieldsOf h1 h4 ?_)
 refine wpAny_bind (textOf_str ?_)
 refine rr h7 ?_;refine rr h6 ?_;refine rr h5 ?_
 refine wpAny_bind (wpAny_pure ?_)
 refine wpAny_bind (raw_items h8 h9 (wpAny_pure ?_))
 refine rr h10 ?_
 exact q
theorem target_bytes {p : Addr} {code : Array Nat} {b : Array UInt8} {t : Tok} {Q : ReTarget→Shared→Prop} (P : PatAt s.heap p code 1) (q : Q ⟨.ref p,.bytes b t,code,b.map (·.toNat),1,0,0,(b.map (·.toNat)).size⟩ s) : wpAny (model prog w) A (reWholeTarget (.ref p) (.bytes b t)) Q E s:=by
 obtain ⟨o,fs,qa,oq,items,n,h1,h2,h3,h4,h5,h6,h7,h8,h9,h10⟩:=P
 refine wpAny_bind (wpAny_fieldsOf h1 h4 ?_)
 refine wpAny_bind (textOf_bytes ?_)
 refine rr h7 ?_;refine rr h6 ?_;refine rr h5 ?_
 refine wpAny_bind ?_
 ·unfold reNoCollectionInside
  refine wp_pos (show ((1 : Nat) == 1) = true from rfl) ?_
  refine wpAny_bind (wpAny_isInstance (typeIs_bytes s b t) sub_bytes ?_)
  refine wpAny_pure ?_
  refine wpAny_bind (raw_items h8 h9 (wpAny_pure ?_))
  refine rr h10 ?_
  exact q
end
end
section
open PySem.Builtin PySem.Builtin.Re
section
noncomputable def eSub (text : Array Nat) : Nat→Nat→List (List Nat)
 | 0,_=>[]
 | f + 1,d=>match eFind text (text.size - d) d with
  | some p=>(if decide (d < p) then [(text.extract d p).toList] else []) ++ [13,10] :: eSub text f (p + eolLen text p)
  | none=>if decide (d < text.size) then [(text.extract d text.size).toList] else []
theorem eSub_c {text : Array Nat} {f d} : eSub text (f + 1) d = (match eFind text (text.size - d) d with
  | some p=>(if decide (d < p) then [(text.extract d p).toList] else []) ++ [13,10] :: eSub text f (p + eolLen text p)
  | none=>if decide (d < text.size) then [(text.extract d text.size).toList] else []):=rfl
theorem eolLen_pos (text : Array Nat) (p : Nat) : 1 ≤ eolLen text p:=by
 unfold eolLen
 by_cases z : (text.getD p 0 == 13 && (decide (p + 1 < text.size) && text.getD (p + 1) 0 == 10)) = true
 ·refine rr (if_pos z ..) ?_;lia
 ·refine rr (if_neg z ..) ?_;lia
theorem eolLen_le {text : Array Nat} {p : Nat} (h : p < text.size) : p + eolLen text p ≤ text.size:=by
 unfold eolLen
 by_cases z : (text.getD p 0 == 13 && (decide (p + 1 < text.size) && text.getD (p + 1) 0 == 10)) = true
 ·refine rr (if_pos z ..) ?_
  replace z:=(Bool.and_eq_true ..) ▸ z;replace z:=(Bool.and_eq_true ..) ▸ z
  have:=of_decide_eq_true z.2.1
  lia
 ·refine rr (if_neg z ..) ?_;lia
theorem piece_push {A : Around} {E : Value→Shared→Prop} {I : Im} {s : Shared} {l : Addr} {xs : List V} {x : V} {v : Value} (R : Rel w.params C Φ I ρ ((l,.lst xs) :: σ) s) (hv : VR C I x v) (hz : xs.length ≤ 100000) {Q : Unit→Shared→Prop}
  (q : ∀ s',Rel w.params C Φ I ρ ((l,.lst (xs ++ [x])) :: σ) s'→Kp [] I ((l,.lst xs) :: σ) I ((l,.lst (xs ++ [x])) :: σ) s s'→Q () s') : wpAny (model prog w) A (updateSeq l (·.push v)) Q E s:=by
 obtain ⟨o,ho,vs,n,rfl,hvs⟩:=R.cell l _ (.head _)
 haveI hsz : vs.toArray.size = xs.length:=by simp [hvs.1]
 refine wpAny_updateSeq ho rfl ?_ (by refine rr hsz ?_;exact sl _ (by lia)) (by refine rr (Array.size_push ..) ?_;refine rr hsz ?_;have:=sl (xs.length + 1) (by lia);lia)
 obtain ⟨n',hn'⟩:=upd_seq (f:=(·.push v)) ho
 haveI e : vs.toArray.push v = (vs ++ [v]).toArray:=by simp
 replace hn':=e ▸ hn'
 haveI z:=R.set (tk:=s.toks) (i:=0) rfl (c':=.lst (xs ++ [x])) (Heap.SameBut.update ..) hn' ⟨_,_,rfl,hvs.append (.one hv)⟩
 exact q _ z.1 z.2
theorem slice_str {A : Around} {E : Value→Shared→Prop} {s : Shared} {text : Array Nat} {b e : Nat} (hz : text.size ≤ 100000) {Q : Value→Shared→Prop} (q : ∀ t tk,Q (.str ⟨text.extract b e⟩ t) { s with toks:=tk }) : wpAny (model prog w) A (reSlice text 0 b e) Q E s:=by
 refine wp_pos (show ((0 : Nat) == 0) = true from rfl) ?_
 unfold mkStr
 rw [if_neg (by
  show ¬ (sizeLine < (text.extract b e).size)
  have:=sl 100000 (by decide)
  have : (text.extract b e).size ≤ text.size:=by simp;lia
  lia)]
 exact wpAny_bind (wpAny_fresh (wpAny_pure (q _ _)))
theorem AOk.subloop {A : Around} (a : AOk Φ A) (hl : 2 ≤ Φ.lvl) (args : Args) : AOk Φ.low (A.under (.builtin "re.Pattern.sub.loop" args)):=by
 refine ⟨a.hd,a.fr,?_,?_⟩
 ·have:=a.dp
  haveI e : (A.under (.builtin "re.Pattern.sub.loop" args)).depth ≤ A.depth + 1:=by
   have : (A.under (.builtin "re.Pattern.sub.loop" args)).depth = A.depth:=rfl
   lia
  show (A.under (.builtin "re.Pattern.sub.loop" args)).depth + 20 * (Φ.lvl - 1) ≤ 600
  lia
 ·have:=a.un
  haveI e : (A.under (.builtin "re.Pattern.sub.loop" args)).units = A.units + 1:=rfl
  show (A.under (.builtin "re.Pattern.sub.loop" args)).units + 50 * (Φ.lvl - 1) ≤ 5000
  refine rr e ?_
  lia
structure SubK (prog : Program) (w : World) (C : Addr) (Φ : Fc) (p : Addr) (x : List Nat) (code : Array Nat) (kind : Nat) (vf : List Nat→V) (val : List Nat→Tok→Value) (sep : List Nat) (find : Nat→Option Nat) (len : Nat→Nat) (sub : Nat→Nat→List (List Nat)) : Prop where
 vr : ∀ I l t,VR C I (vf l) (val l t)
 nn : ∀ t,(val sep t != .none) = true
 tgt : ∀ {A : Around} {E : Value→Shared→Prop} {s : Shared} {t : Tok} {Q : ReTarget→Shared→Prop},(∀ b o,Φ.h₀.get? b = some o→s.heap.get? b = some o)→Q ⟨.ref p,val x t,code,x.toArray,kind,0,0,x.toArray.size⟩ s→wpAny (model prog w) A (reWholeTarget (.ref p) (val x t)) Q E s
 turn : ∀ {A : Around} {E : Value→Shared→Prop} {s : Shared} {t : Tok} {Q : Unit→Shared→Prop},Q () s→wpAny (model prog w) A (reLiteralCannotBeTurned (val sep t)) Q E s
 slice : ∀ {A : Around} {E : Value→Shared→Prop} {s : Shared} {b e : Nat} {Q : Value→Shared→Prop},(∀ t tk,Q (val (x.toArray.extract b e).toList t) { s with toks:=tk })→wpAny (model prog w) A (reSlice x.toArray kind b e) Q E s
 search : ∀ d,d ≤ x.toArray.size→∃ n m,n ≤ 5 * x.toArray.size + 50∧(Sre.forSearch code x.toArray 0 d x.toArray.size false).runFor n = m∧match find d with
  | some p=>m.outcome = some .matched∧m.start = p∧m.handed = p + len p
  | none=>m.outcome = some .failed
 found : ∀ d p,find d = some p→d ≤ p∧p < x.toArray.size
 len1 : ∀ p,1 ≤ len p
 lenle : ∀ p,p < x.toArray.size→p + len p ≤ x.toArray.size
 step : ∀ f d,sub (f + 1) d = match find d with
  | some p=>(if decide (d < p) then [(x.toArray.extract d p).toList] else []) ++ sep :: sub f (p + len p)
  | none=>if decide (d < x.toArray.size) then [(x.toArray.extract d x.toArray.size).toList] else []
 join : ∀ {A : Around} {E : Value→Shared→Prop} {ρ : List (Option V)} {σ : St} {I : Im} {s : Shared} {l : Addr} {ss : List (List Nat)} {jt : Tok} {Q : Value→Shared→Prop},AOk Φ.low A→Rel w.params C Φ I ρ ((l,.lst (ss.map vf)) :: σ) s→ss ≠ []→ss.length ≤ 1000000→(ss.map List.length).sum ≤ 1000000 →
  (∀ I' s' t',Rel w.params C Φ I' ρ ((l,.lst (ss.map vf)) :: σ) s'→Kp [] I ((l,.lst (ss.map vf)) :: σ) I' ((l,.lst (ss.map vf)) :: σ) s s'→Q (val ss.flatten t') s')→wpAny (model prog w) A (call (.builtin (if kind == 0 then "str.join" else "bytes.join")) [val [] jt,.ref l]) Q E s
theorem sub_loop (hl : 2 ≤ Φ.lvl) {p l : Addr} {x : List Nat} {code : Array Nat} {kind : Nat} {vf : List Nat→V} {val : List Nat→Tok→Value} {sep : List Nat} {find : Nat→Option Nat} {len : Nat→Nat} {sub : Nat→Nat→List (List Nat)} {t t2 : Tok}
  (K : SubK prog w C Φ p x code kind vf val sep find len sub) (hse : sep.length ≤ 2) (hx : x.length ≤ 10000) {A : Around} (a : AOk Φ A) : ∀ (f d : Nat) (n : Nat) (ss : List (List Nat)) (I : Im) (s : Shared),x.length + 1 ≤ f + d→d ≤ x.length→ss.length ≤ 2 * d→(ss.map List.length).sum ≤ 3 * d →
  Rel w.params C Φ I ρ ((l,.lst (ss.map vf)) :: σ) s→∀ (RR : Result→Shared→Prop),
  (∀ I' s' t',Rel w.params C Φ I' ρ ((l,.lst ((ss ++ sub f d).map vf)) :: σ) s'→Kp [] I ((l,.lst (ss.map vf)) :: σ) I' ((l,.lst ((ss ++ sub f d).map vf)) :: σ) s s'→RR (.ok (.ret (val (ss ++ sub f d).flatten t'))) s') →
  codeAny (model prog w) A (.builtin "re.Pattern.sub.loop" ⟨[.ref p,val x t,val sep t2,rawInt 0,rawInt 0,rawInt n,rawInt d,rawInt d,.bool false,.ref l,.bool false],[]⟩) RR s:=by
 intro f
 induction f with
 | zero=>intro d n ss I s hf hd _ _ R RR q;lia
 | succ f ih =>
  intro d n ss I s hf hd hss hsu R RR q
  have hxs : x.toArray.size = x.length:=by simp
  haveI hsl:=sl 100000 (by decide)
  refine codeAny_builtin entry_subloop ?_
  refine wpAny_bind (K.tgt R.h₀ ?_)
  refine wp_pos (show ((0 : Int) == 0) = true from rfl) ?_
  refine wpAny_bind (K.turn ?_)
  obtain ⟨nn,m,hnn,hm,ho⟩:=K.search d (by lia)
  refine wpAny_bind ?_
  refine rr (if_neg (show ¬ (((0 : Int) != 0 && decide ((n : Int) ≥ 0)) = true) from by simp) ..) ?_
  refine run_end (m:=Sre.forSearch code x.toArray 0 ((d : Int)).toNat x.toArray.size false) (m':=m) (n:=nn) (by refine rr (Int.toNat_natCast ..) ?_;exact hm) (by lia) ?_
  replace q:=(K.step ..) ▸ q
  cases hp : find d with
  | none =>
   rw [hp] at ho q
   refine rr ho ?_
   refine rr (Int.toNat_natCast ..) ?_
   have fin : ∀ (ss' : List (List Nat)) (s₁ : Shared),ss'.length ≤ 1000000→(ss'.map List.length).sum ≤ 1000000→Rel w.params C Φ I ρ ((l,.lst (ss'.map vf)) :: σ) s₁→Kp [] I ((l,.lst (ss.map vf)) :: σ) I ((l,.lst (ss'.map vf)) :: σ) s s₁ →
     ss' = ss ++ (if decide (d < x.toArray.size) then [(x.toArray.extract d x.toArray.size).toList] else [])→∀ (jt : Tok),wpAny (model prog w) (A.under (.builtin "re.Pattern.sub.loop" ⟨[.ref p,val x t,val sep t2,rawInt 0,rawInt 0,rawInt n,rawInt d,rawInt d,.bool false,.ref l,.bool false],[]⟩)) (do
      let text ← if ((← seqItems? (.ref l)).getD #[]).isEmpty then pure (val (x.toArray.extract 0 0).toList jt) else call (.builtin (if kind == 0 then "str.join" else "bytes.join")) [val (x.toArray.extract 0 0).toList jt,.ref l]
      ret text)
      (fun fin s'=>match fin with | .done f=>RR (.ok f) s' | .again c'=>c'.quiet = true∧codeAny (model prog w) A c' RR s') (fun e s'=>RR (.error e) s') s₁:=by
    intro ss' s₁ hz1 hz R₁ k₁ he jt
    obtain ⟨o,ho,vs,nn,rfl,hvs⟩:=R₁.cell l _ (.head _)
    refine wpAny_bind (wpAny_seqItems ho rfl ?_)
    have hj : (x.toArray.extract 0 0).toList = []:=by simp
    refine rr hj ?_
    by_cases hem : ss' = []
    ·subst hem
     haveI hv0 : vs = []:=hvs.nil_inv
     subst hv0
     refine wpAny_bind (wpAny_pure (wpAny_pure ?_))
     replace q:=he.symm ▸ q
     exact q I s₁ jt R₁ k₁
    ·haveI hvl : ((some vs.toArray).getD #[]).isEmpty = false:=by
      cases vs with
      | nil=>have:=hvs.1;simp at this;exact absurd (List.length_eq_zero_iff.mp this.symm) hem
      | cons v vs=>rfl
     refine rr hvl ?_
     refine wpAny_bind (K.join (a.subloop hl _) R₁ hem hz1 hz fun I' s' t' R' k'=>wpAny_pure ?_)
     replace q:=he.symm ▸ q
     exact q I' s' t' R' (k₁.trans k' R₁.apartI)
   have hsum : (ss.map List.length).sum ≤ 900000:=by lia
   by_cases hds : d < x.toArray.size
   ·refine wp_pos hds ?_
    refine wpAny_bind (K.slice fun ts tk=>?_)
    have Rt:=R.toks tk
    have Gt : Gr I I s { s with heap:=s.heap,toks:=tk }:=Gr.same R.im fun _ _ e=>e
    have hv : VR C I (vf (x.toArray.extract d x.toArray.size).toList) (val (x.toArray.extract d x.toArray.size).toList ts):=K.vr _ _ _
    refine wpAny_bind (piece_push Rt hv (by simp;lia) fun s₂ R₂ k₂=>?_)
    have e2 : ss.map vf ++ [vf (x.toArray.extract d x.toArray.size).toList] = (ss ++ [(x.toArray.extract d x.toArray.size).toList]).map vf:=by simp
    rw [e2] at R₂ k₂
    refine wpAny_bind (K.slice fun tj tk₂=>?_)
    haveI R₃:=R₂.toks tk₂
    haveI G₃ : Gr I I s₂ { s₂ with heap:=s₂.heap,toks:=tk₂ }:=Gr.same R₂.im fun _ _ e=>e
    exact fin _ _ (by simp;lia) (by simp;lia) R₃ (((Gt.kp (W:=[]) (σ:=(l,.lst (ss.map vf)) :: σ)).trans k₂ Rt.apartI).trans (G₃.kp (W:=[]) (σ:=(l,.lst ((ss ++ [(x.toArray.extract d x.toArray.size).toList]).map vf)) :: σ)) R₂.apartI) (by refine rr (if_pos (decide_eq_true hds) ..) ?_;rfl) tj
   ·refine wp_neg hds ?_
    refine wpAny_bind (K.slice fun tj tk₂=>?_)
    haveI R₃:=R.toks tk₂
    have G₃ : Gr I I s { s with heap:=s.heap,toks:=tk₂ }:=Gr.same R.im fun _ _ e=>e
    exact fin ss _ (by lia) (by lia) R₃ (G₃.kp (W:=[]) (σ:=(l,.lst (ss.map vf)) :: σ)) (by refine rr (if_neg (by simpa using hds) ..) ?_;refine rr (List.append_nil ..) ?_;rfl) tj
  | some p' =>
   rw [hp] at ho q
   obtain ⟨ho,hst,hha⟩:=ho
   obtain ⟨hge,hlt⟩:=K.found _ _ hp
   have hpos:=K.len1 p'
   haveI hle:=K.lenle p' hlt
   refine rr ho ?_
   dsimp only
   refine rr hst ?_;refine rr hha ?_
   haveI hmu : (p' + len p' == p') = false:=by rw [beq_eq_false_iff_ne];lia
   refine rr hmu ?_
   have fin : ∀ (ss' : List (List Nat)) (s₁ : Shared),ss'.length ≤ 2 * d + 1→Rel w.params C Φ I ρ ((l,.lst (ss'.map vf)) :: σ) s₁→Kp [] I ((l,.lst (ss.map vf)) :: σ) I ((l,.lst (ss'.map vf)) :: σ) s s₁ →
     (ss' ++ sep :: sub f (p' + len p') = ss ++ ((if decide (d < p') then [(x.toArray.extract d p').toList] else []) ++ sep :: sub f (p' + len p'))) →
     (d < p'→ss'.length ≤ 2 * d + 1)→(¬ d < p'→ss'.length ≤ 2 * d)→(ss'.map List.length).sum ≤ 3 * d + (p' - d) →
     ∀ A' : Around,wpAny (model prog w) A' (updateSeq l (·.push (val sep t2)) >>= fun _=>again (.builtin "re.Pattern.sub.loop" ⟨[.ref p,val x t,val sep t2,rawInt 0,rawInt 0,rawInt ((n : Int) + 1),rawInt (p' + len p' : Nat),rawInt (p' + len p' : Nat),.bool false,.ref l,.bool false],[]⟩))
      (fun fin s'=>match fin with | .done f=>RR (.ok f) s' | .again c'=>c'.quiet = true∧codeAny (model prog w) A c' RR s') (fun e s'=>RR (.error e) s') s₁:=by
    intro ss' s₁ hl1 R₁ k₁ he hc1 hc2 hc3 A'
    refine wpAny_bind (piece_push R₁ (x:=vf sep) (K.vr _ _ t2) (by simp;lia) fun s₂ R₂ k₂=>?_)
    refine wpAny_pure ⟨Code.quiet_builtin _ (by decide +kernel),?_⟩
    haveI e2 : ss'.map vf ++ [vf sep] = (ss' ++ [sep]).map vf:=by simp
    rw [e2] at R₂ k₂
    haveI hlen : (ss' ++ [sep]).length ≤ 2 * (p' + len p'):=by
     refine rr (List.length_append ..) ?_;refine rr (List.length_singleton ..) ?_
     by_cases hdp : d < p'
     ·have:=hc1 hdp;lia
     ·have:=hc2 hdp;lia
    refine ih (p' + len p') (n + 1) (ss' ++ [sep]) I s₂ (by lia) (by lia) hlen (by simp;lia) R₂ RR fun I₃ s₃ t' R₃ k₃=>?_
    haveI e3 : ss' ++ [sep] ++ sub f (p' + len p') = ss ++ ((if decide (d < p') then [(x.toArray.extract d p').toList] else []) ++ sep :: sub f (p' + len p')):=by refine rl he ?_;simp
    rw [e3] at R₃ k₃ ⊢
    exact q I₃ s₃ t' R₃ ((k₁.trans k₂ R₁.apartI).trans k₃ R₂.apartI)
   refine rr (Int.toNat_natCast ..) ?_
   by_cases hdp : d < p'
   ·refine wp_pos hdp ?_
    refine wpAny_bind (K.slice fun ts tk=>?_)
    haveI Rt:=R.toks tk
    have Gt : Gr I I s { s with heap:=s.heap,toks:=tk }:=Gr.same R.im fun _ _ e=>e
    have hv : VR C I (vf (x.toArray.extract d p').toList) (val (x.toArray.extract d p').toList ts):=K.vr _ _ _
    refine wpAny_bind (piece_push Rt hv (by simp;lia) fun s₂ R₂ k₂=>?_)
    haveI e2 : ss.map vf ++ [vf (x.toArray.extract d p').toList] = (ss ++ [(x.toArray.extract d p').toList]).map vf:=by simp
    rw [e2] at R₂ k₂
    refine wp_pos rfl (wpAny_bind (wpAny_pure (wp_pos (K.nn t2) ?_)))
    exact fin _ s₂ (by simp;lia) R₂ ((Gt.kp (W:=[]) (σ:=(l,.lst (ss.map vf)) :: σ)).trans k₂ Rt.apartI) (by simp [hdp]) (fun _=>by simp;lia) (fun h=>absurd hdp h) (by simp;lia) _
   ·refine wp_neg hdp ?_
    refine wp_pos rfl (wpAny_bind (wpAny_pure (wp_pos (K.nn t2) ?_)))
    exact fin ss s (by lia) R .refl (by simp [hdp]) (fun h=>absurd h hdp) (fun _=>hss) (by lia) _
theorem subK_str (hl : 2 ≤ Φ.lvl) {p : Addr} {x : List Nat} (hP : PatAt Φ.h₀ p ec 0) (hx : x.length ≤ 10000) : SubK prog w C Φ p x ec 0 .str (fun l t=>.str (mkS l) t) [13,10] (fun d=>eFind x.toArray (x.toArray.size - d) d) (eolLen x.toArray) (eSub x.toArray) where
 vr:=fun I l t=>.str l t
 nn:=fun t=>rfl
 tgt:=fun k q=>target_str (hP.keeps k) q
 turn:=fun q=>wpAny_pure q
 slice:=fun q=>slice_str (by simp;lia) fun t tk=>by have:=q t tk;simpa [mkS] using this
 search:=fun d hd=>by
  obtain ⟨m,hm,ho⟩:=e_search x.toArray d hd
  exact ⟨16,m,by lia,hm,ho⟩
 found:=fun d p h=>by
  obtain ⟨a,b,_⟩:=eFind_some h
  exact ⟨a,by lia⟩
 len1:=eolLen_pos _
 lenle:=fun p h=>eolLen_le h
 step:=fun f d=>rfl
 join:=fun {A E ρ σ I s l ss jt Q} a R hne hz hs q=>by
  have gj : ∀ ss : List (List Nat),glue [] ss = ss.flatten:=by
   intro ss
   induction ss with
   | nil=>rfl
   | cons a r ih =>
    cases r with
    | nil=>simp [glue]
    | cons b r=>simp only [glue,List.append_nil] at ih ⊢;refine rr ih ?_;simp
  refine BJ.join (Φ:=Φ.low) (C:=C) (ρ:=ρ) (σ:=(l,.lst (ss.map .str)) :: σ) (sep:=[]) (ss:=ss) (x:=.ref l) (.inr ⟨l,rfl,.head _⟩) (by simpa using Nat.le_trans hs (by decide)) (Q:=fun v σ'=>v = .str ss.flatten∧σ' = (l,.lst (ss.map .str)) :: σ) ⟨by rw [gj],rfl⟩ _ I s [.str (mkS []) jt,.ref l] a R.low (.two (.str [] jt) (.ref l)) _ _ ?_
  rintro v σ' I' s' val ⟨rfl,rfl⟩ hv R' k'
  obtain ⟨_,rfl⟩:=hv.inv
  exact q I' s' _ R'.unlow k'
end
end
section
open PySem.Builtin PySem.Builtin.Re
theorem named_sub (a b : Value) : reNamed "re.Pattern.sub" "sub" ["repl","string","count"] 2 [a,b] [] = pure [some a,some b,none]:=by kernel_rfl
theorem str_nocall : typeLookup (.type "str") "__call__" = pure none:=by rw [typeLookup_type,builtinLookup_eq_fast];kernel_rfl
theorem bytes_nocall : typeLookup (.type "bytes") "__call__" = pure none:=by rw [typeLookup_type,builtinLookup_eq_fast];kernel_rfl
section
theorem PatAt.typeIs {s : Shared} {p : Addr} {code : Array Nat} {kind : Nat} (x : PatAt s.heap p code kind) : s.TypeIs (.ref p) "re.Pattern":=by
 obtain ⟨o,fs,q,oq,items,n,h1,h2,h3,r⟩:=x.ex
 exact ⟨o,h1,h2⟩
noncomputable def eolsOf (x : List Nat) : List Nat:=(eSub x.toArray (x.length + 1) 0).flatten
theorem BJ.subStr (hl : 2 ≤ Φ.lvl) {p : Addr} {x : List Nat} (hP : PatAt Φ.h₀ p ec 0) (hx : x.length ≤ 10000) {Q : QV} (q : Q (.str (eolsOf x)) σ) : BJ prog w C Φ ρ σ "re.Pattern.sub" [.ref p,.str [13,10],.str x] Q:=by
 intro A I s vals a R hv QQ E g
 obtain ⟨v,v2,v3,rfl,h1,h2,h3⟩:=hv.inv3
 obtain ⟨_,rfl⟩:=h1.inv
 obtain ⟨t2,rfl⟩:=h2.inv
 obtain ⟨t,rfl⟩:=h3.inv
 haveI hPs:=hP.keeps R.h₀
 refine wpAny_call (codeAny_call_builtin slot_sub.plain entry_sub (slot_sub.check _ _ _ _ _ _ _ _ hPs.typeIs (args_sub _ _ _) ?_))
 unfold Builtin.«re.Pattern.sub» reSubstitute
 dsimp only
 rw [named_sub]
 refine wpAny_bind (wpAny_pure ?_)
 refine wpAny_bind (wpAny_pure ?_)
 refine wpAny_bind (wpAny_specialOf (T:="str") (typeIs_str _ _ _) str_nocall ?_)
 refine wp_neg (show ¬ ((none : Option Value).isSome = true) from by decide) ?_
 refine wpAny_bind (wpAny_pure ?_)
 refine wpAny_bind (wpAny_pure ?_)
 refine rr (if_neg (show ¬ ((none : Option Value).isSome = true) from by decide) ..) ?_;refine rr (if_pos (show (!(mkS [13,10]).cps.contains 92) = true from by decide +kernel) ..) ?_
 refine wpAny_bind (wpAny_pure ?_)
 refine wpAny_bind (wpAny_holding (target_str hPs ?_))
 refine rr (if_neg (show ¬ (((0 : Int) == 1) = true) from by decide) ..) ?_
 refine wpAny_bind ?_
 refine wpAny_newObj_type ?_ (by size_fits)
 haveI hn : s.heap.get? s.heap.objs.size = none:=Heap.get?_none_of_le (Nat.le_refl _)
 have z:=R.new (tk:=s.toks) (c:=.lst []) (o:={ cls:=.type "list",data:=.seq #[] }) (h':=s.heap.push { cls:=.type "list",data:=.seq #[] }) hn (fun b o e=>Heap.get?_push_of_some _ e) (Heap.get?_push_size _ rfl) ⟨[],0,rfl,.nil⟩
 refine wpAny_pure ⟨Code.quiet_builtin _ (by decide +kernel),?_⟩
 refine sub_loop hl (subK_str hl hP hx) (by decide) hx a (x.length + 1) 0 0 [] I _ (by lia) (by lia) (by simp) (by simp) z.1 _ fun I' s' t' R' k'=>?_
 haveI sub : σ.Sublist ((s.heap.objs.size,.lst (([] ++ eSub x.toArray (x.length + 1) 0).map V.str)) :: σ):=List.sublist_cons_self _ _
 exact g (.str (eolsOf x)) σ I' s' _ q (by refine rr (List.nil_append ..) ?_;exact .str _ _) (R'.sub sub) ((z.2.trans k' z.1.apartI).sub sub)
end
end
section
open PySem.Builtin PySem.Builtin.Re
section
theorem EV.methP {o e : Expr} {name : Str} {apos pos : Pos} {args : List Expr} {pl : Sem Bool} {Q : QV} (id : String) (slot : Slot "re.Pattern" name id) (hty : typeOf (.builtin id) = pure (.type "method_descriptor"))
  (he : eval (.Call (.Attribute o name apos) (e :: args) [] pos) Φ.env = (do
   let ov ← eval o Φ.env
   standAt apos.atName
   let (f,first) ← holding [ov] (getMethod ov name pl)
   callWith pos f first (backTo pos (starEach (e :: args) Φ.env)) [])) (hs : starEach (e :: args) Φ.env = (false,eval e Φ.env) :: starEach args Φ.env) (hpl : (backTo pos (starEach args Φ.env)).any (·.1) = false)
  (h : EV prog w C Φ o ρ σ fun ov σ₁=>∃ p code kind,ov = .ref p∧PatAt Φ.h₀ p code kind∧EA prog w C Φ pos (e :: args) ρ σ₁ fun xs σ₂=>BJ prog w C Φ ρ σ₂ id (ov :: xs) Q) : EV prog w C Φ (.Call (.Attribute o name apos) (e :: args) [] pos) ρ σ Q:=by
 intro A I s a R QQ E g
 refine MethodCall_ (h A I s a R _ E fun ov σ₁ I₁ s₁ val z0 hv R₁ k₁=>?_) he
 obtain ⟨p,code,kind,e',hP,q⟩:=z0
 subst e'
 obtain ⟨_,rfl⟩:=hv.inv
 haveI hPs:=hP.keeps R₁.h₀
 obtain ⟨o',fs,qa,oq,items,n,h1,h2,h3,r⟩:=hPs.ex
 refine getMethod_builtin hPs.typeIs pa_pat slot hty (fun a' e'=>by cases e';exact ⟨o',h1,h3⟩) ?_
 refine rr hs ?_
 refine Calls.callWith_builtin (by show (false || (backTo pos (starEach args Φ.env)).any (·.1)) = false;refine rr hpl ?_;rfl) (Calls.evalArgs_plain ?_)
 haveI h':=q A I₁ s₁ a R₁ (fun vs s₂=>wpAny (model prog w) A (call (.builtin id) ([.ref p] ++ vs)) QQ E s₂) E fun xs σ₂ I₂ s₂ vals q₂ hxs R₂ k₂=>q₂ A I₂ s₂ (.ref p :: vals) a R₂ (.cons (.ref p) hxs) QQ E (g.after R₂ (k₁.trans k₂ R₁.apartI))
 replace h':=hs ▸ h'
 exact h'
end
end
section
open PySem.Builtin PySem.Builtin.Re
noncomputable def ipc : Array Nat:=#[14,8,1,2,4294967295,1,1,46,0,16,46,24,9,1,4294967295,13,4,8,0,0,1,6,5,1]
noncomputable def ipM (x : List Nat) : Sre.M:=(Sre.forSearch ipc x.toArray 0 0 x.toArray.size false).runFor 2000
noncomputable def ipRes (x : List Nat) : Option (Option (Nat × Nat)):=match (ipM x).outcome with
 | some .matched=>some (some ((ipM x).start,(ipM x).handed))
 | some .failed=>some none
 | _=>none
noncomputable def VMat (x : List Nat) : Option (Nat × Nat)→V
 | none=>.none
 | some (b,e)=>.mat x b e
section
theorem BJ.search {p : Addr} {x : List Nat} {r : Option (Nat × Nat)} (hP : PatAt Φ.h₀ p ipc 0) (hx : x.length ≤ 10000) (hr : ipRes x = some r) {Q : QV} (q : Q (VMat x r) σ) : BJ prog w C Φ ρ σ "re.Pattern.search" [.ref p,.str x] Q:=by
 intro A I s vals a R hv QQ E g
 obtain ⟨v,v2,rfl,h1,h2⟩:=hv.inv2
 obtain ⟨_,rfl⟩:=h1.inv
 obtain ⟨t,rfl⟩:=h2.inv
 haveI hPs:=hP.keeps R.h₀
 refine wpAny_call (codeAny_call_builtin slot_search.plain entry_search (slot_search.check _ _ _ _ _ _ _ _ hPs.typeIs (args_search _ _) ?_))
 unfold Builtin.«re.Pattern.search» reTarget
 dsimp only
 haveI named : reNamed "re.Pattern.search" "search" ["string","pos","endpos"] 1 [.str (mkS x) t] [] = pure [some (.str (mkS x) t),none,none]:=by kernel_rfl
 refine rr named ?_
 obtain ⟨o,fs,qa,oq,items,n,e1,e2,e3,e4,e5,e6,e7,e8,e9,e10⟩:=hPs.ex
 refine wpAny_bind (wpAny_bind (wpAny_pure ?_))
 refine wpAny_bind (wpAny_pure ?_)
 refine wpAny_bind (wpAny_pure ?_)
 refine wpAny_bind (wpAny_fieldsOf e1 e4 ?_)
 refine wpAny_bind (textOf_str ?_)
 dsimp only
 refine rr e7 ?_;refine rr e6 ?_;refine rr e5 ?_
 refine rr (if_neg (show ¬ (((0 : Nat) == 0 && (0 : Nat) == 1) = true) from by decide) ..) ?_;refine rr (if_neg (show ¬ (((0 : Nat) == 1 && (0 : Nat) == 0) = true) from by decide) ..) ?_
 refine wpAny_bind (wpAny_pure ?_)
 refine wpAny_bind (raw_items e8 e9 (wpAny_pure ?_))
 refine rr e10 ?_
 haveI hlim : min ((2 : Int) ^ 63 - 1).toNat x.toArray.size = x.toArray.size:=by
  haveI : x.toArray.size ≤ 10000:=by simpa using hx
  haveI e : ((2 : Int) ^ 63 - 1).toNat = 9223372036854775807:=by decide
  refine rr e ?_
  omega
 haveI hpos : min (Int.toNat 0) x.toArray.size = 0:=by simp
 refine rr hlim ?_;refine rr hpos ?_
 unfold reAnswer
 dsimp only
 unfold ipRes at hr
 haveI h0 : reRawNat (.int 0 0) = 0:=rfl
 refine rr h0 ?_
 refine wpAny_bind (run_end (m':=ipM x) (n:=2000) rfl (by omega) ?_)
 cases ho : (ipM x).outcome with
 | none=>replace hr:=ho ▸ hr;exact nsm hr
 | some oc =>
  replace hr:=ho ▸ hr
  cases oc with
  | stuck why=>exact nsm hr
  | failed =>
   obtain rfl:=si hr
   exact wpAny_pure (g.here R .none q)
  | matched =>
   obtain rfl:=si hr
   refine wpAny_bind ?_
   unfold reNewMatch
   simp only [List.range_zero,List.any_nil,List.flatMap_nil,Bool.false_eq_true,if_false]
   refine wpAny_bind ?_
   refine wpAny_newObj_type ?_ (by size_fits)
   refine wpAny_newObj_type ?_ (by size_fits)
   haveI hn : s.heap.get? s.heap.objs.size = none:=Heap.get?_none_of_le (Nat.le_refl _)
   haveI G1:=Gr.put (I:=I) (tk:=s.toks) (h':=s.heap.push (tupOf #[rawInt (ipM x).start,rawInt (ipM x).handed] 0)) (o:=tupOf #[rawInt (ipM x).start,rawInt (ipM x).handed] 0) R.im (fun b o e=>Heap.get?_push_of_some _ e) hn (Heap.get?_push_size _ rfl)
   haveI R1:=R.grow G1
   refine wpAny_pure ?_
   haveI g1:=g.after R1 (G1.kp)
   refine g1.push (v:=.mat x (ipM x).start (ipM x).handed) (tk:=s.toks) R1 (fun I' im hI=>?_) rfl q
   exact .mat hI (im _ _ Im.put_self)
end
end
section
open PySem.Builtin PySem.Builtin.Re
section
inductive MatI (I : Im) (x : List Nat) (b e : Nat) (v : Value) : Prop
 | mk (a : _) (sp : _) (t : _) (pat : _) (pos : _) (lim : _) (li : _) (n : _) (h0 : v = .ref a) (h1 : I a = some { cls:=.type "re.Match",data:=.fields #[.str ⟨x.toArray⟩ t,pat,rawInt pos,rawInt lim,rawInt li,.ref sp] }) (h2 : I sp = some (tupOf #[rawInt b,rawInt e] n))
theorem VR.mat_inv {I : Im} {x : List Nat} {b e : Nat} {v : Value} (h : VR C I (.mat x b e) v) : MatI I x b e v:=by
 cases h with
 | mat h1 h2=>exact ⟨_,_,_,_,_,_,_,_,rfl,h1,h2⟩
theorem EV.methMat {o e : Expr} {name : Str} {apos pos : Pos} {args : List Expr} {pl : Sem Bool} {Q : QV} (id : String) (slot : Slot "re.Match" name id) (hty : typeOf (.builtin id) = pure (.type "method_descriptor"))
  (he : eval (.Call (.Attribute o name apos) (e :: args) [] pos) Φ.env = (do
   let ov ← eval o Φ.env
   standAt apos.atName
   let (f,first) ← holding [ov] (getMethod ov name pl)
   callWith pos f first (backTo pos (starEach (e :: args) Φ.env)) [])) (hs : starEach (e :: args) Φ.env = (false,eval e Φ.env) :: starEach args Φ.env) (hpl : (backTo pos (starEach args Φ.env)).any (·.1) = false)
  (h : EV prog w C Φ o ρ σ fun ov σ₁=>∃ x b e',ov = .mat x b e'∧EA prog w C Φ pos (e :: args) ρ σ₁ fun xs σ₂=>BJ prog w C Φ ρ σ₂ id (ov :: xs) Q) : EV prog w C Φ (.Call (.Attribute o name apos) (e :: args) [] pos) ρ σ Q:=by
 intro A I s a R QQ E g
 refine MethodCall_ (h A I s a R _ E fun ov σ₁ I₁ s₁ val z0 hv R₁ k₁=>?_) he
 obtain ⟨x,b,e',ee,q⟩:=z0
 subst ee
 obtain ⟨ma,sp,t,pat,mpos,lim,li,n,rfl,h1,h2⟩:=hv.mat_inv
 refine getMethod_builtin (T:="re.Match") ⟨_,R₁.im _ _ h1,rfl⟩ pa_mat slot hty (fun a' e'=>by cases e';exact ⟨_,R₁.im _ _ h1,rfl⟩) ?_
 refine rr hs ?_
 refine Calls.callWith_builtin (by show (false || (backTo pos (starEach args Φ.env)).any (·.1)) = false;refine rr hpl ?_;rfl) (Calls.evalArgs_plain ?_)
 haveI h':=q A I₁ s₁ a R₁ (fun vs s₂=>wpAny (model prog w) A (call (.builtin id) ([.ref ma] ++ vs)) QQ E s₂) E fun xs σ₂ I₂ s₂ vals q₂ hxs R₂ k₂=>q₂ A I₂ s₂ (.ref ma :: vals) a R₂ (.cons (hv.mono k₂.im) hxs) QQ E (g.after R₂ (k₁.trans k₂ R₁.apartI))
 replace h':=hs ▸ h'
 exact h'
theorem BJ.span {x : List Nat} {b e : Nat} {Q : QV} (q : Q (.tup [.int b,.int e]) σ) : BJ prog w C Φ ρ σ "re.Match.span" [.mat x b e,.int 0] Q:=by
 intro A I s vals a R hv QQ E g
 obtain ⟨v,v2,rfl,h1,h2⟩:=hv.inv2
 obtain ⟨t2,rfl⟩:=h2.inv
 obtain ⟨ma,sp,t,pat,mpos,lim,li,n,rfl,m1,m2⟩:=h1.mat_inv
 haveI hT : s.TypeIs (.ref ma) "re.Match":=⟨_,R.im _ _ m1,rfl⟩
 refine wpAny_call (codeAny_call_builtin slot_span.plain entry_span (slot_span.check _ _ _ _ _ _ _ _ hT (args_span _ _) ?_))
 unfold Builtin.«re.Match.span» reOneGroup
 haveI sel : selfAndSome "Match.span" "span" 0 1 ⟨[.ref ma,.int 0 t2],[]⟩ = pure (.ref ma,[.int 0 t2]):=by kernel_rfl
 refine rr sel ?_
 refine wpAny_bind (wpAny_bind (wpAny_pure ?_))
 refine wpAny_bind (wpAny_bind (wpAny_fieldsOf (R.im _ _ m1) rfl ?_))
 refine wpAny_bind (raw_items (R.im _ _ m2) rfl (wpAny_pure ?_))
 dsimp only
 refine wpAny_bind ?_
 refine wpAny_bind (wpAny_pure ?_)
 refine wpAny_bind ?_
 refine wpAny_bind (wpAny_pure (wpAny_pure ?_))
 dsimp only
 refine rr (if_neg (show ¬ ((decide ((0 : Int) < 0) || decide (2 * (0 : Int) ≥ ((Array.map reRawOf #[rawInt (b : Int),rawInt (e : Int)]).size : Int))) = true) from by simp) ..) ?_
 refine wpAny_pure (wpAny_pure ?_)
 dsimp only
 haveI eb : (Array.map reRawOf #[rawInt (b : Int),rawInt (e : Int)]).getD (2 * Int.toNat 0) (-1) = b:=by simp [reRawOf,rawInt]
 haveI ee : (Array.map reRawOf #[rawInt (b : Int),rawInt (e : Int)]).getD (2 * Int.toNat 0 + 1) (-1) = e:=by simp [reRawOf,rawInt]
 refine rr eb ?_;refine rr ee ?_
 refine wpAny_bind (wpAny_mkInt (wpAny_bind (wpAny_mkInt (wpAny_bind ?_))))
 refine wpAny_newObj_type ?_ (by size_fits)
 refine wpAny_pure ?_
 exact g.push (v:=.tup [.int b,.int e]) (tk:=s.toks + 1 + 1) R (fun I' im hI=>.mk_tup (vs:=[.int b s.toks,.int e (s.toks + 1)]) hI (.two (.int _ _) (.int _ _))) rfl q
end
end
section
open PySem.Builtin PySem.Builtin.Str
noncomputable def strSlice (x : List Nat) (l u : Option Int) : List Nat:=if (strSliceIndices l u 1 x.length).length == x.length then x else (strSliceIndices l u 1 x.length).filterMap (x[·]?)
section
theorem EV.sliceS {value : Expr} {lo up : Option Expr} {p pos : Pos} {Q : QV} (h : EV prog w C Φ value ρ σ fun x σ₁=>EO prog w C Φ lo ρ σ₁ fun l σ₂=>EO prog w C Φ up ρ σ₂ fun u σ₃=>∃ xs,x = .str xs∧(strSlice xs l u).length ≤ 100000∧Q (.str (strSlice xs l u)) σ₃) :
  EV prog w C Φ (.Subscript value (.Slice lo up none p) pos) ρ σ Q:=by
 intro A I s a R QQ E g
 refine slice_wp (st:=none) (Q':=fun x l u t σ₄=>∃ xs,x = .str xs∧t = none∧(strSlice xs l u).length ≤ 100000∧Q (.str (strSlice xs l u)) σ₄) ?_ a R fun x l u t σ' I' s' vl vu vt vx ⟨xs,hx,ht0,hz,q⟩ hvx hl hu ht R' k=>?_
 ·refine h.mono fun x σ₁ q=>?_
  have m : ∀ {o : Option Expr} {σ : St} {P P' : Option Int→St→Prop},EO prog w C Φ o ρ σ P→(∀ v σ',P v σ'→P' v σ')→EO prog w C Φ o ρ σ P':=by
   intro o σ P P' h k
   cases o with
   | none=>exact k _ _ h
   | some e=>exact EV.mono h fun v σ' ⟨i,e,q⟩=>⟨i,e,k _ _ q⟩
  exact m q fun l σ₂ q=>m q fun u σ₃ ⟨xs,hx,r⟩=>⟨⟨"str",by refine rr hx ?_;rfl⟩,xs,hx,rfl,r⟩
 ·subst hx ht0
  obtain ⟨_,rfl⟩:=hvx.inv
  rename_i tx
  haveI hs : ∀ (v : Value) (o : Option Int),IsPart v o→∃ z : Option (Int × Tok),v = partValue z∧z.map (·.1) = o:=fun v o h=>by
   cases h with
   | none=>exact ⟨none,rfl,rfl⟩
   | int i t=>exact ⟨some (i,t),rfl,rfl⟩
  obtain ⟨zl,rfl,rfl⟩:=hs _ _ hl
  obtain ⟨zu,rfl,rfl⟩:=hs _ _ hu
  obtain ⟨zt,rfl,ezt⟩:=hs _ _ ht
  obtain rfl : zt = none:=by cases zt with | none=>rfl | some z=>simp at ezt
  haveI G : Gr I' I' s' { s' with heap:=s'.heap.push { cls:=.type "slice",data:=.fields #[partValue zl,partValue zu,partValue none] },toks:=s'.toks }:=Gr.same R'.im fun b o e=>Heap.get?_push_of_some _ e
  haveI g':=(g.after R' k).after (R'.grow G) G.kp
  refine wpAny_getItem_str_slice (l:=zl) (u:=zu) (st:=none) ⟨_,Heap.get?_push_size _ rfl,rfl,rfl⟩ rfl ?_
  haveI el : (mkS xs).length = xs.length:=str_len
  unfold sliceMade slicePicked
  simp only [Option.map_none,Option.getD_none,el]
  unfold strSlice at q
  by_cases z : ((strSliceIndices (zl.map (·.1)) (zu.map (·.1)) 1 xs.length).length == xs.length) = true
  ·replace q:=(if_pos z ..) ▸ q
   refine rr (if_pos (by simpa using z) ..) ?_
   exact g'.here (R'.grow G) (.str _ _) q
  ·haveI hz2 : ((strSliceIndices (zl.map (·.1)) (zu.map (·.1)) 1 xs.length).filterMap (xs[·]?)).length ≤ 100000:=by
    haveI h9:=hz
    unfold strSlice at h9
    replace h9:=(if_neg z ..) ▸ h9
    exact h9
   replace q:=(if_neg z ..) ▸ q
   refine rr (if_neg (by simpa using z) ..) ?_
   haveI e2 : (⟨((strSliceIndices (zl.map (·.1)) (zu.map (·.1)) 1 xs.length).filterMap ((mkS xs).cps[·]?)).toArray⟩ : Str) = mkS ((strSliceIndices (zl.map (·.1)) (zu.map (·.1)) 1 xs.length).filterMap (xs[·]?)):=by simp [mkS]
   refine rr e2 ?_
   exact ⟨by refine rr str_len ?_;exact sl _ (Nat.le_trans hz2 (by decide)),g'.toks (R'.grow G) (.str _ _) q⟩
end
end
section
open PySem.Builtin PySem.Builtin.Re
theorem slot_mga : Slot "re.Match" "__getattribute__" "object.__getattribute__" :=
 .of (owner:="object") (n:="__getattribute__") (by rw [typeLookup_type,builtinLookup_eq_fast];kernel_rfl) (by decide +kernel) (by decide +kernel) (by decide +kernel)
  (by first | exact .inl (by decide +kernel) | exact .inr (by decide +kernel)) (by rw [isSubtype_type];kernel_rfl)
theorem look_mstr : typeLookup (.type "re.Match") "string" = pure (some (.builtin "re.Match.string")):=by rw [typeLookup_type,builtinLookup_eq_fast];kernel_rfl
theorem type_mstr : typeOf (.builtin "re.Match.string") = pure (.type "member_descriptor"):=by show builtinType _ = _;refine rr builtinType_eq_fast ?_;kernel_rfl
theorem entry_mstr : entryFor table "re.Match.string" = some Builtin.«re.Match.string»:=entryFor_of_tree (by kernel_rfl)
theorem mem_get : typeLookup (.type "member_descriptor") "__get__" = pure (some (.builtin "member_descriptor.__get__")):=by rw [typeLookup_type,builtinLookup_eq_fast];kernel_rfl
theorem mem_set : typeLookup (.type "member_descriptor") "__set__" = pure (some (.builtin "member_descriptor.__set__")):=by rw [typeLookup_type,builtinLookup_eq_fast];kernel_rfl
theorem owner_mstr : (".".intercalate ("re.Match.string".cutAt '.').dropLast) = "re.Match":=by
 haveI e0 : "re.Match.string".cutAt '.' = ["re","Match","string"]:=by first | rfl | decide +kernel
 refine rr e0 ?_;decide +kernel
theorem sub_mat : isSubtype (.type "re.Match") (.type "re.Match") = pure true:=by rw [isSubtype_type];kernel_rfl
section
variable {A : Around} {E : Value→Shared→Prop} {h : Heap} {g : Array GenState} {d : Drawn} {t : Nat} {os : OsState} {a : Addr} {o : Obj} {vs : Array Value} {a0 : Value}
theorem mstr_get {R : Result→Shared→Prop} (hx : h.get? a = some o) (hc : o.cls = .type "re.Match") (hd : o.data = .fields vs) (h0 : vs[0]? = some a0) (hq : R (.ok (.ret a0)) ⟨h,g,d,t,os⟩) :
  codeAny (model prog w) A (.call (.builtin "member_descriptor.__get__") ⟨[.builtin "re.Match.string",.ref a,.type "re.Match"],[]⟩) R ⟨h,g,d,t,os⟩:=by
 haveI hT : (⟨h,g,d,t,os⟩ : Shared).TypeIs (.ref a) "re.Match":=⟨_,hx,hc⟩
 haveI hT5 : (⟨h,g,d,t,os⟩ : Shared).TypeIs (.builtin "re.Match.string") "member_descriptor":=type_mstr
 haveI f8 : isSubtype (.type "re.Match") (.type (".".intercalate ("re.Match.string".cutAt '.').dropLast)) = pure true:=by refine rr owner_mstr ?_;exact sub_mat
 refine codeAny_call_builtin KF.slot_mem.plain KF.entry_mem (KF.slot_mem.check _ _ _ _ _ _ _ _ hT5 (KF.args_mem _ _ _) ?_)
 repeat (any_goals (first | assumption | wp_step))
 refine ⟨Code.quiet_builtin _ (by decide +kernel),codeAny_builtin entry_mstr ?_⟩
 exact wpAny_bind (wpAny_field hx hd h0 (wpAny_pure hq))
end
end
section
open PySem.Builtin PySem.Builtin.Re PySem.Builtin.ObjectAttr
theorem entry_oga : entryFor table "object.__getattribute__" = some Builtin.«object.__getattribute__»:=entryFor_of_tree (by kernel_rfl)
theorem args_oga (a b : Value) : argsOk "object.__getattribute__" ⟨[a,b],[]⟩:=by unfold argsOk;kernel_rfl
section
variable {A : Around} {E : Value→Shared→Prop} {s : Shared} {a : Addr} {o : Obj} {vs : Array Value} {a0 : Value}
theorem mat_find {Q : Found→Shared→Prop} (q : Q (.bind (.builtin "member_descriptor.__get__") (.builtin "re.Match.string")) s) : wpAny (model prog w) A (find (.ref a) (.type "re.Match") "string") Q E s:=by
 refine wpAny_bind (wpAny_of_eq look_mstr ?_)
 refine wpAny_bind (wpAny_specialOf (T:="member_descriptor") type_mstr mem_get ?_)
 refine wpAny_bind ?_
 refine wpAny_bind (wpAny_bind (wpAny_specialOf (T:="member_descriptor") type_mstr mem_set ?_))
 refine wp_pos (by rfl) ?_
 exact wpAny_pure (wpAny_pure (wpAny_bind (wpAny_rule (wpAny_pure q))))
theorem mat_string {Q : Value→Shared→Prop} (hx : s.heap.get? a = some o) (hc : o.cls = .type "re.Match") (hd : o.data = .fields vs) (h0 : vs[0]? = some a0) (hh : handedIn a0 = true) (hq : ∀ tk,Q a0 { s with toks:=tk }) :
  wpAny (model prog w) A (getAttr (.ref a) "string" true) Q E s:=by
 obtain ⟨c,dct,dat,sl⟩:=o
 simp only at hc hd
 subst hc hd
 obtain ⟨hp,g,d,tk,os⟩:=s
 haveI hT : ∀ tk',(⟨hp,g,d,tk',os⟩ : Shared).TypeIs (.ref a) "re.Match":=fun _=>⟨_,hx,rfl⟩
 haveI f3:=slot_mga.lookup
 haveI f4:=slot_mga.bind (.ref a)
 repeat (any_goals (first | assumption | exact hT _ | wp_step))
 refine codeAny_call_builtin slot_mga.plain entry_oga (slot_mga.check _ _ _ _ _ _ _ _ (hT _) (args_oga _ _) ?_)
 refine wpAny_bind (wpAny_pure ?_)
 refine wpAny_bind (wpAny_pure ?_)
 refine wpAny_bind (wpAny_typeOf (hT _) ?_)
 refine wpAny_bind (mat_find ?_)
 refine wpAny_bind (wpAny_holding ?_)
 refine wpAny_call (mstr_get hx rfl rfl h0 ?_)
 refine wpAny_pure ?_
 show wpAny _ _ (handedOut a0) _ _ _
 refine rr (handedOut_of hh ..) ?_
 exact wpAny_pure (hq _)
end
section
theorem EV.m_string {o : Expr} {pos : Pos} {Q : QV}
  (he : eval (.Attribute o "string" pos) Φ.env = (do
   let ov ← eval o Φ.env
   standAt pos.atName
   let r ← holding [ov] (getAttr ov "string" true)
   letTemporaryGo o ov r
   Pure.pure r))
  (h : EV prog w C Φ o ρ σ fun ov σ₂=>∃ x b e,ov = .mat x b e∧Q (.str x) σ₂) : EV prog w C Φ (.Attribute o "string" pos) ρ σ Q:=by
 intro A I s a R QQ E g
 refine Attribute_any_ (h A I s a R _ E fun ov σ₂ I₂ s₂ ovv z0 hov R₂ k₂=>?_) he
 obtain ⟨x,b,e',e,q⟩:=z0
 subst e
 obtain ⟨ma,sp,t,pat,mpos,lim,li,n,rfl,h1,h2⟩:=hov.mat_inv
 exact mat_string (R₂.im _ _ h1) rfl rfl rfl rfl fun tk=>(g.after R₂ k₂).toks R₂ (.str _ _) q
end
end
section
open PySem.Builtin PySem.Builtin.Bytes
theorem slot_bjoin : Slot "bytes" "join" "bytes.join" :=
 .of (owner:="bytes") (n:="join") (by rw [typeLookup_type,builtinLookup_eq_fast];kernel_rfl) (by decide +kernel) (by decide +kernel) (by decide +kernel)
  (by first | exact .inl (by decide +kernel) | exact .inr (by decide +kernel)) (by rw [isSubtype_type];kernel_rfl)
theorem entry_bjoin : entryFor table "bytes.join" = some Builtin.«bytes.join»:=entryFor_of_tree (by kernel_rfl)
theorem args_bjoin (a b : Value) : argsOk "bytes.join" ⟨[a,b],[]⟩:=by unfold argsOk;kernel_rfl
section
variable {A : Around} {E : Value→Shared→Prop} {s : Shared}
theorem take_bytes {id : String} {b : Array UInt8} {t : Tok} {flags : Int} {Q : Option (Array UInt8 × Option Value)→Shared→Prop} (q : Q (some (b,none)) s) : wpAny (model prog w) A (takeBufferQuiet? id (.bytes b t) flags) Q E s:=by
 refine wpAny_bind (wpAny_attempt ?_)
 refine wpAny_bind (wpAny_specialOf (typeIs_bytes s b t) look_buf ?_)
 refine wpAny_bind (own_bytes ?_)
 refine wpAny_bind (wpAny_specialOf (typeIs_bytes s b t) look_buf ?_)
 exact wpAny_bind (buf_bytes (wpAny_pure (wpAny_pure q)))
theorem letGo_bytes {Q : Unit→Shared→Prop} (q : Q () s) : ∀ (taken : List (Value × Option Value)) (keep : List Value),(∀ p∈taken,p.2 = none)→wpAny (model prog w) A (joinLetGo taken keep) Q E s
 | [],keep,h=>wpAny_pure q
 | (x,u) :: rest,keep,h=>by
  obtain rfl : u = none:=h (x,u) (.head _)
  exact wpAny_bind (wpAny_letGo (letGo_bytes q rest keep fun p hp=>h p (.tail _ hp)))
theorem joined_nil : ∀ (ps : List (Array UInt8)),joined #[] ps = (ps.map Array.toList).flatten.toArray:=by
 haveI key : ∀ (ps : List (Array UInt8)) (k : Nat) (acc : Array UInt8),(ps.zipIdx k).foldl (fun out (p : Array UInt8 × Nat)=>(if p.2 > 0 then out ++ #[] else out) ++ p.1) acc = acc ++ (ps.map Array.toList).flatten.toArray:=by
  intro ps
  induction ps with
  | nil=>intro k acc;simp
  | cons p ps ih =>
   intro k acc
   rw [List.zipIdx_cons,List.foldl_cons,ih]
   have : (if (p,k).2 > 0 then acc ++ #[] else acc) = acc:=by split <;> simp
   refine rr this ?_
   apply Array.toList_inj.mp
   simp
 intro ps
 unfold joined
 have:=key ps 0 #[]
 simpa using this
noncomputable abbrev BPT:=Array (Array UInt8) × List (Value × Option Value)
theorem bj_sum : ∀ (l : List (List UInt8)) (a : Nat),(l.map List.toArray).foldl (fun x (y : Array UInt8)=>x + y.size) a = a + (l.map List.length).sum:=by
 intro l
 induction l with
 | nil=>intro a;simp
 | cons x l ih=>intro a;simp only [List.map_cons,List.foldl_cons,List.sum_cons];rw [ih];simp;lia
theorem bj_long {bs : List (List UInt8)} (hs : (bs.map List.length).sum ≤ 1000000) {parts : Array (Array UInt8)} (hp : parts.toList = bs.map List.toArray) : tooLong (parts.foldl (fun x1 x2=>x1 + x2.size) ((#[] : Array UInt8).size * (parts.size - 1))) = false:=by
 haveI hps : parts = (bs.map List.toArray).toArray:=by refine rl hp ?_;rfl
 refine rr hps ?_
 haveI h1:=bj_sum bs 0
 unfold tooLong
 refine rr (List.foldl_toArray ..) ?_
 refine rr (show (#[] : Array UInt8).size * ((bs.map List.toArray).toArray.size - 1) = 0 from Nat.zero_mul _ ..) ?_;refine rr h1 ?_
 have:=sl 1000000 (by decide)
 rw [decide_eq_false_iff_not]
 lia
theorem bj_joined {bs : List (List UInt8)} {parts : Array (Array UInt8)} (hp : parts.toList = bs.map List.toArray) : joined (#[] : Array UInt8) parts.toList = bs.flatten.toArray:=by
 rw [joined_nil,hp,List.map_map]
 have : (Array.toList ∘ List.toArray : List UInt8→List UInt8) = fun x=>x:=by funext x;rfl
 refine rr this ?_;refine rr (List.map_id' ..) ?_;rfl
theorem bj_loop {vs : List Value} {bs : List (List UInt8)} (hsz : vs.toArray.size = bs.length) (hi : ∀ (i : Nat) b,bs[i]? = some b→∃ u,vs[i]? = some (.bytes b.toArray u)) (f : Nat→BPT→Sem (ForInStep BPT)) (E : Value→Shared→Prop) (QQ : BPT→Shared→Prop)
  (ht : ∀ i parts taken b u,vs[i]? = some (.bytes b.toArray u)→bs[i]? = some b→(∀ p∈taken,p.2 = none∧p.1.onHeap = false)→∀ Q' : ForInStep BPT→Shared→Prop,Q' (.yield (parts.push b.toArray,taken ++ [(.bytes b.toArray u,none)])) s→wpAny (model prog w) A.in1 (f i (parts,taken)) Q' E s)
  (hf : ∀ parts taken,(∀ p∈taken,p.2 = none)→parts.toList = bs.map List.toArray→QQ (parts,taken) s) : wpAny (model prog w) A.in1 (forIn [:vs.toArray.size] ((#[],[]) : BPT) f) QQ E s:=by
 refine rr (Std.Legacy.Range.forIn_eq_forIn_range' ..) ?_
 refine wpAny_forIn_list (s:=s) f (fun rest st s'=>s' = s∧∃ k,rest = List.range' k (vs.toArray.size - k)∧k ≤ vs.toArray.size∧(∀ p∈st.2,p.2 = none∧p.1.onHeap = false)∧st.1.toList = (bs.take k).map List.toArray) QQ ?_ ?_ _ _ ⟨rfl,0,by simp,Nat.zero_le _,by simp,by simp⟩
 ·rintro i rest ⟨parts,taken⟩ s' ⟨rfl,k,hr,hk,htk,hp⟩
  have hlt : k < vs.toArray.size:=by
   rcases Nat.lt_or_ge k vs.toArray.size with z | z
   ·exact z
   ·rw [show vs.toArray.size - k = 0 by lia] at hr;cases hr
  haveI e : vs.toArray.size - k = (vs.toArray.size - (k + 1)) + 1:=by lia
  replace hr:=e ▸ hr;replace hr:=(List.range'_succ ..) ▸ hr
  cases hr
  replace hlt:=hsz ▸ hlt
  have hb:=List.getElem?_eq_getElem hlt
  obtain ⟨u,hu⟩:=hi _ _ hb
  refine ht _ _ _ _ u hu hb htk _ ⟨rfl,i + 1,rfl,by lia,?_,?_⟩
  ·intro p hp'
   rcases List.mem_append.mp hp' with z | z
   ·exact htk p z
   ·refine rr (List.mem_singleton.mp z ..) ?_;exact ⟨rfl,rfl⟩
  ·haveI hp : parts.toList = (bs.take i).map List.toArray:=hp
   show (parts.push _).toList = _
   refine rr (Array.toList_push ..) ?_;refine rr hp ?_;refine rr (List.take_add_one ..) ?_;refine rr hb ?_;refine rr (List.map_append ..) ?_
   rfl
 ·rintro ⟨parts,taken⟩ s' ⟨rfl,k,hr,hk,htk,hp⟩
  haveI hk' : k = bs.length:=by
   rw [hsz] at hr hk
   have:=congrArg List.length hr
   simp at this
   lia
  refine hf _ _ (fun p h=>(htk p h).1) ?_
  refine rr hp ?_;refine rr hk' ?_;refine rr (List.take_length ..) ?_;rfl
theorem bj_body {vs : List Value} {i : Nat} {b : List UInt8} {u : Tok} (h : vs[i]? = some (.bytes b.toArray u)) : vs.toArray.getD i .none = .bytes b.toArray u:=by
 simp [Array.getD,List.getElem?_eq_some_iff] at h ⊢
 obtain ⟨h1,h2⟩:=h
 simp [h1,h2]
theorem bjoin_wp {l : Addr} {vs : List Value} {n : Nat} {bs : List (List UInt8)} {t : Tok} (hl : s.heap.get? l = some (listOf vs.toArray n)) (hv : vs.length = bs.length) (hi : ∀ (i : Nat) b,bs[i]? = some b→∃ u,vs[i]? = some (.bytes b.toArray u))
  (hne : bs ≠ []) (hz : bs.length ≤ 1000000) (hs : (bs.map List.length).sum ≤ 1000000) {Q : Value→Shared→Prop} (q : ∀ t' tk,Q (.bytes bs.flatten.toArray t') { s with toks:=tk }) : wpAny (model prog w) A (call (.builtin "bytes.join") [.bytes #[] t,.ref l]) Q E s:=by
 refine wpAny_call (codeAny_call_builtin slot_bjoin.plain entry_bjoin (slot_bjoin.check _ _ _ _ _ _ _ _ (typeIs_bytes s #[] t) (args_bjoin _ _) ?_))
 refine wpAny_bind (wpAny_pure ?_)
 refine wp_pos (show (Kind.bytes == Kind.bytes) = true from rfl) ?_
 refine wpAny_bind ?_
 refine wpAny_bind (wpAny_typeOf (T:="list") ⟨_,hl,rfl⟩ ?_)
 refine rr (if_pos (show (((Value.type "list") == Value.type "list") || ((Value.type "list") == Value.type "tuple")) = true by decide +kernel) ..) ?_
 refine wpAny_pure ?_
 refine wpAny_bind (wpAny_seqItems hl rfl ?_)
 haveI hsz : vs.toArray.size = bs.length:=by simp [hv]
 refine wp_pos (show (Kind.bytes == Kind.bytes) = true from rfl) ?_
 rcases vs with _ | ⟨v1,_ | ⟨v2,r⟩⟩
 ·exact absurd (List.length_eq_zero_iff.mp hv.symm) hne
 ·obtain ⟨b,l1,rfl,h1⟩:=len_succ (n:=0) hv.symm
  obtain rfl:=List.length_eq_zero_iff.mp h1
  obtain ⟨u,hu⟩:=hi 0 b rfl
  obtain rfl:=Option.some.inj hu
  refine wpAny_bind (wpAny_typeOf (typeIs_bytes _ _ _) ?_)
  refine wp_pos (by decide +kernel) ?_
  have:=q u s.toks
  refine wpAny_bind (wpAny_rule (wpAny_pure ?_))
  show Q (.bytes b.toArray u) s
  simpa using this
 ·refine wpAny_bind (bj_loop hsz hi _ _ _ ?_ fun parts taken ht hp=>?_)
  ·intro i parts taken b u h hb ht Q' q'
   refine wpAny_bind (wpAny_seqItems hl rfl ?_)
   dsimp only
   refine rr (bj_body h ..) ?_
   rw [if_neg (by
    have : (taken.any fun x=>x.1.onHeap) = false:=by rw [List.any_eq_false];intro p hp;refine rr ((ht p hp).2 ..) ?_;decide
    refine rr this ?_;decide)]
   refine wpAny_bind (wpAny_holding (take_bytes ?_))
   refine wpAny_bind (wpAny_seqItems hl rfl ?_)
   refine wp_neg (by simp) ?_
   exact wpAny_pure q'
  ·refine wpAny_bind (wpAny_bind (wpAny_pure (wpAny_pure ?_)))
   refine wp_neg (by refine rr (bj_long hs hp ..) ?_;decide) ?_
   refine wpAny_bind ?_
   show wpAny _ _ (mkBytes (joined #[] parts.toList)) _ _ _
   refine rr (bj_joined hp ..) ?_
   haveI hfl : bs.flatten.toArray.size ≤ 1000000:=by simp [List.length_flatten];exact hs
   refine wp_neg (by have:=sl 1000000 (by decide);lia) ?_
   refine wpAny_bind (wpAny_fresh (wpAny_pure ?_))
   refine wpAny_bind (wpAny_holding (wpAny_point (wpAny_bind (letGo_bytes ?_ _ _ ht))))
   exact wpAny_pure (q _ _)
end
end
section
open PySem.Builtin PySem.Builtin.Re
noncomputable def byts (l : List Nat) : List UInt8:=l.map Nat.toUInt8
noncomputable def VB (l : List Nat) : V:=.byt (byts l)
noncomputable def Small (l : List Nat) : Prop:=∀ c∈l,c < 256
theorem byts_back {l : List Nat} (h : Small l) : (byts l).toArray.map (·.toNat) = l.toArray:=by
 unfold byts
 refine rr (List.map_toArray ..) ?_;refine rr (List.map_map ..) ?_
 congr 1
 conv=>rhs;rw [← List.map_id l]
 apply List.map_congr_left
 intro c hc
 have:=h c hc
 simp [Function.comp,Nat.toUInt8,UInt8.toNat_ofNat',Nat.mod_eq_of_lt this]
theorem byts_app (a b : List Nat) : byts (a ++ b) = byts a ++ byts b:=List.map_append
theorem qFind_some {text : Array Nat} : ∀ {k s p : Nat},qFind text k s = some p→s ≤ p∧p < s + k
 | 0,s,p,h=>by exact nsm h
 | k + 1,s,p,h=>by
  unfold qFind at h
  split at h
  ·obtain rfl:=si h;lia
  ·have:=qFind_some h;lia
theorem q_search (text : Array Nat) (s : Nat) (hs : s ≤ text.size) : ∃ n m,n ≤ 5 * text.size + 5∧(Sre.forSearch qc text 0 s text.size false).runFor n = m∧match qFind text (text.size - s) s with
  | some p=>m.outcome = some .matched∧m.start = p∧m.handed = p + 1
  | none=>m.outcome = some .failed:=by
 rcases Nat.lt_or_ge s text.size with h | h
 ·obtain ⟨n,m,hn,e,o⟩:=q_run text (text.size - s) s true (({} : Sre.Seen).add 14) (by lia)
  exact ⟨n,m,by lia,by refine rr (qAt_start text s h ..) ?_;exact e,o⟩
 ·have hz : text.size - s = 0:=by lia
  refine ⟨1,_,by lia,rfl,?_⟩
  refine rr hz ?_
  exact qAt_over text s h
noncomputable def qSub (text : Array Nat) : Nat→Nat→List (List Nat)
 | 0,_=>[]
 | f + 1,d=>match qFind text (text.size - d) d with
  | some p=>(if decide (d < p) then [(text.extract d p).toList] else []) ++ [46,46] :: qSub text f (p + 1)
  | none=>if decide (d < text.size) then [(text.extract d text.size).toList] else []
theorem qSub_c {text : Array Nat} {f d} : qSub text (f + 1) d = (match qFind text (text.size - d) d with
  | some p=>(if decide (d < p) then [(text.extract d p).toList] else []) ++ [46,46] :: qSub text f (p + 1)
  | none=>if decide (d < text.size) then [(text.extract d text.size).toList] else []):=rfl
section
theorem slice_byt {A : Around} {E : Value→Shared→Prop} {s : Shared} {text : Array Nat} {b e : Nat} (hz : text.size ≤ 100000) {Q : Value→Shared→Prop} (q : ∀ t tk,Q (.bytes (byts (text.extract b e).toList).toArray t) { s with toks:=tk }) : wpAny (model prog w) A (reSlice text 1 b e) Q E s:=by
 unfold reSlice
 refine rr (if_neg (show ¬ (((1 : Nat) == 0) = true) from by decide) ..) ?_
 unfold mkBytes
 haveI e : (text.extract b e).map (·.toUInt8) = (byts (text.extract b e).toList).toArray:=by
  apply Array.toList_inj.mp
  simp [byts]
 refine rr e ?_
 rw [if_neg (by
  have:=sl 100000 (by decide)
  simp [byts];lia)]
 exact wpAny_bind (wpAny_fresh (wpAny_pure (q _ _)))
theorem cannot_turn {A : Around} {E : Value→Shared→Prop} {s : Shared} {b : Array UInt8} {t : Tok} {Q : Unit→Shared→Prop} (q : Q () s) : wpAny (model prog w) A (reLiteralCannotBeTurned (.bytes b t)) Q E s:=by
 refine wpAny_bind (wpAny_pure ?_)
 refine wp_pos (by rfl) ?_
 refine wpAny_bind (wpAny_isInstance (typeIs_bytes s b t) sub_bytes ?_)
 exact wpAny_pure q
theorem subK_byt {p : Addr} {x : List Nat} (hP : PatAt Φ.h₀ p qc 1) (hx : x.length ≤ 10000) (hsm : Small x) : SubK prog w C Φ p x qc 1 VB (fun l t=>.bytes (byts l).toArray t) [46,46] (fun d=>qFind x.toArray (x.toArray.size - d) d) (fun _=>1) (qSub x.toArray) where
 vr:=fun I l t=>.byt _ t
 nn:=fun t=>rfl
 tgt:=fun k q=>target_bytes (hP.keeps k) (by refine rr (byts_back hsm ..) ?_;exact q)
 turn:=fun q=>cannot_turn q
 slice:=fun q=>slice_byt (by simp;lia) q
 search:=fun d hd=>by
  obtain ⟨n,m,hn,hm,ho⟩:=q_search x.toArray d hd
  exact ⟨n,m,by lia,hm,ho⟩
 found:=fun d p h=>by
  obtain ⟨a,b⟩:=qFind_some h
  exact ⟨a,by lia⟩
 len1:=fun _=>Nat.le_refl 1
 lenle:=fun p h=>h
 step:=fun f d=>rfl
 join:=fun {A E ρ σ I s l ss jt Q} a R hne hz hs q=>by
  obtain ⟨o,ho,vs,nn,rfl,hvs⟩:=R.cell l _ (.head _)
  refine bjoin_wp (bs:=ss.map byts) ho (by refine rr (hvs.1 ..) ?_;simp) ?_ (by simpa using hne) (by simpa using hz) ?_ fun t' tk=>?_
  ·intro i b hb
   replace hb:=(List.getElem?_map ..) ▸ hb
   obtain ⟨y,hy,rfl⟩:=Option.map_eq_some_iff.mp hb
   obtain ⟨v,hv,r⟩:=hvs.get (i:=i) (x:=VB y) (by refine rr (List.getElem?_map ..) ?_;refine rr hy ?_;rfl)
   obtain ⟨_,rfl⟩:=r.inv
   exact ⟨_,hv⟩
  ·have : (ss.map byts).map List.length = ss.map List.length:=by simp [byts,Function.comp_def]
   refine rr this ?_;exact hs
  ·haveI e9 : (ss.map byts).flatten = byts ss.flatten:=by unfold byts;refine rr (List.map_flatten ..) ?_;rfl
   refine rr e9 ?_
   haveI G₁ : Gr I I s { s with heap:=s.heap,toks:=tk }:=Gr.same R.im fun _ _ e=>e
   exact q I _ t' (R.toks tk) (G₁.kp (W:=[]) (σ:=(l,.lst (ss.map VB)) :: σ))
noncomputable def dotsOf (x : List Nat) : List Nat:=(qSub x.toArray (x.length + 1) 0).flatten
theorem BJ.subByt (hl : 2 ≤ Φ.lvl) {p : Addr} {x : List Nat} (hP : PatAt Φ.h₀ p qc 1) (hx : x.length ≤ 10000) (hsm : Small x) {Q : QV} (q : Q (VB (dotsOf x)) σ) : BJ prog w C Φ ρ σ "re.Pattern.sub" [.ref p,VB [46,46],VB x] Q:=by
 intro A I s vals a R hv QQ E g
 obtain ⟨v,v2,v3,rfl,h1,h2,h3⟩:=hv.inv3
 obtain ⟨_,rfl⟩:=h1.inv
 obtain ⟨t2,rfl⟩:=h2.inv
 obtain ⟨t,rfl⟩:=h3.inv
 haveI hPs:=hP.keeps R.h₀
 refine wpAny_call (codeAny_call_builtin slot_sub.plain entry_sub (slot_sub.check _ _ _ _ _ _ _ _ hPs.typeIs (args_sub _ _ _) ?_))
 unfold Builtin.«re.Pattern.sub» reSubstitute
 dsimp only
 rw [named_sub]
 refine wpAny_bind (wpAny_pure ?_)
 refine wpAny_bind (wpAny_pure ?_)
 refine wpAny_bind (wpAny_specialOf (T:="bytes") (typeIs_bytes _ _ _) bytes_nocall ?_)
 refine wp_neg (show ¬ ((none : Option Value).isSome = true) from by decide) ?_
 refine wpAny_bind (wpAny_pure ?_)
 refine wpAny_bind (quiet_bytes ?_)
 refine wpAny_bind (wpAny_pure ?_)
 refine rr (if_neg (show ¬ ((none : Option Value).isSome = true) from by decide) ..) ?_;refine rr (if_pos (show (!(byts [46,46]).toArray.contains 92) = true from by decide +kernel) ..) ?_
 refine wpAny_bind (wpAny_pure ?_)
 refine wpAny_bind (wpAny_holding (target_bytes hPs ?_))
 refine rr (if_neg (show ¬ (((0 : Int) == 1) = true) from by decide) ..) ?_
 refine wpAny_bind ?_
 refine wpAny_newObj_type ?_ (by size_fits)
 haveI hn : s.heap.get? s.heap.objs.size = none:=Heap.get?_none_of_le (Nat.le_refl _)
 have z:=R.new (tk:=s.toks) (c:=.lst []) (o:={ cls:=.type "list",data:=.seq #[] }) (h':=s.heap.push { cls:=.type "list",data:=.seq #[] }) hn (fun b o e=>Heap.get?_push_of_some _ e) (Heap.get?_push_size _ rfl) ⟨[],0,rfl,.nil⟩
 refine wpAny_pure ⟨Code.quiet_builtin _ (by decide +kernel),?_⟩
 refine sub_loop hl (subK_byt hP hx hsm) (by decide) hx a (x.length + 1) 0 0 [] I _ (by lia) (by lia) (by simp) (by simp) z.1 _ fun I' s' t' R' k'=>?_
 haveI sub : σ.Sublist ((s.heap.objs.size,.lst (([] ++ qSub x.toArray (x.length + 1) 0).map VB)) :: σ):=List.sublist_cons_self _ _
 exact g (VB (dotsOf x)) σ I' s' _ q (by refine rr (List.nil_append ..) ?_;exact .byt _ _) (R'.sub sub) ((z.2.trans k' z.1.apartI).sub sub)
end
end
section
open PySem.Builtin PySem.Builtin.Re
theorem mat_nobool : typeLookup (.type "re.Match") "__bool__" = pure none:=by rw [typeLookup_type,builtinLookup_eq_fast];kernel_rfl
theorem mat_nolen : typeLookup (.type "re.Match") "__len__" = pure none:=by rw [typeLookup_type,builtinLookup_eq_fast];kernel_rfl
section
theorem ET.mat {e : Expr} {Q : Bool→St→Prop} (he : ∀ env whole,isTrue e env whole = (do let v ← whole;standAt e.pos;holding [v] (truthy v))) (h : EV prog w C Φ e ρ σ fun v σ'=>∃ x r,v = VMat x r∧Q r.isSome σ') : ET prog w C Φ e ρ σ Q:=by
 refine ET.val he (h.mono fun v σ' z0=>?_)
 obtain ⟨x,r,e,q⟩:=z0
 subst e
 intro A I s vx a R hv QQ E g
 cases r with
 | none =>
  obtain ⟨_,rfl⟩:=hv.inv
  exact truthy_none (g _ q s.toks)
 | some be =>
  obtain ⟨ma,sp,t,pat,mpos,lim,li,n,rfl,h1,h2⟩:=hv.mat_inv
  haveI hT : s.TypeIs (.ref ma) "re.Match":=⟨_,R.im _ _ h1,rfl⟩
  refine wpAny_bind (wpAny_callSpecial?_none hT mat_nobool ?_)
  refine wpAny_bind (wpAny_specialOf hT mat_nolen ?_)
  refine wp_pos (by rfl) ?_
  exact wpAny_pure (g _ q s.toks)
end
end
noncomputable def FF (h : Heap) (l : List Env) : Prop:=∀ env∈l,env.scope.kind ≠ .module∧∃ L o,env.frame = some L∧h.get? L = some o∧∀ vs,o.data ≠ .fields vs
theorem FF.fun {h : Heap} : ∀ {l : List Env},FF h l→h.FunFrames ({} : Heap) l
 | [],_=>trivial
 | env :: r,x=>by
  obtain ⟨k,L,o,hf,ho,hd⟩:=x env (.head _)
  refine ⟨k,⟨L,o,hf,?_,ho,hd⟩,FF.fun fun env' h'=>x env' (.tail _ h')⟩
  exact Heap.get?_none_of_le (Nat.zero_le _)
noncomputable abbrev frs (l : List Env) : List Addr:=l.filterMap (·.frame)
theorem FF.mem {h : Heap} {l : List Env} (x : FF h l) {b : Addr} (hb : b∈frs l) : ∃ o,h.get? b = some o∧∀ vs,o.data ≠ .fields vs:=by
 obtain ⟨env,he,hf⟩:=List.mem_filterMap.mp hb
 obtain ⟨_,L,o,hf',ho,hd⟩:=x env he
 replace hf':=hf ▸ hf'
 obtain rfl:=si hf'
 exact ⟨o,ho,hd⟩
structure Nt (fr : List Addr) (e T : Addr) (fl : Value) (h h' : Heap) : Prop where
 keep : ∀ b o,h.get? b = some o→b ∉ fr→b ≠ e→h'.get? b = some o
 slots : ∀ b o,h.get? b = some o→b∈fr→∃ sl,h'.get? b = some { o with slots:=sl }
 new : h.get? T = none
 ex : ∃ oe vs vs',h.get? e = some oe∧oe.data = .fields vs∧h'.get? e = some { oe with data:=.fields vs' }∧vs'[1]? = some (.ref T)
 tb : ∃ oT ts,h'.get? T = some oT∧oT.data = .fields ts∧ts[3]? = some fl
theorem Nt.ne {fr : List Addr} {e T : Addr} {fl : Value} {h h' : Heap} (x : Nt fr e T fl h h') : T ≠ e:=fun q=>by
 obtain ⟨oe,vs,vs',he,_⟩:=x.ex
 haveI:=x.new
 replace this:=q ▸ this;replace this:=he ▸ this
 exact snm this
theorem Nt.alive {fr : List Addr} {e T : Addr} {fl : Value} {h h' : Heap} (x : Nt fr e T fl h h') {b : Addr} {o : Obj} (ho : h.get? b = some o) : ∃ o',h'.get? b = some o':=by
 by_cases hb : b∈fr
 ·obtain ⟨sl,q⟩:=x.slots b o ho hb
  exact ⟨_,q⟩
 ·by_cases hbe : b = e
  ·subst hbe
   obtain ⟨oe,vs,vs',_,_,q,_⟩:=x.ex
   exact ⟨_,q⟩
  ·exact ⟨o,x.keep b o ho hb hbe⟩
theorem Nt.ff {fr : List Addr} {e T : Addr} {fl : Value} {h h' : Heap} (x : Nt fr e T fl h h') {l : List Env} (f : FF h l) (he : e ∉ frs l) : FF h' l:=fun env hm=>by
 obtain ⟨k,L,o,hf,ho,hd⟩:=f env hm
 refine ⟨k,L,?_⟩
 by_cases hb : L∈fr
 ·obtain ⟨sl,q⟩:=x.slots L o ho hb
  exact ⟨_,hf,q,hd⟩
 ·refine ⟨o,hf,x.keep L o ho hb fun q=>he ?_,hd⟩
  exact List.mem_filterMap.mpr ⟨env,hm,by refine rr hf ?_;refine rr q ?_;rfl⟩
theorem fields_ne {h : Heap} {l : List Env} (f : FF h l) {e : Addr} {oe : Obj} {vs : Array Value} (he : h.get? e = some oe) (hd : oe.data = .fields vs) : e ∉ frs l:=fun q=>by
 obtain ⟨o,ho,hn⟩:=f.mem q
 replace ho:=he ▸ ho
 obtain rfl:=si ho
 exact hn vs hd
section
variable {M : Model} {A : Around} {E : Value→Shared→Prop} {s : Shared} {env : Env} {outer : List Env} {L e : Addr}
theorem entry_wp {oe : Obj} {vs : Array Value} {head : Value} {hadNext : Bool} {Q : Unit→Shared→Prop} (hfr : A.frames = some (env :: outer)) (hl : FF s.heap (env :: outer)) (hf : env.frame = some L)
  (he : s.heap.get? e = some oe) (hd : oe.data = .fields vs) (hsz : 1 < vs.size) (h : ∀ h' T,Nt (frs (env :: outer)) e T (rawInt L) s.heap h'→Q () { s with heap:=h' }) :
  wpAny M A (do let a ← frameOf env;let pl ← entryPlaceOf L hadNext;let b ← EntryCells.newEntry head a .none (rawInt L) .none pl;setField (.ref e) 1 b) Q E s:=by
 haveI hef:=fields_ne hl he hd
 refine wpAny_bind (wpAny_frameOf_fun hfr hl.fun hf fun h₁ hs₁=>?_)
 refine wpAny_bind (wpAny_entryPlaceOf fun pl hpl=>?_)
 refine wpAny_bind (wpAny_newObj_type ?_ (hpl.sizeOk5 _ _ _ _ _))
 haveI he₁ : h₁.get? e = some oe:=(hs₁.2.1 e hef).trans he
 generalize hoT : ({ cls:=.type "traceback",data:=.fields ([head,.ref L,.none,rawInt L,.none] ++ (if pl.isEmpty then List.replicate 6 Value.none else pl)).toArray } : Obj) = oT
 haveI hTfree : oT.isFreed = false:=by refine rl hoT ?_;rfl
 haveI he₂ : (h₁.push oT).get? e = some oe:=Heap.get?_push_of_some oT he₁
 refine wpAny_setField he₂ hd hsz (h _ h₁.objs.size ?_)
 haveI hd₃:=Obj.data_mapFields hd (·.setIfInBounds 1 (Value.ref h₁.objs.size))
 haveI he₃:=Heap.get?_update_self (Obj.mapFields (·.setIfInBounds 1 (Value.ref h₁.objs.size))) he₂ (Obj.isFreed_of_fields hd₃)
 haveI hTe : e ≠ h₁.objs.size:=Nat.ne_of_lt (Heap.lt_size he₁)
 haveI other : ∀ b,b ≠ e→((h₁.push oT).update e (Obj.mapFields (·.setIfInBounds 1 (Value.ref h₁.objs.size)))).get? b = (h₁.push oT).get? b:=fun b hb=>Heap.get?_update_other _ _ (Ne.symm hb)
 haveI hm : Obj.mapFields (·.setIfInBounds 1 (Value.ref h₁.objs.size)) oe = { oe with data:=.fields (vs.setIfInBounds 1 (.ref h₁.objs.size)) }:=by
  obtain ⟨c,d,dt,sl⟩:=oe
  subst hd
  rfl
 refine ⟨fun b o ho hb hbe=>?_,fun b o ho hb=>?_,?_,⟨oe,vs,_,he,hd,he₃.trans (congrArg some hm),by simp [hsz]⟩,⟨oT,_,(other _ (Ne.symm hTe)).trans (Heap.get?_push_size h₁ hTfree),by refine rl hoT ?_;rfl,by simp⟩⟩
 ·refine rr (other b hbe ..) ?_
  exact Heap.get?_push_of_some oT ((hs₁.2.1 b hb).trans ho)
 ·obtain ⟨sl,q⟩:=hs₁.2.2 b o ho
  refine ⟨sl,?_⟩
  refine rr (other b fun z=>hef (z ▸ hb) ..) ?_
  exact Heap.get?_push_of_some oT q
 ·exact Heap.get?_none_of_le (Nat.le_of_eq hs₁.1.symm)
theorem note_first {oe : Obj} {vs : Array Value} {Q : Unit→Shared→Prop} (hfr : A.frames = some (env :: outer)) (hl : FF s.heap (env :: outer)) (hf : env.frame = some L)
  (he : s.heap.get? e = some oe) (hd : oe.data = .fields vs) (h1 : vs[1]? = some .none) (h : ∀ h' T,Nt (frs (env :: outer)) e T (rawInt L) s.heap h'→Q () { s with heap:=h' }) : wpAny M A (noteFrame (.ref e) env) Q E s:=by
 unfold noteFrame
 simp only [hf]
 refine wpAny_bind (wpAny_field he hd h1 ?_)
 refine rr (if_neg (by decide) ..) ?_
 exact entry_wp hfr hl hf he hd (Array.getElem?_eq_some_iff.mp h1).1 h
theorem note_again {fr : List Addr} {T : Addr} {h₀ : Heap} {Q : Unit→Shared→Prop} (hf : env.frame = some L) (x : Nt fr e T (rawInt L) h₀ s.heap) (h : Q () s) : wpAny M A (noteFrame (.ref e) env) Q E s:=by
 obtain ⟨oe,vs,vs',_,_,he,h1⟩:=x.ex
 obtain ⟨oT,ts,hT,hdT,h3⟩:=x.tb
 unfold noteFrame
 simp only [hf]
 refine wpAny_bind (wpAny_field he rfl h1 ?_)
 refine rr (if_pos (show (Value.ref T != Value.none) = true from by simp) ..) ?_
 refine wpAny_bind (wpAny_field hT hdT h3 ?_)
 refine rr (if_pos (show (rawInt L == rawInt L) = true from by simp) ..) ?_
 exact wpAny_pure h
theorem Nt.upT {fr : List Addr} {T : Addr} {fl v : Value} {h₀ h : Heap} (x : Nt fr e T fl h₀ h) : Nt fr e T v h₀ (h.update T (Obj.mapFields (·.setIfInBounds 3 v))):=by
 obtain ⟨oT,ts,hT,hdT,h3⟩:=x.tb
 haveI hs3 : 3 < ts.size:=(Array.getElem?_eq_some_iff.mp h3).1
 have other : ∀ b,b ≠ T→(h.update T (Obj.mapFields (·.setIfInBounds 3 v))).get? b = h.get? b:=fun b hb=>Heap.get?_update_other _ _ (Ne.symm hb)
 have nT : ∀ b o,h₀.get? b = some o→b ≠ T:=fun b o ho q=>by have:=x.new;replace this:=q.symm ▸ this;replace this:=ho ▸ this;exact snm this
 refine ⟨fun b o ho hb hbe=>(other b (nT b o ho)).trans (x.keep b o ho hb hbe),fun b o ho hb=>let ⟨sl,q⟩:=x.slots b o ho hb;⟨sl,(other b (nT b o ho)).trans q⟩,x.new,?_,?_⟩
 ·obtain ⟨oe,vs,vs',a1,a2,a3,a4⟩:=x.ex
  exact ⟨oe,vs,vs',a1,a2,(other e (Ne.symm x.ne)).trans a3,a4⟩
 ·haveI hd':=Obj.data_mapFields hdT (·.setIfInBounds 3 v)
  exact ⟨_,_,Heap.get?_update_self _ hT (Obj.isFreed_of_fields hd'),hd',by simp [hs3]⟩
theorem set_flight {fr : List Addr} {T : Addr} {fl : Value} {h₀ : Heap} {o : Option Addr} {Q : Unit→Shared→Prop} (x : Nt fr e T fl h₀ s.heap) (h : ∀ h',Nt fr e T (o.elim .none fun f=>rawInt f) h₀ h'→Q () { s with heap:=h' }) : wpAny M A (setFlight (.ref e) o) Q E s:=by
 obtain ⟨oe,vs,vs',_,_,he,h1⟩:=x.ex
 obtain ⟨oT,ts,hT,hdT,h3⟩:=x.tb
 refine wpAny_bind (wpAny_field he rfl h1 ?_)
 refine rr (if_pos (show (Value.ref T != Value.none) = true from by simp) ..) ?_
 exact wpAny_setField hT hdT (Array.getElem?_eq_some_iff.mp h3).1 (h _ x.upT)
theorem note_next {fr : List Addr} {T : Addr} {h₀ : Heap} {Q : Unit→Shared→Prop} (hfr : A.frames = some (env :: outer)) (hl : FF h₀ (env :: outer)) (hf : env.frame = some L) (x : Nt fr e T .none h₀ s.heap) (hfr' : ∀ b∈frs (env :: outer),b∈fr) (hefr : e ∉ fr)
  (h : ∀ h' T',Nt fr e T' (rawInt L) h₀ h'→Q () { s with heap:=h' }) : wpAny M A (noteFrame (.ref e) env) Q E s:=by
 obtain ⟨oe,vs,vs',a1,a2,he,h1⟩:=x.ex
 obtain ⟨oT,ts,hT,hdT,h3⟩:=x.tb
 haveI hef:=fields_ne hl a1 a2
 unfold noteFrame
 simp only [hf]
 refine wpAny_bind (wpAny_field he rfl h1 ?_)
 refine rr (if_pos (show (Value.ref T != Value.none) = true from by simp) ..) ?_
 refine wpAny_bind (wpAny_field hT hdT h3 ?_)
 refine rr (if_neg (show ¬ ((Value.none == rawInt L) = true) from by simp [rawInt]) ..) ?_
 refine wpAny_bind (wpAny_setField hT hdT (Array.getElem?_eq_some_iff.mp h3).1 ?_)
 haveI y:=x.upT (v:=Value.none)
 obtain ⟨oe',ws,ws',b1,b2,b3,b4⟩:=y.ex
 replace b1:=a1 ▸ b1
 obtain rfl:=si b1
 refine entry_wp hfr (y.ff hl hef) hf b3 rfl (Array.getElem?_eq_some_iff.mp b4).1 fun h' T' z=>h h' T' ?_
 haveI alive : ∀ b o,h₀.get? b = some o→∃ o',(s.heap.update T (Obj.mapFields (·.setIfInBounds 3 Value.none))).get? b = some o':=fun b o ho=>y.alive ho
 refine ⟨fun b o ho hb hbe=>z.keep b o (y.keep b o ho hb hbe) (fun q=>hb (hfr' b q)) hbe,fun b o ho hb=>?_,?_,?_,z.tb⟩
 ·obtain ⟨sl,q⟩:=y.slots b o ho hb
  by_cases hb' : b∈frs (env :: outer)
  ·obtain ⟨sl',q'⟩:=z.slots b _ q hb'
   exact ⟨sl',q'⟩
  ·by_cases hbe : b = e
   ·exact absurd (hbe ▸ hb) hefr
   ·exact ⟨sl,z.keep b _ q hb' hbe⟩
 ·cases q : h₀.get? T' with
  | none=>rfl
  | some o =>
   obtain ⟨o',ho'⟩:=alive T' o q
   replace ho':=(z.new ..) ▸ ho'
   exact nsm ho'
 ·obtain ⟨oe₃,us,us',c1,c2,c3,c4⟩:=z.ex
  replace c1:=b3 ▸ c1
  obtain rfl:=si c1
  exact ⟨oe,ws,us',a1,b2,c3,c4⟩
end
section
open PySem.Builtin PySem.Builtin.ObjectAttr
noncomputable abbrev ExcMro : List Value:=[.type "Exception",.type "BaseException",.type "object"]
inductive NagC (h : Heap) (N : Addr) (mN : Str→Option Value) : Prop
 | mk (nm : _) (q : _) (Nn : _) (bs : _) (sn : _) (sub : _) (ab : _) (col : _) (dd : _) (k0 : _) (k1 : _) (k2 : _) (k3 : _) (k5 : _) (h0 : h.get? N = some (excClassObj nm q N Nn bs ExcMro true sn sub ab col dd k0 k1 k2 k3 k5 "Exception.__new__")) (h1 : h.Ns Nn mN)
theorem NagC.keeps {h h' : Heap} {N : Addr} {mN : Str→Option Value} (x : NagC h N mN) (k : ∀ b o,h.get? b = some o→h'.get? b = some o) : NagC h' N mN:=by
 obtain ⟨nm,q,Nn,bs,sn,sub,ab,col,dd,k0,k1,k2,k3,k5,h1,h2⟩:=x
 exact ⟨nm,q,Nn,bs,sn,sub,ab,col,dd,k0,k1,k2,k3,k5,k _ _ h1,h2.keeps k⟩
inductive NsO (o : Obj) (m : Str→Option Value) : Prop
 | mk (es : _) (ep : _) (h0 : o.data = .dict es ep) (h1 : StrKeys es) (h2 : UniqKeys es) (h3 : ∀ name,nsFind es name = m name)
theorem ns1_of {h : Heap} {a : Addr} {o : Obj} {m : Str→Option Value} (e : h.get? a = some o) (x : NsO o m) : h.Ns1 a m:=by
 obtain ⟨es,ep,r1,r2,r3,r4⟩:=x
 exact ⟨o,es,ep,e,r1,r2,r3,r4⟩
theorem of_ns1 {h : Heap} {a : Addr} {m : Str→Option Value} (x : h.Ns1 a m) : ∃ o,h.get? a = some o∧NsO o m:=by
 obtain ⟨o,es,ep,e,r1,r2,r3,r4⟩:=x
 exact ⟨o,e,es,ep,r1,r2,r3,r4⟩
section
variable {A : Around} {E : Value→Shared→Prop} {s : Shared} {N x : Addr} {mN : Str→Option Value} {name : Str} {v : Value}
theorem store_first {o : Obj} {fs : Array Value} {Q : Unit→Shared→Prop} (hN : NagC s.heap N mN) (hns : mN "__setattr__" = none) (hna : mN name = none) (hB : typeLookup (.type "Exception") name = pure none)
  (hx : s.heap.get? x = some o) (hc : o.cls = .ref N) (hd : o.dict = none) (hf : o.data = .fields fs)
  (hq : ∀ h' tk od,NsO od (fun y=>if y = name then some v else none)→h'.get? s.heap.objs.size = some od→h'.get? x = some { o with dict:=some s.heap.objs.size }→(∀ b ob,b ≠ x→s.heap.get? b = some ob→h'.get? b = some ob)→Q () { s with heap:=h',toks:=tk }) :
  wpAny (model prog w) A (setAttr (.ref x) name v) Q E s:=by
 obtain ⟨nm,q,Nn,bs,sn,sub,ab,col,dd,k0,k1,k2,k3,k5,hC,hn⟩:=hN
 haveI SF:=PySem.F.store_Exception
 have f3:=SF.slot.bind (.ref x)
 have hpass:=SF.passes (.ref x)
 obtain ⟨h,g,dr,t,os⟩:=s
 have I : InstAt h x o N none:=⟨hx,hc,by unfold notCls;refine rr hf ?_;rfl,by refine rr hd ?_;trivial⟩
 refine wpAny_bind (wpAny_mkText ?_)
 refine wpAny_bind ?_
 refine wpAny_bind ?_
 refine wpAny_bind (I.type _ _ _ _ (fun _ _ e=>e) ?_)
 refine wpAny_typeLookup_exc hC hn SF.mro SF.slot.lookup ?_
 refine rr hns ?_
 refine wpAny_holding ?_
 refine wpAny_bind ?_
 refine rr f3 ?_
 refine wpAny_pure ?_
 refine wpAny_bind ?_
 show wpAny _ _ (call (.builtin "object.__setattr__") [.ref x,.str name t,v]) _ _ _
 refine wpAny_call ?_
 refine codeAny_call_builtin SF.slot.plain SF.entry ?_
 refine wpAny_check_sa (x:=x) (C:=N) (o:=o) (nameV:=.str name t) (v:=v) (sa:="object.__setattr__") (owner:="object") (B:="Exception") (bm:=ExcMro) (h:=h) (g:=g) (d:=dr) (t:=t + 1) (os:=os) SF hC hx hc ?_
 rw [osa_eq,refuse_eq]
 refine wpAny_bind (wpAny_bind ?_)
 refine I.type _ _ _ _ (fun _ _ e=>e) ?_
 refine wpAny_bind (wpAny_mroOf_exc hC ?_)
 rw [refuseLoop_ref,hpass]
 refine wpAny_pure ?_
 refine wpAny_bind (I.type _ _ _ _ (fun _ _ e=>e) ?_)
 refine wpAny_bind (wpAny_typeLookup_exc hC hn SF.mro hB ?_)
 refine rr hna ?_
 refine wpAny_bind (wpAny_pure ?_)
 obtain ⟨oc,odi,oda,osl⟩:=o
 subst hc hd hf
 refine wpAny_bind (wpAny_pure ?_)
 refine wp_neg (by intro q;exact ftm q) ?_
 refine wpAny_bind ?_
 refine wpAny_bind (wpAny_loadPart hx ?_)
 refine wpAny_bind ?_
 refine wpAny_bind (wpAny_load hC ?_)
 refine wpAny_pure ?_
 refine wp_neg (by intro q;exact ftm q) ?_
 have hx₁ : (h.push { cls:=.type "dict",data:=.dict #[] }).get? x = some { cls:=.ref N,dict:=none,data:=.fields fs,slots:=osl }:=Heap.get?_push_of_some _ hx
 have hxs : x ≠ h.objs.size:=Nat.ne_of_lt (Heap.lt_size hx)
 refine wpAny_bind (wpAny_alloc' ?_)
 refine wpAny_bind (wpAny_update' hx₁ ?_)
 refine wpAny_pure ?_
 have hgd : ((h.push { cls:=.type "dict",data:=.dict #[] }).update x fun o=>{ cls:=o.cls,dict:=some h.objs.size,data:=o.data,slots:=o.slots }).get? h.objs.size
   = some { cls:=.type "dict",data:=.dict #[] } :=
  (Heap.get?_update_ne _ _ _ _ hxs.symm).trans (Heap.get?_push_at rfl rfl)
 have hnd : ((h.push { cls:=.type "dict",data:=.dict #[] }).update x fun o=>{ cls:=o.cls,dict:=some h.objs.size,data:=o.data,slots:=o.slots }).Ns h.objs.size (fun _=>none) :=
  ⟨_,#[],_,hgd,rfl,fun e he=>absurd he (by simp),fun _=>rfl⟩
 refine wpAny_bind (wpAny_pure ?_)
 refine wpAny_bind (wpAny_nsSet1 (Heap.Ns1.of_empty hnd) fun h' hn' hs=>?_)
 obtain ⟨oD,esD,epD,hoD,hdD,hcD⟩:=hn'.count (Within.cons name v Within.nil)
 refine wpAny_bind (wpAny_lookBehind hoD (by refine rr hdD ?_;exact pastItsLine_dict (Nat.le_trans hcD (by refine rr (List.length_cons ..) ?_;refine rr (List.length_nil ..) ?_;refine rr sizeLine_eq ?_;lia))) ?_)
 refine wpAny_pure ?_
 refine wpAny_pure ?_
 obtain ⟨od,hod,hno⟩:=of_ns1 hn'
 refine wpAny_pure (hq h' _ od hno hod ((hs.2 x hxs).trans (Heap.get?_update_self _ hx₁ rfl)) fun b ob hbx hb=>?_)
 exact (hs.2 b (Nat.ne_of_lt (Heap.lt_size hb))).trans ((Heap.get?_update_ne _ _ _ _ hbx).trans (Heap.get?_push_of_some _ hb))
theorem store_next {o od : Obj} {fs : Array Value} {dd : Addr} {mA : Str→Option Value} {ns : List Str} {Q : Unit→Shared→Prop} (hN : NagC s.heap N mN) (hns : mN "__setattr__" = none) (hna : mN name = none) (hB : typeLookup (.type "Exception") name = pure none)
  (hx : s.heap.get? x = some o) (hc : o.cls = .ref N) (hd : o.dict = some dd) (hf : o.data = .fields fs) (hne : dd ≠ x) (hxN : x ≠ N) (hod : s.heap.get? dd = some od) (hno : NsO od mA) (hw : Within mA ns) (hz : ns.length ≤ sizeLine)
  (hq : ∀ h' tk od',NsO od' (fun y=>if y = name then some v else mA y)→h'.get? dd = some od'→(∀ b ob,b ≠ dd→s.heap.get? b = some ob→h'.get? b = some ob)→Q () { s with heap:=h',toks:=tk }) :
  wpAny (model prog w) A (setAttr (.ref x) name v) Q E s:=by
 obtain ⟨nm,q,Nn,bs,sn,sub,ab,col,dd',k0,k1,k2,k3,k5,hC,hn⟩:=hN
 obtain ⟨h,g,dr,t,os⟩:=s
 have I : h.Inst x N mA:=⟨o,hx,hc,(fun c q=>by replace q:=hf ▸ q;cases q),.inr ⟨dd,hd,hne,ns1_of hod hno⟩⟩
 refine store_attr PySem.F.store_Exception hC hn hns hna hB hxN I (fun h' tk' I' keep ob=>?_) hw hz
 obtain ⟨o₁,ho₁,e1,e2,e3,e4⟩:=ob o hx
 obtain ⟨o₂,ho₂,c2,d2,r2⟩:=I'
 replace ho₂:=ho₁ ▸ ho₂
 obtain rfl:=si ho₂
 haveI hd₁:=e4 dd hd
 have heq : o₁ = o:=by
  obtain ⟨a,b,c,d⟩:=o₁
  obtain ⟨a',b',c',d'⟩:=o
  subst e1 e2 e3 hd₁ hd
  rfl
 rcases r2 with ⟨z,_⟩ | ⟨d',z,_,hns1⟩
 ·replace z:=hd₁ ▸ z;exact snm z
 ·replace z:=hd₁ ▸ z
  obtain rfl:=si z
  obtain ⟨od',hod',hno'⟩:=of_ns1 hns1
  refine hq h' tk' od' hno' hod' fun b ob hb hob=>?_
  by_cases hbx : b = x
  ·subst hbx
   replace hob:=hx ▸ hob
   obtain rfl:=si hob
   refine rr ho₁ ?_;refine rr heq ?_;rfl
  ·exact keep b ob hbx (fun o₀ dx h0 h1=>by replace h0:=hx ▸ h0;obtain rfl:=si h0;replace h1:=hd ▸ h1;obtain rfl:=si h1;exact hb) hob
end
end
section
open PySem.Builtin PySem.Builtin.ObjectAttr
theorem slot_ega : Slot "Exception" "__getattribute__" "BaseException.__getattribute__" :=
 .of (owner:="BaseException") (n:="__getattribute__") (by rw [typeLookup_type,builtinLookup_eq_fast];kernel_rfl) (by decide +kernel) (by decide +kernel) (by decide +kernel)
  (by first | exact .inl (by decide +kernel) | exact .inr (by decide +kernel)) (by rw [isSubtype_type];kernel_rfl)
theorem entry_ega : entryFor table "BaseException.__getattribute__" = some Builtin.«object.__getattribute__» :=
 entryFor_alias (id':="object.__getattribute__") (by kernel_rfl) (by decide +kernel) (by decide +kernel) (by kernel_rfl)
theorem args_ega (a b : Value) : argsOk "BaseException.__getattribute__" ⟨[a,b],[]⟩:=by unfold argsOk;kernel_rfl
theorem kind_ega : builtinKind "BaseException.__getattribute__" = some .slot:=by decide +kernel
theorem split_ega : splitId "BaseException.__getattribute__" = some ("BaseException","__getattribute__"):=by decide +kernel
theorem canon_ega : (Manifest.canonical "BaseException.__getattribute__" != "object.__getattribute__") = false:=by decide +kernel
theorem look_ega : typeLookup (.type "Exception") "__getattr__" = pure none:=by rw [typeLookup_type,builtinLookup_eq_fast];kernel_rfl
theorem mro_exc : mroOf (.type "Exception") = pure ExcMro:=by rw [mroOf_type];kernel_rfl
section
variable {A : Around} {E : Value→Shared→Prop} {s : Shared} {N x : Addr} {mN : Str→Option Value} {name : Str} {v : Value}
theorem exc_attr {o od : Obj} {fs : Array Value} {dd : Addr} {mA : Str→Option Value} {Q : Value→Shared→Prop} (hN : NagC s.heap N mN) (hg1 : mN "__getattribute__" = none) (hg2 : mN "__getattr__" = none) (hna : mN name = none) (hB : typeLookup (.type "Exception") name = pure none)
  (hx : s.heap.get? x = some o) (hc : o.cls = .ref N) (hd : o.dict = some dd) (hf : o.data = .fields fs) (hod : s.heap.get? dd = some od) (hno : NsO od mA) (hv : mA name = some v) (hh : handedIn v = true) (hq : ∀ tk,Q v { s with toks:=tk }) :
  wpAny (model prog w) A (getAttr (.ref x) name true) Q E s:=by
 obtain ⟨nm,q,Nn,bs,sn,sub,ab,col,dd',k0,k1,k2,k3,k5,hC,hn⟩:=hN
 obtain ⟨h,g,dr,t,os⟩:=s
 have I : InstAt h x o N (some od):=⟨hx,hc,by unfold notCls;refine rr hf ?_;rfl,by refine rr hd ?_;exact hod⟩
 haveI hns : h.Ns dd mA:=(ns1_of hod hno).ns
 obtain ⟨oc,odi,oda,osl⟩:=o
 subst hc hd hf
 refine wpAny_bind (wpAny_mkText ?_)
 refine wpAny_holding ?_
 refine wpAny_bind (I.type _ _ _ _ (fun _ _ e=>e) ?_)
 refine wpAny_bind (wpAny_typeLookup_exc hC hn mro_exc slot_ega.lookup ?_)
 refine rr hg1 ?_
 refine wp_neg (by intro q;replace q:=(Bool.and_eq_true ..) ▸ q;exact absurd q.2 (by decide)) ?_
 refine wpAny_bind ?_
 refine wp_pos (show onTheHeap (Value.ref N) = true from rfl) ?_
 refine wpAny_typeLookup_exc hC hn mro_exc look_ega ?_
 refine rr hg2 ?_
 refine wpAny_bind (wpAny_attempt ?_)
 refine wpAny_holding ?_
 refine wp_neg (by decide) ?_
 unfold boundAndCalled
 refine rr (slot_ega.bind ..) ?_
 refine wpAny_bind (wpAny_pure ?_)
 refine wpAny_call ?_
 refine codeAny_call_builtin slot_ega.plain entry_ega ?_
 refine wpAny_check_slot_inst (x:=x) (C:=N) (o:=⟨.ref N,some dd,.fields fs,osl⟩) (id:="BaseException.__getattribute__") (owner:="BaseException") (n:="__getattribute__") (rest:=[.str name t]) (bm:=ExcMro) (h:=h) (g:=g) (d:=dr) (t:=t + 1) (os:=os) kind_ega split_ega (args_ega _ _) (by decide) hx rfl hC ?_
 refine wpAny_bind (wpAny_pure ?_)
 refine wpAny_bind (wpAny_pure ?_)
 refine wpAny_bind (I.type _ _ _ _ (fun _ _ e=>e) ?_)
 refine wpAny_bind ?_
 refine wpAny_bind (wpAny_typeLookup_exc hC hn mro_exc hB ?_)
 refine rr hna ?_
 refine wpAny_bind (wpAny_pure ?_)
 refine wpAny_bind (wpAny_pure ?_)
 refine wpAny_bind ?_
 refine wpAny_bind ?_
 refine wpAny_bind (wpAny_loadPart hx ?_)
 refine wpAny_bind (wpAny_loadPart hx ?_)
 refine wpAny_bind ?_
 refine wpAny_bind (wpAny_load hC ?_)
 refine wpAny_pure ?_
 refine wpAny_pure ?_
 refine wpAny_nsGet hns ?_
 refine rr hv ?_
 refine wpAny_bind (wpAny_rule (wpAny_pure ?_))
 refine wpAny_pure ?_
 show wpAny _ _ (handedOut v) _ _ _
 refine rr (handedOut_of hh ..) ?_
 exact wpAny_pure (hq _)
theorem exc_method {o od : Obj} {fs : Array Value} {dd f : Addr} {of : Obj} {mA : Str→Option Value} {pl : Sem Bool} {Q : Value × List Value→Shared→Prop} (hN : NagC s.heap N mN) (hg1 : mN "__getattribute__" = none) (hg2 : mN "__getattr__" = none) (hf' : mN name = some (.ref f)) (hof : s.heap.get? f = some of) (hofc : of.cls = .type "function")
  {y : Option Value} (hB : typeLookup (.type "Exception") name = pure y)
  (hx : s.heap.get? x = some o) (hc : o.cls = .ref N) (hd : o.dict = some dd) (hf : o.data = .fields fs) (hod : s.heap.get? dd = some od) (hno : NsO od mA) (hv : mA name = none) (hq : Q (.ref f,[.ref x]) s) :
  wpAny (model prog w) A (getMethod (.ref x) name pl) Q E s:=by
 obtain ⟨nm,q,Nn,bs,sn,sub,ab,col,dd',k0,k1,k2,k3,k5,hC,hn⟩:=hN
 obtain ⟨h,g,dr,t,os⟩:=s
 haveI I : InstAt h x o N (some od):=⟨hx,hc,by unfold notCls;refine rr hf ?_;rfl,by refine rr hd ?_;exact hod⟩
 haveI hns : h.Ns dd mA:=(ns1_of hod hno).ns
 obtain ⟨oc,odi,oda,osl⟩:=o
 subst hc hd hf
 refine wpAny_bind (wpAny_bind (I.type _ _ _ _ (fun _ _ e=>e) ?_))
 refine wpAny_typeLookup_exc hC hn mro_exc slot_ega.lookup ?_
 refine rr hg1 ?_
 dsimp only
 refine rr canon_ega ?_
 refine wpAny_bind (wpAny_bind (I.type _ _ _ _ (fun _ _ e=>e) ?_))
 refine wpAny_typeLookup_exc hC hn mro_exc look_ega ?_
 refine rr hg2 ?_
 refine wpAny_bind (wpAny_bind (I.type _ _ _ _ (fun _ _ e=>e) ?_))
 refine wpAny_typeLookup_exc hC hn mro_exc hB ?_
 refine rr hf' ?_
 refine wpAny_bind (wpAny_typeOf (T:="function") ⟨_,hof,hofc⟩ ?_)
 refine wp_neg (by decide) ?_
 refine wpAny_bind (wpAny_loadPart hx ?_)
 refine wpAny_bind (wpAny_nsGet hns ?_)
 refine rr hv ?_
 exact wpAny_bind (wpAny_rule (wpAny_pure hq))
end
end
section
open PySem.Builtin PySem.Builtin.ObjectAttr
inductive ExcO (N : Addr) (dct : Option Addr) (o : Obj) : Prop
 | mk  (h0 : o.cls = .ref N) (h1 : o.dict = dct) (fs : _) (g0 : o.data = .fields fs) (g1 : fs[1]? = some .none)
inductive ExcP (N dd : Addr) (o : Obj) : Prop
 | mk  (h0 : o.cls = .ref N) (h1 : o.dict = some dd) (fs : _) (g0 : o.data = .fields fs)
noncomputable def NagT (C : Addr) (l : List (Str × V)) (o : Obj) : Prop:=∃ mA,NsO o mA∧∀ n,match l.lookup n with
 | some v=>∃ val,mA n = some val∧(∀ I : Im,VR C I v val)
 | none=>mA n = none
theorem NagT.within {C : Addr} {l : List (Str × V)} {mA : Str→Option Value} (h : ∀ n,match l.lookup n with
 | some v=>∃ val,mA n = some val∧(∀ I : Im,VR C I v val)
 | none=>mA n = none) : Within mA (l.map (·.1)):=fun y hy=>by
 have:=h y
 cases q : l.lookup y with
 | none=>replace this:=q ▸ this;exact absurd this hy
 | some v=>exact List.mem_map.mpr ⟨_,lookup_mem q,rfl⟩
theorem nagT_add {C : Addr} {l : List (Str × V)} {mA : Str→Option Value} {name : Str} {v : V} {val : Value} (h : ∀ n,match l.lookup n with
 | some v=>∃ val,mA n = some val∧(∀ I : Im,VR C I v val)
 | none=>mA n = none) (hv : ∀ I : Im,VR C I v val) : ∀ n,match ((name,v) :: l).lookup n with
 | some v=>∃ u,(fun y=>if y = name then some val else mA y) n = some u∧(∀ I : Im,VR C I v u)
 | none=>(fun y=>if y = name then some val else mA y) n = none:=fun n=>by
 by_cases q : n = name
 ·subst q
  simp only [List.lookup_cons,beq_self_eq_true]
  exact ⟨val,by simp,hv⟩
 ·have : (n == name) = false:=beq_eq_false_iff_ne.mpr q
  simp only [List.lookup_cons,this,q,if_false]
  exact h n
inductive Flat : V→Prop where
 | int (i : Int) : Flat (.int i)
 | str (s : List Nat) : Flat (.str s)
theorem Flat.all {C : Addr} {I : Im} {v : V} {val : Value} (f : Flat v) (h : VR C I v val) : ∀ I : Im,VR C I v val:=by
 cases f <;> obtain ⟨_,rfl⟩:=h.inv <;> intro I
 ·exact .int _ _
 ·exact .str _ _
section
theorem Rel.set2 {P : Params} {I : Im} {s : Shared} (R : Rel P C Φ I ρ σ s) {i : Nat} {a : Addr} {c c' : Cell} (hi : σ[i]? = some (a,c)) {h' : Heap} {tk : Nat} (hs : ∀ b o,b ≠ a→s.heap.get? b = some o→h'.get? b = some o) {o : Obj} (ho : h'.get? a = some o) (hc : c'.Is P C I o) :
  Rel P C Φ I ρ (σ.set i (a,c')) { s with heap:=h',toks:=tk }∧Kp [] I σ I (σ.set i (a,c')) s { s with heap:=h',toks:=tk }:=by
 have ka : a∈keys σ:=List.mem_map.mpr ⟨(a,c),List.mem_of_getElem? hi,rfl⟩
 have nI : ∀ b o,I b = some o→b ≠ a:=fun b o e q=>by
  have:=R.apartI a ka
  replace e:=q ▸ e;replace this:=e ▸ this;exact snm this
 have no : ∀ b∈Φ.own,b ≠ a:=fun b hb q=>(R.apart a ka).2 (q ▸ hb)
 have ks:=keys_set (c':=c') hi
 refine ⟨⟨fun b o e=>hs b o (nI b o e) (R.im b o e),R.base,fun b d hb=>?_,ks ▸ R.apart,ks ▸ R.nodup,R.ownI,?_,fun j x d hj=>?_,R.gens⟩,
  ⟨fun b o e h _=>hs b o (fun q=>h (q ▸ ka)) e,fun b e=>?_,fun b q=>?_,fun _ _ e=>e,rfl⟩⟩
 ·by_cases q : b = a
  ·subst q
   obtain ⟨j,hj,e⟩:=List.getElem_of_mem hb
   by_cases z : i = j
   ·subst z
    replace e:=(List.getElem_set_self ..) ▸ e
    cases e
    exact ⟨o,ho,hc⟩
   ·exfalso
    rw [List.getElem_set_ne z] at e
    have hj' : j < σ.length:=by simpa using hj
    exact z (key_idx R hi (by refine rr (List.getElem?_eq_getElem hj' ..) ?_;refine rr e ?_;rfl))
  ·haveI hb' : (b,d)∈σ:=by
    rcases List.mem_or_eq_of_mem_set hb with z | z
    ·exact z
    ·cases z;exact absurd rfl q
   obtain ⟨o',ho',hc'⟩:=R.cell b d hb'
   exact ⟨o',hs b o' q ho',hc'⟩
 ·obtain ⟨m,hn,h⟩:=R.ns
  exact ⟨m,hn.at' fun o e=>hs _ o (no _ (.head _)) e,h⟩
 ·obtain ⟨u,⟨o',ho',hd'⟩,h⟩:=R.cells j x d hj
  exact ⟨u,⟨o',hs d o' (no d (.tail _ (filterMap_idx hj))) ho',hd'⟩,h⟩
 ·by_cases q : b = a
  ·subst q
   refine rr ho ?_;rfl
  ·obtain ⟨o',ho'⟩:=Option.isSome_iff_exists.mp e
   refine rr (hs b o' q ho' ..) ?_;rfl
 ·replace q:=ks ▸ q
  exact q.elim .inl fun q=>.inr (.inl q)
theorem Rel.adopt {P : Params} {I : Im} {s : Shared} (R : Rel P C Φ I ρ σ s) {a : Addr} {c : Cell} {o : Obj} (ho : s.heap.get? a = some o) (hI : I a = none) (hk : a ∉ keys σ) (hown : a ∉ Φ.own) (hc : c.Is P C I o) : Rel P C Φ I ρ ((a,c) :: σ) s:=by
 refine ⟨R.im,R.base,fun b d hb=>?_,fun b hb=>?_,?_,R.ownI,R.ns,R.cells,R.gens⟩
 ·rcases List.mem_cons.mp hb with q | q
  ·cases q;exact ⟨o,ho,hc⟩
  ·exact R.cell b d q
 ·rcases List.mem_cons.mp hb with q | q
  ·subst q;exact ⟨hI,hown⟩
  ·exact R.apart b q
 ·exact List.nodup_cons.mpr ⟨hk,R.nodup⟩
theorem Kp.adopt {W : List Addr} {I I' : Im} {σ' : St} {s s' : Shared} (k : Kp W I σ I' σ' s s') {a : Addr} (c : Cell) (h : s.heap.get? a = none) : Kp W I σ I' ((a,c) :: σ') s s' :=
 ⟨k.keep,k.alive,fun b q=>by
  rcases q with q | q
  ·exact k.new b (.inl q)
  ·rcases List.mem_cons.mp q with z | z
   ·exact .inr (.inr (z ▸ h))
   ·exact k.new b (.inr z),k.im,k.os⟩
theorem EV.callExc (Ok : Φ.Ok) {mg mb : Str→Option Value} (T : Tx Φ.h₀ mg mb) {K : Frag} {N : Addr} {mN : Str→Option Value} (X : K.In Φ.h₀) (hk : keepIn K (.ref N) = true) (hN : NagC Φ.h₀ N mN) {d : Fn} {ps : List Str} (ok : d.ok ps = true) (hl : 3 ≤ Φ.lvl) {f : Addr} {cdv : Value} {of : Obj} (hf : FnAt Φ.h₀ f d cdv)
  (hof : Φ.h₀.get? f = some of) (hofc : of.cls = .type "function") (hi : mN "__init__" = some (.ref f))
  (hbind : BindOk d ps)
  {x : Str} {p pos : Pos} {e : Expr} {args : List Expr} {Q : QV} (hx : Φ.env.kindOf x = some .globalImplicit)
  (hd : (x == ("__debug__" : Str)) = false) (hg : mg x = some (.ref N)) (he : starEach (e :: args) Φ.env = (false,eval e Φ.env) :: starEach args Φ.env) (hpl : (backTo pos (starEach args Φ.env)).any (·.1) = false) (hps : ps.length ≤ 1000)
  (h : EA prog w C Φ pos (e :: args) ρ σ fun xs σ₁=>xs.length + 1 = ps.length∧∀ x,FnBody prog w C Φ.low d (.ref x :: xs) ((x,.raw (ExcO N none)) :: σ₁) fun v σ₂=>v = .none∧Q (.ref x) σ₂) :
  EV prog w C Φ (.Call (.Name x p) (e :: args) [] pos) ρ σ Q:=by
 intro A I s a R QQ E g
 refine Call_Name rfl (load_glob Ok T R hx hd hg ?_)
 refine callWith_K (X.keeps R.h₀) hk (h A I s a R _ E fun xs σ₁ I₁ s₁ vals z0 hxs R₁ k₁=>?_) he hpl
 obtain ⟨hlen,q⟩:=z0
 refine ⟨X.keeps R₁.h₀,?_⟩
 obtain ⟨nm,qq,Nn,bs,sn,sub,ab,col,dd,k0,k1,k2,k3,k5,hC,hn⟩:=hN.keeps R₁.h₀
 haveI hof₁:=R₁.h₀ _ _ hof
 obtain ⟨hh,gs,dr,t,os⟩:=s₁
 have hvl : vals.length ≤ sizeLine:=by have:=sl 1000 (by decide);have:=hxs.1;lia
 refine wpAny_call_exc_init PySem.F.excBase_Exception hC hn hi hof₁ hofc (fun h' ex mk=>?_) hvl
 obtain ⟨tt,e1,e2,e3⟩:=mk.there
 have z:=R₁.new (tk:=t) (a:=ex) (c:=.raw (ExcO N none)) (h':=h') mk.new mk.keeps e1 ⟨rfl,rfl,_,rfl,rfl⟩
 haveI kk:=k₁.trans z.2 R₁.apartI
 refine call_fn (Φ:=Φ.low) ok (by show 2 ≤ Φ.lvl - 1;lia) T hf hbind (a.make (by lia) N vals) z.1.low (.cons (.ref ex) hxs) (by simpa using hlen) (q ex) ?_
 rintro v σ' I' s' val ⟨hv,q'⟩ hr R' k'
 subst hv
 obtain ⟨_,rfl⟩:=hr.inv
 exact ⟨rfl,g _ σ' I' s' _ q' (.ref _) R'.unlow (kk.trans k' z.1.apartI)⟩
theorem AS.excFirst {N : Addr} {mN : Str→Option Value} (hN : NagC Φ.h₀ N mN) (hns : mN "__setattr__" = none) {o : Expr} {attr : Str} {pos : Pos} {v : V} (hv : Flat v) {Q : List (Option V)→St→Prop} (hna : mN attr = none) (hB : typeLookup (.type "Exception") attr = Pure.pure none)
  (h : EV prog w C Φ o ρ σ fun ov σ₁=>∃ x i,ov = .ref x∧σ₁[i]? = some (x,.raw (ExcO N none))∧∀ dd,Q ρ ((dd,.raw (NagT C [(attr,v)])) :: σ₁.set i (x,.raw (ExcO N (some dd))))) : AS prog w C Φ (.Attribute o attr pos) v ρ σ Q:=by
 intro A I s val a R hval QQ E g
 show wpAny _ _ (do
  let ov ← holding [val] (eval o Φ.env)
  standAt pos.atName
  holding [val,ov] (setAttr ov attr val)
  release [val,ov] []) _ _ _
 refine wpAny_bind (wpAny_holding (h A I s a R _ E fun ov σ₁ I₁ s₁ ovv z0 hov R₁ k₁=>?_))
 obtain ⟨x,i,e,hi,q⟩:=z0
 subst e
 obtain ⟨_,rfl⟩:=hov.inv
 refine wpAny_bind (wpAny_standAt (wpAny_bind (wpAny_holding ?_)))
 obtain ⟨ox,hox,c1,c2,fs,c3,c4⟩:=R₁.cell x _ (List.mem_of_getElem? hi)
 refine store_first (hN.keeps R₁.h₀) hns hna hB hox c1 c2 c3 fun h' tk od hno hod hx' keep=>?_
 refine wpAny_release ?_
 have hnone : s₁.heap.get? s₁.heap.objs.size = none:=Heap.get?_none_of_le (Nat.le_refl _)
 haveI hxne : x ≠ s₁.heap.objs.size:=Nat.ne_of_lt (Heap.lt_size hox)
 have z:=R₁.set2 hi (c':=.raw (ExcO N (some s₁.heap.objs.size))) (tk:=tk) (fun b ob hb e=>keep b ob hb e) hx' ⟨c1,rfl,fs,c3,c4⟩
 haveI hI₁ : I₁ s₁.heap.objs.size = none:=noI_of R₁.im hnone
 have hk₁ : s₁.heap.objs.size ∉ keys (σ₁.set i (x,.raw (ExcO N (some s₁.heap.objs.size)))):=fun q=>by
  replace q:=(keys_set hi ..) ▸ q
  obtain ⟨o,ho⟩:=R₁.key_alive q
  replace ho:=hnone ▸ ho;exact nsm ho
 haveI hown : s₁.heap.objs.size ∉ Φ.own:=fun q=>by
  obtain ⟨o,ho⟩:=R₁.own_alive q
  replace ho:=hnone ▸ ho;exact nsm ho
 haveI z1:=z.1.adopt (c:=.raw (NagT C [(attr,v)])) hod hI₁ hk₁ hown ⟨_,hno,fun n=>?_⟩
 ·exact g ρ _ I₁ _ (q _) z1 ((k₁.trans (z.2.adopt _ hnone) R₁.apartI).wider fun a h=>nomatch h)
 ·haveI hf:=hv.all (hval.mono k₁.im)
  have:=nagT_add (C:=C) (l:=[]) (mA:=fun _=>none) (name:=attr) (v:=v) (val:=val) (fun n=>rfl) hf n
  exact this
theorem AS.excNext {N : Addr} {mN : Str→Option Value} (hN : NagC Φ.h₀ N mN) (hns : mN "__setattr__" = none) {o : Expr} {attr : Str} {pos : Pos} {v : V} (hv : Flat v) {Q : List (Option V)→St→Prop} (hna : mN attr = none) (hB : typeLookup (.type "Exception") attr = Pure.pure none)
  (h : EV prog w C Φ o ρ σ fun ov σ₁=>∃ x dd i j l,ov = .ref x∧σ₁[j]? = some (x,.raw (ExcO N (some dd)))∧σ₁[i]? = some (dd,.raw (NagT C l))∧i ≠ j∧l.length ≤ 1000∧Q ρ (σ₁.set i (dd,.raw (NagT C ((attr,v) :: l))))) : AS prog w C Φ (.Attribute o attr pos) v ρ σ Q:=by
 intro A I s val a R hval QQ E g
 show wpAny _ _ (do
  let ov ← holding [val] (eval o Φ.env)
  standAt pos.atName
  holding [val,ov] (setAttr ov attr val)
  release [val,ov] []) _ _ _
 refine wpAny_bind (wpAny_holding (h A I s a R _ E fun ov σ₁ I₁ s₁ ovv z0 hov R₁ k₁=>?_))
 obtain ⟨x,dd,i,j,l,e,hj,hi,hij,hz,q⟩:=z0
 subst e
 obtain ⟨_,rfl⟩:=hov.inv
 refine wpAny_bind (wpAny_standAt (wpAny_bind (wpAny_holding ?_)))
 haveI hx:=List.mem_of_getElem? hj
 haveI hne : dd ≠ x:=fun z=>hij (key_idx R₁ hi (z.symm ▸ hj : σ₁[j]? = some (dd,.raw (ExcO N (some dd)))))
 obtain ⟨ox,hox,c1,c2,fs,c3,c4⟩:=R₁.cell x _ hx
 obtain ⟨od,hod,mA,hno,hmA⟩:=R₁.cell dd _ (List.mem_of_getElem? hi)
 haveI hN₁:=hN.keeps R₁.h₀
 have hxN : x ≠ N:=fun q=>by
  obtain ⟨nm,qq,Nn,bs,sn,sub,ab,col,dd',k0,k1,k2,k3,k5,hC,hn⟩:=hN
  haveI h1:=R₁.base _ _ hC
  haveI h2:=R₁.apartI x (List.mem_map.mpr ⟨_,hx,rfl⟩)
  replace h2:=q ▸ h2;replace h2:=h1 ▸ h2
  exact snm h2
 refine store_next hN₁ hns hna hB hox c1 c2 c3 hne hxN hod hno (NagT.within hmA) (by have:=sl 1000 (by decide);simp;lia) fun h' tk od' hno' hod' keep=>?_
 refine wpAny_release ?_
 haveI z:=R₁.set2 hi (c':=.raw (NagT C ((attr,v) :: l))) (tk:=tk) (fun b ob hb e=>keep b ob hb e) hod' ⟨_,hno',nagT_add hmA (hv.all (hval.mono k₁.im))⟩
 exact g ρ _ I₁ _ q z.1 ((k₁.trans z.2 R₁.apartI).wider fun a h=>nomatch h)
theorem EV.attrExc {N : Addr} {mN : Str→Option Value} (hN : NagC Φ.h₀ N mN) (hg1 : mN "__getattribute__" = none) (hg2 : mN "__getattr__" = none) {o : Expr} {attr : Str} {pos : Pos} {Q : QV} (hna : mN attr = none) (hB : typeLookup (.type "Exception") attr = Pure.pure none)
  (he : eval (.Attribute o attr pos) Φ.env = (do
   let ov ← eval o Φ.env
   standAt pos.atName
   let r ← holding [ov] (getAttr ov attr true)
   letTemporaryGo o ov r
   Pure.pure r))
  (h : EV prog w C Φ o ρ σ fun ov σ₂=>∃ x dd l v,ov = .ref x∧(x,.raw (ExcP N dd))∈σ₂∧(dd,.raw (NagT C l))∈σ₂∧l.lookup attr = some v∧Flat v∧Q v σ₂) : EV prog w C Φ (.Attribute o attr pos) ρ σ Q:=by
 intro A I s a R QQ E g
 refine Attribute_any_ (h A I s a R _ E fun ov σ₂ I₂ s₂ ovv z0 hov R₂ k₂=>?_) he
 obtain ⟨x,dd,l,v,e,hx,hd,hl,hf,q⟩:=z0
 subst e
 obtain ⟨_,rfl⟩:=hov.inv
 obtain ⟨ox,hox,c1,c2,fs,c3⟩:=R₂.cell x _ hx
 obtain ⟨od,hod,mA,hno,hmA⟩:=R₂.cell dd _ hd
 haveI hm:=hmA attr
 replace hm:=hl ▸ hm
 obtain ⟨val,hval,hvr⟩:=hm
 refine exc_attr (hN.keeps R₂.h₀) hg1 hg2 hna hB hox c1 c2 c3 hod hno hval ?_ fun tk=>(g.after R₂ k₂).toks R₂ (hvr I₂) q
 have:=hvr I₂
 cases hf <;> obtain ⟨_,rfl⟩:=this.inv <;> rfl
theorem EV.methExc0 {N : Addr} {mN : Str→Option Value} (hN : NagC Φ.h₀ N mN) (hg1 : mN "__getattribute__" = none) (hg2 : mN "__getattr__" = none) {mg mb : Str→Option Value} (T : Tx Φ.h₀ mg mb) {d : Fn} {ps : List Str} (ok : d.ok ps = true) (hl : 2 ≤ Φ.lvl) {f : Addr} {cdv : Value} {of : Obj} (hf : FnAt Φ.h₀ f d cdv)
  (hof : Φ.h₀.get? f = some of) (hofc : of.cls = .type "function")
  (hbind : BindOk d ps)
  {o : Expr} {name : Str} {apos pos : Pos} {pl : Sem Bool} {Q : QV} (hm : mN name = some (.ref f)) {y : Option Value} (hB : typeLookup (.type "Exception") name = Pure.pure y)
  (he : eval (.Call (.Attribute o name apos) [] [] pos) Φ.env = (do
   let ov ← eval o Φ.env
   standAt apos.atName
   let (f,first) ← holding [ov] (getMethod ov name pl)
   callWith pos f first (backTo pos (starEach [] Φ.env)) []))
  (h : EV prog w C Φ o ρ σ fun ov σ₁=>(∃ x dd l,ov = .ref x∧(x,.raw (ExcP N dd))∈σ₁∧(dd,.raw (NagT C l))∈σ₁∧l.lookup name = none)∧1 = ps.length∧FnBody prog w C Φ d [ov] σ₁ Q) :
  EV prog w C Φ (.Call (.Attribute o name apos) [] [] pos) ρ σ Q:=by
 intro A I s a R QQ E g
 refine MethodCall_ (h A I s a R _ E fun ov σ₁ I₁ s₁ val z0 hv R₁ k₁=>?_) he
 obtain ⟨⟨x,dd,l,e',hx,hd,hl'⟩,hps,q⟩:=z0
 subst e'
 obtain ⟨_,rfl⟩:=hv.inv
 obtain ⟨ox,hox,c1,c2,fs,c3⟩:=R₁.cell x _ hx
 obtain ⟨od,hod,mA,hno,hmA⟩:=R₁.cell dd _ hd
 haveI hmn:=hmA name
 replace hmn:=hl' ▸ hmn
 refine exc_method (hN.keeps R₁.h₀) hg1 hg2 hm (R₁.h₀ _ _ hof) hofc hB hox c1 c2 c3 hod hno hmn ?_
 obtain ⟨o',doc,pm,an,ct,ho,hdat,hcd⟩:=hf
 refine Calls.callWith_function (o:=o') (fd:=fnX d.name d.qual d.params d.body d.scope [] .none .none doc pm an cdv ct) (PyProof.Rows.evalArgs_nil3 ⟨⟨R₁.h₀ _ _ ho,hdat⟩,?_⟩)
 exact call_fn ok hl T ⟨o',doc,pm,an,ct,ho,hdat,hcd⟩ hbind a R₁ (.one (.ref x)) hps q (g.after R₁ k₁)
end
end
structure Fra (Φ : Fc) (outer : List Env) (I : Im) (σ : St) (s : Shared) : Prop where
 fr : Φ.frames = some (Φ.env :: outer)
 me : Φ.env.frame = some Φ.env.locals
 out : ∀ env∈outer,env.scope.kind ≠ .module∧∃ L o,env.frame = some L∧s.heap.get? L = some o∧(∀ vs,o.data ≠ .fields vs)∧I L = none∧L ∉ keys σ∧L ∉ Φ.own
section
variable {N : Addr} {outer : List Env}
theorem Fra.step {I I' : Im} {σ' : St} {s s' : Shared} (F : Fra Φ outer I σ s) (k : Kp Φ.own I σ I' σ' s s') : Fra Φ outer I' σ' s':=by
 refine ⟨F.fr,F.me,fun env he=>?_⟩
 obtain ⟨h1,L,o,hf,ho,hd,hI,hk,hw⟩:=F.out env he
 have key : ¬ ((I' L).isSome = true ∨ L∈keys σ'):=fun q=>by
  rcases k.new L q with z | z | z
  ·replace z:=hI ▸ z;exact ftm z
  ·exact hk z
  ·replace z:=ho ▸ z;exact snm z
 refine ⟨h1,L,o,hf,k.keep L o ho hk hw,hd,?_,fun q=>key (.inr q),hw⟩
 cases q : I' L with
 | none=>rfl
 | some o=>exact absurd (.inl (by refine rr q ?_;rfl)) key
theorem Fra.ff (Ok : Φ.Ok) {P : Params} {I : Im} {s : Shared} (F : Fra Φ outer I σ s) (R : Rel P C Φ I ρ σ s) : FF s.heap (Φ.env :: outer):=fun env he=>by
 rcases List.mem_cons.mp he with rfl | he
 ·obtain ⟨m,⟨o,es,ep,ho,hd,_⟩,_⟩:=R.ns
  exact ⟨by refine rr (Ok.kind ..) ?_;decide,_,o,F.me,ho,fun vs q=>by replace q:=hd ▸ q;cases q⟩
 ·obtain ⟨h1,L,o,hf,ho,hd,_⟩:=F.out env he
  exact ⟨h1,L,o,hf,ho,hd⟩
theorem Fra.apart {P : Params} {I : Im} {s : Shared} (F : Fra Φ outer I σ s) (R : Rel P C Φ I ρ σ s) : ∀ b∈frs (Φ.env :: outer),I b = none∧b ∉ keys σ:=fun b hb=>by
 obtain ⟨env,he,hf⟩:=List.mem_filterMap.mp hb
 rcases List.mem_cons.mp he with rfl | he
 ·replace hf:=(F.me ..) ▸ hf
  obtain rfl:=si hf
  exact ⟨R.ownI _ (.head _),fun q=>(R.apart _ q).2 (.head _)⟩
 ·obtain ⟨_,L,o,hf',_,_,hI,hk,_⟩:=F.out env he
  replace hf':=hf ▸ hf'
  obtain rfl:=si hf'
  exact ⟨hI,hk⟩
noncomputable abbrev Exs (C N e dd : Addr) (l : List (Str × V)) (σ₁ : St) : St:=(e,.raw (ExcO N (some dd))) :: (dd,.raw (NagT C l)) :: σ₁
inductive ExT (w : World) (C N : Addr) (Φ : Fc) (outer : List Env) (I : Im) (σ : St) (s : Shared) (QE : List (Str × V)→St→Prop) (b : Bool) (e : Addr) (s' : Shared) : Prop
 | mk (I₁ : _) (ρ₁ : _) (σ₁ : _) (s₁ : _) (dd : _) (l : _) (h0 : QE l σ₁) (h1 : Rel w.params C Φ I₁ ρ₁ (Exs C N e dd l σ₁) s₁) (h2 : Kp Φ.own I σ I₁ (Exs C N e dd l σ₁) s s₁) (h3 : Fra Φ outer I₁ (Exs C N e dd l σ₁) s₁) (h4 : match b with
  | false=>s' = s₁
  | true=>∃ T h',s' = { s₁ with heap:=h' }∧Nt (frs (Φ.env :: outer)) e T (rawInt Φ.env.locals) s₁.heap h')
theorem ExT.after {I I' : Im} {σ' : St} {s s' s'' : Shared} {QE : List (Str × V)→St→Prop} {b : Bool} {e : Addr} {ρ' : List (Option V)} (x : ExT w C N Φ outer I' σ' s' QE b e s'') (R' : Rel w.params C Φ I' ρ' σ' s') (k : Kp Φ.own I σ I' σ' s s') : ExT w C N Φ outer I σ s QE b e s'':=by
 obtain ⟨I₁,ρ₁,σ₁,s₁,dd,l,q,R₁,k₁,F₁,r⟩:=x
 exact ⟨I₁,ρ₁,σ₁,s₁,dd,l,q,R₁,k.trans k₁ R'.apartI,F₁,r⟩
theorem ExT.note (Ok : Φ.Ok) {A : Around} (hfr : A.frames = Φ.frames) {I : Im} {s s' : Shared} {QE : List (Str × V)→St→Prop} {b : Bool} {e : Addr} (x : ExT w C N Φ outer I σ s QE b e s') {Q : Unit→Shared→Prop} {E : Value→Shared→Prop}
  (h : ∀ s'',ExT w C N Φ outer I σ s QE true e s''→Q () s'') : wpAny (model prog w) A (noteFrame (.ref e) Φ.env) Q E s':=by
 obtain ⟨I₁,ρ₁,σ₁,s₁,dd,l,q,R₁,k₁,F₁,r⟩:=x
 replace hfr:=(F₁.fr ..) ▸ hfr
 cases b with
 | false =>
  obtain rfl : s' = s₁:=r
  obtain ⟨oe,he,c1,c2,fs,c3,c4⟩:=R₁.cell e _ (.head _)
  exact note_first hfr (F₁.ff Ok R₁) F₁.me he c3 c4 fun h' T x=>h _ ⟨I₁,ρ₁,σ₁,s',dd,l,q,R₁,k₁,F₁,T,h',rfl,x⟩
 | true =>
  obtain ⟨T,h',rfl,x⟩:=r
  exact note_again F₁.me x (h _ ⟨I₁,ρ₁,σ₁,s₁,dd,l,q,R₁,k₁,F₁,T,h',rfl,x⟩)
theorem ExT.noted (Ok : Φ.Ok) {A : Around} (hfr : A.frames = Φ.frames) {I : Im} {s s' : Shared} {QE : List (Str × V)→St→Prop} {b : Bool} {e : Addr} (x : ExT w C N Φ outer I σ s QE b e s') {E : Value→Shared→Prop}
  (h : ∀ b s'',ExT w C N Φ outer I σ s QE b e s''→E (.ref e) s'') : notedBy (model prog w) A Φ.env (fun e s'=>cameBackBy (model prog w) A Φ.env E e s') (.ref e) s':=by
 refine x.note Ok hfr fun s'' x'=>?_
 obtain ⟨I₁,ρ₁,σ₁,s₁,dd,l,q,R₁,k₁,F₁,T,h',rfl,x⟩:=x'
 obtain ⟨oe,vs,vs',_,_,he,h1⟩:=x.ex
 refine wpAny_bind (wpAny_field he rfl h1 ?_)
 refine wp_neg (by simp) ?_
 refine rr (F₁.me ..) ?_
 exact set_flight (o:=some Φ.env.locals) x fun h'' x''=>h true _ ⟨I₁,ρ₁,σ₁,s₁,dd,l,q,R₁,k₁,F₁,T,h'',rfl,x''⟩
theorem ExT.leaves (Ok : Φ.Ok) {A : Around} (hfr : A.frames = Φ.frames) {I : Im} {s s' : Shared} {QE : List (Str × V)→St→Prop} {b : Bool} {e : Addr} (x : ExT w C N Φ outer I σ s QE b e s') {Q : Unit→Shared→Prop} {E : Value→Shared→Prop}
  (h : ∀ I₁ ρ₁ σ₁ s₁ dd l T h',QE l σ₁→Rel w.params C Φ I₁ ρ₁ (Exs C N e dd l σ₁) s₁→Kp Φ.own I σ I₁ (Exs C N e dd l σ₁) s s₁→Fra Φ outer I₁ (Exs C N e dd l σ₁) s₁→Nt (frs (Φ.env :: outer)) e T .none s₁.heap h'→Q () { s₁ with heap:=h' }) :
  wpAny (model prog w) A (leaving Φ.env (.ref e)) Q E s':=by
 refine wpAny_bind (x.note Ok hfr fun s'' x'=>?_)
 obtain ⟨I₁,ρ₁,σ₁,s₁,dd,l,q,R₁,k₁,F₁,T,h',rfl,x⟩:=x'
 exact set_flight (o:=none) x fun h'' x''=>h I₁ ρ₁ σ₁ s₁ dd l T h'' q R₁ k₁ F₁ x''
end
section
variable (prog : Program) (w : World) (C N : Addr)
noncomputable def EXE (Φ : Fc) (outer : List Env) (ss : List Stmt) (ρ : List (Option V)) (σ : St) (Q : QX) (QE : List (Str × V)→St→Prop) : Prop :=
 ∀ A I s,AOk Φ A→Rel w.params C Φ I ρ σ s→Fra Φ outer I σ s→∀ (QQ : Flow→Shared→Prop) (E : Value→Shared→Prop),GotX w C Φ I σ s Q QQ→(∀ b e s',ExT w C N Φ outer I σ s QE b e s'→E (.ref e) s')→wpAny (model prog w) A (execs ss Φ.env) QQ E s
noncomputable def EX1E (Φ : Fc) (outer : List Env) (st : Stmt) (ρ : List (Option V)) (σ : St) (Q : QX) (QE : List (Str × V)→St→Prop) : Prop :=
 ∀ A I s,AOk Φ A→Rel w.params C Φ I ρ σ s→Fra Φ outer I σ s→∀ (QQ : Flow→Shared→Prop) (E : Value→Shared→Prop),GotX w C Φ I σ s Q QQ→(∀ b e s',ExT w C N Φ outer I σ s QE b e s'→E (.ref e) s')→wpAny (model prog w) A (exec st Φ.env) QQ E s
end
section
variable {N : Addr} {outer : List Env} {QE : List (Str × V)→St→Prop}
theorem EXE.of {ss : List Stmt} {Q : QX} (h : EX prog w C Φ ss ρ σ Q) : EXE prog w C N Φ outer ss ρ σ Q QE:=fun A I s a R _ QQ E g _=>h A I s a R QQ E g
theorem EX1E.of {st : Stmt} {Q : QX} (h : EX1 prog w C Φ st ρ σ Q) : EX1E prog w C N Φ outer st ρ σ Q QE:=fun A I s a R _ QQ E g _=>h A I s a R QQ E g
theorem EXE.nil {Q : QX} (q : Q .next ρ σ) : EXE prog w C N Φ outer [] ρ σ Q QE:=.of (EX.nil q)
noncomputable abbrev kSeqE (prog : Program) (w : World) (C N : Addr) (Φ : Fc) (outer : List Env) (rest : List Stmt) (Q : QX) (QE : List (Str × V)→St→Prop) : QX:=fun f ρ' σ'=>match f with | .next=>EXE prog w C N Φ outer rest ρ' σ' Q QE | f=>Q f ρ' σ'
theorem EXE.cons {st : Stmt} {rest : List Stmt} {Q : QX}
  (h : EX1E prog w C N Φ outer st ρ σ (kSeqE prog w C N Φ outer rest Q QE) QE) : EXE prog w C N Φ outer (st :: rest) ρ σ Q QE:=by
 intro A I s a R F QQ E g hE
 refine wpAny_execs_cons (h A I s a R F _ E ?_ hE)
 intro f ρ' σ' I' s' fl q hf R' k
 cases hf with
 | next=>exact q A I' s' a R' (F.step k) QQ E (g.after R' k) fun b e s'' x=>hE b e s'' (x.after R' k)
 | brk=>exact g _ _ _ _ _ _ q .brk R' k
 | cont=>exact g _ _ _ _ _ _ q .cont R' k
 | ret hv=>exact g _ _ _ _ _ _ q (.ret hv) R' k
noncomputable abbrev kIfX (prog : Program) (w : World) (C N : Addr) (Φ : Fc) (outer : List Env) (body orelse : List Stmt) (ρ : List (Option V)) (Q : QX) (QE : List (Str × V)→St→Prop) : Bool→St→Prop:=fun b σ'=>match b with | true=>EXE prog w C N Φ outer body ρ σ' Q QE | false=>EXE prog w C N Φ outer orelse ρ σ' Q QE
theorem EX1E.if_ {test : Expr} {body orelse : List Stmt} {pos : Pos} {Q : QX}
  (h : ET prog w C Φ test ρ σ (kIfX prog w C N Φ outer body orelse ρ Q QE)) : EX1E prog w C N Φ outer (.If test body orelse pos) ρ σ Q QE:=by
 intro A I s a R F QQ E g hE
 refine wpAny_If (h A I s a R _ E ?_)
 intro b σ' I' s' q R' k
 have k' : Kp Φ.own I σ I' σ' s s':=k.wider fun a h=>nomatch h
 cases b with
 | true=>exact q A I' s' a R' (F.step k') QQ E (g.afterE R' k) fun b e s'' x=>hE b e s'' (x.after R' k')
 | false=>exact q A I' s' a R' (F.step k') QQ E (g.afterE R' k) fun b e s'' x=>hE b e s'' (x.after R' k')
theorem EXE.drop {ss : List Stmt} {Q : QX} {σ₀ : St} (hs : σ₀.Sublist σ) (h : EXE prog w C N Φ outer ss ρ σ₀ Q QE) : EXE prog w C N Φ outer ss ρ σ Q QE:=by
 intro A I s a R F QQ E g hE
 haveI ks:=keys_sub hs
 refine h A I s a (R.sub hs) ⟨F.fr,F.me,fun env he=>?_⟩ QQ E (fun f ρ' σ' I' s' fl q hf R' k=>g f ρ' σ' I' s' fl q hf R' (k.from hs)) fun b e s' x=>hE b e s' ?_
 ·obtain ⟨h1,L,o,hf,ho,hd,hI,hk,hw⟩:=F.out env he
  exact ⟨h1,L,o,hf,ho,hd,hI,fun q=>hk (ks.subset q),hw⟩
 ·obtain ⟨I₁,ρ₁,σ₁,s₁,dd,l,q,R₁,k₁,r1,r⟩:=x
  exact ⟨I₁,ρ₁,σ₁,s₁,dd,l,q,R₁,k₁.from hs,r1,r⟩
end
section
variable {A : Around} {E : Value→Shared→Prop} {s : Shared} {env : Env} {N : Addr}
theorem raise_wp {x : Sem Value} {Q : Flow→Shared→Prop} (hh : A.handled = none)
  (h : wpAny (model prog w) A x (fun v s₁=>∃ e dct fs sl mN,v = .ref e∧NagC s₁.heap N mN∧s₁.heap.get? e = some ⟨.ref N,dct,.fields fs,sl⟩∧fs[1]? = some .none∧E (.ref e) s₁) E s) :
  wpAny (model prog w) A (raiseStmt env (some x) none) Q E s:=by
 refine wpAny_bind (wpAny_mono h (fun v s₁ h₁=>?_) fun _ _ x=>x)
 obtain ⟨e,dct,fs,sl,mN,rfl,hN,he,h1,hE⟩:=h₁
 obtain ⟨nm,q,Nn,bs,sn,sub,ab,col,dd,k0,k1,k2,k3,k5,hC,hn⟩:=hN
 obtain ⟨hp,g,d,tk,os⟩:=s₁
 haveI hcB : (Value.ref N :: ExcMro).contains (.type "BaseException") = true:=by rw [List.contains_cons];rw [show ExcMro.contains (.type "BaseException") = true from by decide,Bool.or_true]
 repeat (first | with_reducible refine wpAny_loadPart_at he ?_ | with_reducible refine wpAny_loadPart_at hC ?_ | (with_reducible refine wpAny_isSubtype_exc hC ?_;refine rr hcB ?_) | wp_step)
 refine rr h1 ?_
 refine wpAny_pure ?_
 refine wp_neg (by decide) ?_
 exact wpAny_pure (wpAny_raiseNew_none hh hE)
end
section
variable {N : Addr} {outer : List Env} {QE : List (Str × V)→St→Prop}
theorem EX1E.raise (hh : Φ.hd = none) {mN : Str→Option Value} (hN : NagC Φ.h₀ N mN) {e : Expr} {pos : Pos} {Q : QX}
  (h : EV prog w C Φ e ρ σ fun v σ'=>∃ x dd l σ₁,v = .ref x∧σ' = Exs C N x dd l σ₁∧QE l σ₁) : EX1E prog w C N Φ outer (.Raise (some e) none pos) ρ σ Q QE:=by
 intro A I s a R F QQ E g hE
 rw [arm_exec_Raise]
 refine wpAny_bind (wpAny_standAt ?_)
 show wpAny _ _ (raiseStmt Φ.env (some (do let v ← eval e Φ.env;standAt pos;pure v)) none) _ _ _
 refine raise_wp (N:=N) (a.hd.trans hh) (wpAny_bind (h A I s a R _ E fun v σ' I' s' val z0 hv R' k=>?_))
 obtain ⟨x,dd,l,σ₁,e1,e2,q⟩:=z0
 subst e1 e2
 obtain ⟨_,rfl⟩:=hv.inv
 refine wpAny_bind (wpAny_standAt (wpAny_pure ?_))
 obtain ⟨ox,hox,c1,c2,fs,c3,c4⟩:=R'.cell x _ (.head _)
 obtain ⟨oc,od,oda,osl⟩:=ox
 subst c1 c2 c3
 haveI k' : Kp Φ.own I σ I' (Exs C N x dd l σ₁) s s':=k.wider fun a h=>nomatch h
 exact ⟨x,_,fs,osl,mN,rfl,hN.keeps R'.h₀,hox,c4,hE false x s' ⟨I',ρ,σ₁,s',dd,l,q,R',k',F.step k',rfl⟩⟩
theorem EX1E.for_ (Ok : Φ.Ok) {target iter : Expr} {body : List Stmt} {pos : Pos} {Q : QX} (hs : ∀ x,foldedSetIterable iter Φ.env x = pure x)
  (h : IT prog w C Φ target iter ρ σ fun n bind σ'=>∃ J : Nat→List (Option V)→St→Prop,J 0 ρ σ' ∧
   (∀ k ρ₁ σ₁,k < n→J k ρ₁ σ₁→EXE prog w C N Φ outer body (bind k ρ₁) σ₁ (fun f ρ₂ σ₂=>match f with
    | .next | .cont=>J (k + 1) ρ₂ σ₂
    | .brk=>Q .next ρ₂ σ₂
    | .ret v=>Q (.ret v) ρ₂ σ₂) QE)∧∀ ρ₁ σ₁,J n ρ₁ σ₁→Q .next ρ₁ σ₁) : EX1E prog w C N Φ outer (.For target iter body [] pos) ρ σ Q QE:=by
 intro A I s a R F QQ E g hE
 refine wpAny_For (h A I s a R _ E ?_) hs
 rintro n bind σ' I' s' It wr W Stt ⟨J,hJ0,turn,fin⟩ X hst R' k' O' hnew
 refine codeAny_loop' rfl (fun m s₁=>∃ i ρ₁ σ₁ I₁,m = n - i∧i ≤ n∧J i ρ₁ σ₁∧Rel w.params C Φ I₁ ρ₁ σ₁ s₁∧Kp Φ.own I σ I₁ σ₁ s s₁∧Stt i I₁ s₁.heap∧Off Φ wr I₁ σ₁) (fun m s₁ hI=>?_) (n - 0) ⟨0,ρ,σ',I',rfl,Nat.zero_le _,hJ0,R',k'.wider (fun a h=>nomatch h),hst,O'⟩
 obtain ⟨i,ρ₁,σ₁,I₁,rfl,hi,hJ,R₁,k₁,st₁,O₁⟩:=hI
 show wpAny _ A ((forTurn target (.ref It) body [] Φ.env).onRaise (fun x=>do noteFrame x Φ.env;theTreesLotGoes x)) _ _ s₁
 refine wpAny_noted ?_
 by_cases hlt : i < n
 ·have nb:=X.item i I₁ ρ₁ σ₁ s₁ hlt R₁ (fun p h=>nomatch h) st₁ O₁ (fun s₃=>wpAny (model prog w) A (execs body Φ.env) (fun f s₃=>match f with
     | .next | .cont=>∃ i',i + 1 = i'∧∃ ρ₁ σ₁ I₁,J i' ρ₁ σ₁∧Rel w.params C Φ I₁ ρ₁ σ₁ s₃∧Kp Φ.own I σ I₁ σ₁ s s₃∧Stt i' I₁ s₃.heap∧Off Φ wr I₁ σ₁
     | .brk=>QQ .next s₃
     | .ret v=>QQ (.ret v) s₃) (notedBy (model prog w) A Φ.env fun e s'=>cameBackBy (model prog w) A Φ.env E e s') s₃) (notedBy (model prog w) A Φ.env fun e s'=>cameBackBy (model prog w) A Φ.env E e s') ?_
  ·refine wpAny_bind (wpAny_standAt (wpAny_bind (wpAny_onRaise (wpAny_mono nb (fun r s₂ h₂=>?_) fun _ _ h'=>wpAny_standAt h'))))
   cases r with
   | none=>exact h₂.elim
   | some v =>
    refine wpAny_bind (wpAny_mono h₂ (fun _ s₃ h₃=>wpAny_bind (wpAny_mono h₃ (fun _ s₄ h₄=>wpAny_bind (wpAny_mono h₄ (fun f s₅ h₅=>?_) fun _ _ h'=>h')) fun _ _ h'=>h')) fun _ _ h'=>h')
    cases f with
    | next =>
     obtain ⟨_,rfl,ρ₁,σ₁,I₁,z⟩:=h₅
     exact wpAny_pure (.inl ⟨rfl,n - (i + 1),by omega,i + 1,ρ₁,σ₁,I₁,rfl,hlt,z⟩)
    | cont =>
     obtain ⟨_,rfl,ρ₁,σ₁,I₁,z⟩:=h₅
     exact wpAny_pure (.inl ⟨rfl,n - (i + 1),by omega,i + 1,ρ₁,σ₁,I₁,rfl,hlt,z⟩)
    | brk=>exact wpAny_pure h₅
    | ret v=>exact wpAny_pure h₅
  ·intro s₂ R₂ st₂ kk os₂
   have k₂ : Kp Φ.own I σ I₁ σ₁ s s₂:=by
    have off : ∀ b o,s.heap.get? b = some o→b ∉ wr:=fun b o e h=>by replace e:=(hnew b h ..) ▸ e;exact nsm e
    refine ⟨fun b o e h1 h2=>kk b o (off b o e) (fun q=>h2 (X.own b q)) (k₁.keep b o e h1 h2),fun b e=>?_,k₁.new,k₁.im,os₂.trans k₁.os⟩
    by_cases q : b∈Φ.own
    ·obtain ⟨o,ho⟩:=R₂.own_alive q
     refine rr ho ?_;rfl
    ·obtain ⟨o,ho⟩:=Option.isSome_iff_exists.mp e
     obtain ⟨o',ho'⟩:=Option.isSome_iff_exists.mp (k₁.alive b e)
     refine rr (kk b o' (off b o ho) (fun z=>q (X.own b z)) ho' ..) ?_;rfl
   refine turn i ρ₁ σ₁ hlt hJ A I₁ s₂ a R₂ (F.step k₂) _ _ ?_ fun b e s' x=>(x.after R₂ k₂).noted Ok a.fr fun b s'' x'=>hE b e s'' x'
   intro f ρ₃ σ₃ I₃ s₃ fl q₃ hf R₃ k₃
   have k₃':=k₂.trans k₃ R₂.apartI
   have O₃ : Off Φ wr I₃ σ₃:=by
    have key : ∀ b∈wr,¬ ((I₃ b).isSome = true ∨ b∈keys σ₃):=fun b hb q=>by
     rcases k₃.new b q with z | z | z
     ·replace z:=(O₁.i b hb ..) ▸ z;exact ftm z
     ·exact O₁.k b hb z
     ·have:=X.alive _ _ _ st₂ b hb
      replace this:=z ▸ this;exact ftm this
    refine ⟨fun b hb=>?_,fun b hb q=>key b hb (.inr q),O₁.o⟩
    cases q : I₃ b with
    | none=>rfl
    | some o=>exact absurd (.inl (by refine rr q ?_;rfl)) (key b hb)
   have st₃ : Stt (i + 1) I₃ s₃.heap:=X.frame _ _ _ _ _ st₂ (fun b hb o e=>k₃.keep b o e (O₁.k b hb) (O₁.o b hb)) k₃.im R₃.im (fun p h=>nomatch h)
   cases hf with
   | next=>exact ⟨_,rfl,ρ₃,σ₃,I₃,q₃,R₃,k₃',st₃,O₃⟩
   | cont=>exact ⟨_,rfl,ρ₃,σ₃,I₃,q₃,R₃,k₃',st₃,O₃⟩
   | brk=>exact g .next _ _ _ _ _ q₃ .next R₃ k₃'
   | ret hv=>exact g _ _ _ _ _ _ q₃ (.ret hv) R₃ k₃'
 ·haveI hin : i = n:=by omega
  subst hin
  refine wpAny_bind (wpAny_standAt (wpAny_bind (wpAny_onRaise (X.done I₁ ρ₁ σ₁ s₁ R₁ (fun p h=>nomatch h) st₁ O₁ _ _ fun s₂ R₂ kk os₂=>?_))))
  refine wpAny_pure (.inr ⟨rfl,codeAny_block (wpAny_execs_nil ?_)⟩)
  have off : ∀ b o,s.heap.get? b = some o→b ∉ wr:=fun b o e h=>by replace e:=(hnew b h ..) ▸ e;exact nsm e
  refine g .next _ _ _ _ _ (fin ρ₁ σ₁ hJ) .next R₂ ⟨fun b o e h1 h2=>kk b o (off b o e) (k₁.keep b o e h1 h2),fun b e=>?_,k₁.new,k₁.im,os₂.trans k₁.os⟩
  obtain ⟨o,ho⟩:=Option.isSome_iff_exists.mp e
  obtain ⟨o',ho'⟩:=Option.isSome_iff_exists.mp (k₁.alive b e)
  refine rr (kk b o' (off b o ho) ho' ..) ?_;rfl
inductive QFor2E (prog : Program) (w : World) (C N : Addr) (Φ : Fc) (outer : List Env) (i j : Nat) {α : Type} (emb : α→V × V) (body : List Stmt) (ρ : List (Option V)) (Q : QX) (QE : List (Str × V)→St→Prop) (vals : List (V × V)) (σ : St) : Prop
 | mk (xs : List α) (J : List α→List (Option V)→St→Prop) (e : vals = xs.map emb) (h0 : J xs ρ σ) (turn : ∀ x rest ρ₁ σ₁,(x :: rest) <:+ xs→J (x :: rest) ρ₁ σ₁→EXE prog w C N Φ outer body ((ρ₁.set i (some (emb x).1)).set j (some (emb x).2)) σ₁ (kLoop (J rest) Q) QE) (fin : ∀ ρ₁ σ₁,J [] ρ₁ σ₁→Q .next ρ₁ σ₁)
theorem EX1E.for2 (Ok : Φ.Ok) (hh : Φ.hd = none) {x y : Str} {px py pt : Pos} {kt : Nat} {i j : Nat} {o o' : Option Addr} (hi : Φ.slots[i]? = some (x,o)) (hs : o = none ∨ Φ.env.kindOf x = some .cell) (hj : Φ.slots[j]? = some (y,o')) (hs' : o' = none ∨ Φ.env.kindOf y = some .cell)
  {iter : Expr} {body : List Stmt} {pos : Pos} {Q : QX}
  (hfs : ∀ x,foldedSetIterable iter Φ.env x = Pure.pure x) {α : Type} (emb : α→V × V)
  (h : IE2 prog w C Φ iter ρ σ (QFor2E prog w C N Φ outer i j emb body ρ Q QE)) : EX1E prog w C N Φ outer (.For (.Tuple [.Name x px,.Name y py] kt pt) iter body [] pos) ρ σ Q QE:=by
 refine EX1E.for_ Ok hfs (IT.two Ok hh hi hs hj hs' fun A I s a R QQ E g=>h A I s a R QQ E fun vals σ' I' s' It hid St ⟨xs,J,hv,hJ,turn,fin⟩=>g vals σ' I' s' It hid St ?_)
 subst hv
 refine ⟨fun k ρ₁ σ₁=>J (xs.drop k) ρ₁ σ₁,hJ,fun k ρ₁ σ₁ hk hJ=>?_,fun ρ₁ σ₁ hJ=>fin _ _ (by simpa using hJ)⟩
 have hk' : k < xs.length:=by simpa using hk
 replace hJ : J (xs.drop k) ρ₁ σ₁:=hJ
 replace hJ:=(List.drop_eq_getElem_cons hk' ..) ▸ hJ
 haveI e : (xs.map emb)[k]? = some (emb xs[k]):=by refine rr (List.getElem?_map ..) ?_;refine rr (List.getElem?_eq_getElem hk' ..) ?_;rfl
 show EXE _ _ _ _ _ _ _ ((ρ₁.set i ((xs.map emb)[k]?.map (·.1))).set j ((xs.map emb)[k]?.map (·.2))) _ _ _
 refine rr e ?_
 exact turn xs[k] _ ρ₁ σ₁ (by refine rl (List.drop_eq_getElem_cons hk' ..) ?_;exact List.drop_suffix _ _) hJ
end
section
variable {N : Addr} {QE : List (Str × V)→St→Prop}
noncomputable def FnBodyE (prog : Program) (w : World) (C N : Addr) (Φ : Fc) (d : Fn) (vs : List V) (σ : St) (Q : QV) (QE : List (Str × V)→St→Prop) : Prop :=
 ∀ L f cdv,EXE prog w C N (Φ.enter d L f cdv) (Φ.frames.getD []) d.body (vs.map some ++ List.replicate ((slotsOf 0 d.scope.names).length - vs.length) none) σ (fun fl _ σ'=>match fl with
  | .ret v=>Q v σ'
  | _=>Q .none σ') QE
theorem FnBodyE.of {d : Fn} {ps : List Str} (ok : d.ok ps = true) (hl : 2 ≤ Φ.lvl) {vs : List V} {Q : QV} (ρ₀ : List (Option V)) (e : vs.map some ++ List.replicate ((slotsOf 0 d.scope.names).length - vs.length) none = ρ₀)
  (h : ∀ L f cdv,(Φ.enter d L f cdv).Ok→EXE prog w C N (Φ.enter d L f cdv) (Φ.frames.getD []) d.body ρ₀ σ (kBody Q) QE) : FnBodyE prog w C N Φ d vs σ Q QE:=fun L f cdv=>by
 refine rr e ?_
 exact h L f cdv (Fn.enterOk ok hl L f cdv)
inductive Thr (w : World) (C N : Addr) (Φ : Fc) (ρ : List (Option V)) (I : Im) (σ : St) (s : Shared) (QE : List (Str × V)→St→Prop) (e : Addr) (s' : Shared) : Prop
 | mk (I₁ : _) (σ₁ : _) (s₁ : _) (dd : _) (l : _) (T : _) (h' : _) (fr : _) (h0 : QE l σ₁) (h1 : Rel w.params C Φ I₁ ρ (Exs C N e dd l σ₁) s₁) (h2 : Kp [] I σ I₁ (Exs C N e dd l σ₁) s s₁) (h3 : s' = { s₁ with heap:=h' }) (h4 : Nt fr e T .none s₁.heap h') (h5 : Φ.env.locals∈fr) (h6 : (∀ b∈fr,b = Φ.env.locals ∨ s.heap.get? b = none)) (h7 : (∀ b∈fr,I₁ b = none∧b ∉ keys (Exs C N e dd l σ₁))) (h8 : e ∉ fr)
theorem Thr.after {I I' : Im} {σ' : St} {s s' s'' : Shared} {e : Addr} (x : Thr w C N Φ ρ I' σ' s' QE e s'') (R' : Rel w.params C Φ I' ρ σ' s') (k : Kp [] I σ I' σ' s s') : Thr w C N Φ ρ I σ s QE e s'':=by
 obtain ⟨I₁,σ₁,s₁,dd,l,T,h',fr,q,R₁,k₁,e1,x,h1,h2,h3,h4⟩:=x
 exact ⟨I₁,σ₁,s₁,dd,l,T,h',fr,q,R₁,k.trans k₁ R'.apartI,e1,x,h1,fun b hb=>(h2 b hb).imp id fun z=>fresh_back k z,h3,h4⟩
theorem call_fnE (Ok : Φ.Ok) (hfr : Φ.frames = some [Φ.env]) (hme : Φ.env.frame = some Φ.env.locals) {d : Fn} {ps : List Str} (ok : d.ok ps = true) (hl : 2 ≤ Φ.lvl) {mg mb : Str→Option Value} (T : Tx Φ.h₀ mg mb) {f : Addr} {cdv : Value} (hf : FnAt Φ.h₀ f d cdv)
  (hbind : BindOk d ps)
  {A : Around} {I : Im} {s : Shared} (a : AOk Φ A) (R : Rel w.params C Φ I ρ σ s) {xs : List V} {vals : List Value} (hx : VRs C I xs vals) (hlen : xs.length = ps.length) {Q : QV} (h : FnBodyE prog w C N Φ d xs σ Q QE)
  {QQ : Value→Shared→Prop} {E : Value→Shared→Prop} (g : Got w C Φ ρ I σ s Q QQ) (hE : ∀ e s',Thr w C N Φ ρ I σ s QE e s'→E (.ref e) s') : wpAny (model prog w) A (call (.ref f) vals) QQ E s:=by
 refine wpAny_call (enter_fn ok hl T hf hbind a R hx hlen fun s₁ a' R' K₀ hfresh k₁=>?_)
 haveI Ok':=Fn.enterOk (Φ:=Φ) ok hl s.heap.objs.size f cdv
 haveI hlo : Φ.env.locals∈Φ.own:=.head _
 haveI F : Fra (Φ.enter d s.heap.objs.size f cdv) (Φ.frames.getD []) I σ s₁:=by
  refine ⟨by refine rr hfr ?_;show Φ.frames.map _ = _;refine rr hfr ?_;rfl,rfl,fun env he=>?_⟩
  replace he:=hfr ▸ he
  obtain rfl:=List.mem_singleton.mp he
  obtain ⟨m,⟨o,es,ep,ho,hd,_⟩,_⟩:=R.ns
  exact ⟨by refine rr (Ok.kind ..) ?_;decide,_,o,hme,k₁ _ _ ho,(fun vs q=>by replace q:=hd ▸ q;cases q),R.ownI _ hlo,(fun q=>(R.apart _ q).2 hlo),(fun q=>by replace ho:=(hfresh _ q ..) ▸ ho;exact nsm ho)⟩
 refine h s.heap.objs.size f cdv _ I _ a' R' F _ _ (fun fl ρ' σ' I' s' flow q hfl R₂ k₂=>?_) fun b e s' x=>?_
 ·have k₂':=K₀.trans k₂ R'.apartI
  haveI Rb:=R.back R₂ k₂' hfresh rfl
  cases hfl with
  | ret hv=>exact g _ σ' I' s' _ q hv Rb (k₂'.narrow hfresh)
  | next=>exact g .none σ' I' s' .none q .none Rb (k₂'.narrow hfresh)
  | brk=>exact g .none σ' I' s' .none q .none Rb (k₂'.narrow hfresh)
  | cont=>exact g .none σ' I' s' .none q .none Rb (k₂'.narrow hfresh)
 ·refine x.leaves Ok' a'.fr fun I₁ ρ₁ σ₁ s₂ dd l T h' q R₂ k₂ F₂ x₂=>hE e _ ?_
  haveI k₂':=K₀.trans k₂ R'.apartI
  haveI Rb:=R.back R₂ k₂' hfresh rfl
  refine ⟨I₁,σ₁,s₂,dd,l,T,h',_,q,Rb,k₂'.narrow hfresh,rfl,x₂,?_,fun b hb=>?_,F₂.apart R₂,?_⟩
  ·refine rr hfr ?_
   exact List.mem_filterMap.mpr ⟨Φ.env,.tail _ (.head _),hme⟩
  ·replace hb:=hfr ▸ hb
   obtain ⟨env,he,hf'⟩:=List.mem_filterMap.mp hb
   rcases List.mem_cons.mp he with rfl | he
   ·right
    refine hfresh b ?_
    haveI : b = s.heap.objs.size:=(Option.some.inj hf').symm
    refine rr this ?_
    exact .head _
   ·obtain rfl:=List.mem_singleton.mp he
    replace hf':=hme ▸ hf'
    exact .inl (Option.some.inj hf').symm
  ·obtain ⟨oe,he,c1,c2,fs,c3,c4⟩:=R₂.cell e _ (.head _)
   exact fields_ne (F₂.ff Ok' R₂) he c3
end
section
variable {N : Addr} {QE : List (Str × V)→St→Prop}
theorem Rel.noted {P : Params} {I : Im} {s₁ : Shared} {h' : Heap} {fr : List Addr} {e T dd : Addr} {fl : Value} {l : List (Str × V)} {σ₁ : St} (R : Rel P C Φ I ρ (Exs C N e dd l σ₁) s₁) (x : Nt fr e T fl s₁.heap h') (hfr : ∀ b∈fr,I b = none∧b ∉ keys (Exs C N e dd l σ₁)) :
  Rel P C Φ I ρ ((e,.raw (ExcP N dd)) :: (dd,.raw (NagT C l)) :: σ₁) { s₁ with heap:=h' }:=by
 haveI ek : e∈keys (Exs C N e dd l σ₁):=.head _
 have dat : ∀ b o,b ≠ e→s₁.heap.get? b = some o→∃ o',h'.get? b = some o'∧o'.data = o.data:=fun b o hb ho=>by
  by_cases z : b∈fr
  ·obtain ⟨sl,q⟩:=x.slots b o ho z
   exact ⟨_,q,rfl⟩
  ·exact ⟨o,x.keep b o ho z hb,rfl⟩
 have own_ne : ∀ b∈Φ.own,b ≠ e:=fun b hb q=>(R.apart e ek).2 (q ▸ hb)
 refine ⟨fun b o hb=>?_,R.base,fun b c hb=>?_,R.apart,R.nodup,R.ownI,?_,fun i y c hi=>?_,R.gens⟩
 ·refine x.keep b o (R.im b o hb) (fun z=>?_) fun z=>?_
  ·replace hb:=((hfr b z).1 ..) ▸ hb;exact nsm hb
  ·have:=R.apartI e ek
   replace this:=z.symm ▸ this;replace this:=hb ▸ this
   exact snm this
 ·rcases List.mem_cons.mp hb with q | q
  ·cases q
   obtain ⟨oe,he,c1,c2,fs,c3,c4⟩:=R.cell e _ (.head _)
   obtain ⟨oe',vs,vs',a1,a2,a3,a4⟩:=x.ex
   replace a1:=he ▸ a1
   obtain rfl:=si a1
   exact ⟨_,a3,c1,c2,_,rfl⟩
  ·obtain ⟨o,ho,hc⟩:=R.cell b c (.tail _ q)
   have hbk : b∈keys ((dd,.raw (NagT C l)) :: σ₁):=List.mem_map.mpr ⟨_,q,rfl⟩
   haveI hbe : b ≠ e:=fun z=>(List.nodup_cons.mp R.nodup).1 (z ▸ hbk)
   exact ⟨o,x.keep b o ho (fun z=>(hfr b z).2 (.tail _ hbk)) hbe,hc⟩
 ·obtain ⟨m,⟨o,es,ep,ho,hd,r⟩,h⟩:=R.ns
  obtain ⟨o',ho',hd'⟩:=dat _ o (own_ne _ (.head _)) ho
  exact ⟨m,⟨o',es,ep,ho',hd'.trans hd,r⟩,h⟩
 ·obtain ⟨u,⟨o,ho,hd⟩,h⟩:=R.cells i y c hi
  obtain ⟨o',ho',hd'⟩:=dat _ o (own_ne _ (.tail _ (filterMap_idx hi))) ho
  exact ⟨u,⟨o',ho',hd'.trans hd⟩,h⟩
theorem Kp.noted {I I₁ : Im} {s s₁ : Shared} {h' : Heap} {fr : List Addr} {e T dd : Addr} {fl : Value} {l : List (Str × V)} {σ₁ : St} (k : Kp [] I σ I₁ (Exs C N e dd l σ₁) s s₁) (hI : I₁ e = none) (x : Nt fr e T fl s₁.heap h') (hlo : Φ.env.locals∈Φ.own)
  (hfr : ∀ b∈fr,b = Φ.env.locals ∨ s.heap.get? b = none) : Kp Φ.own I σ I₁ ((e,.raw (ExcP N dd)) :: (dd,.raw (NagT C l)) :: σ₁) s { s₁ with heap:=h' }:=by
 refine ⟨fun b o ho hk hw=>?_,fun b ho=>?_,k.new,k.im,k.os⟩
 ·refine x.keep b o (k.keep b o ho hk (fun z=>nomatch z)) (fun z=>?_) fun z=>?_
  ·rcases hfr b z with q | q
   ·exact hw (q ▸ hlo)
   ·replace q:=ho ▸ q;exact snm q
  ·subst z
   rcases k.new b (.inr (.head _)) with q | q | q
   ·obtain ⟨o',ho'⟩:=Option.isSome_iff_exists.mp q
    replace hI:=(k.im b o' ho' ..) ▸ hI
    exact snm hI
   ·exact hk q
   ·replace q:=ho ▸ q;exact snm q
 ·obtain ⟨o,ho'⟩:=Option.isSome_iff_exists.mp (k.alive b ho)
  obtain ⟨o',ho''⟩:=x.alive ho'
  refine rr ho'' ?_;rfl
theorem unbind_slot (Ok : Φ.Ok) {A : Around} {I : Im} {s : Shared} {x : Str} {i : Nat} {v : V} (hi : Φ.slots[i]? = some (x,none)) (hv : ρ[i]? = some (some v)) (R : Rel w.params C Φ I ρ σ s) {Q : Unit→Shared→Prop} {E : Value→Shared→Prop}
  (h : ∀ s',Rel w.params C Φ I (ρ.set i none) σ s'→Kp [Φ.env.locals] I σ I σ s s'→Q () s') : wpAny (model prog w) A (unbindName Φ.env x) Q E s:=by
 obtain ⟨m,hn,hq⟩:=R.ns
 obtain ⟨val,hval,hr⟩:=hq i x v hi hv
 haveI hm:=List.mem_of_getElem? hi
 refine wpAny_unbindName_local (Ok.loc x hm) hn hval (by refine rr (Ok.kind ..) ?_;rfl) fun h' u hn' hsb=>?_
 haveI nk : ∀ a∈keys σ,a ≠ Φ.env.locals:=fun a ha q=>(R.apart a ha).2 (q ▸ .head _)
 haveI nI : ∀ b o,I b = some o→b ≠ Φ.env.locals:=fun b o e q=>by
  have:=R.ownI Φ.env.locals (.head _)
  replace e:=q ▸ e;replace this:=e ▸ this;exact snm this
 have nc : ∀ j y c,Φ.slots[j]? = some (y,some c)→c ≠ Φ.env.locals:=fun j y c hj q=>(List.nodup_cons.mp Ok.nd).1 (q ▸ filterMap_idx hj)
 refine h _ ⟨fun b o e=>(hsb.2 b (nI b o e)).trans (R.im b o e),R.base,fun a c ha=>?_,R.apart,R.nodup,R.ownI,⟨_,hn',fun j y w hj hw=>?_⟩,fun j y c hj=>?_,R.gens⟩ ⟨fun b o e _ hw=>(hsb.2 b fun q=>hw (List.mem_singleton.mpr q)).trans e,fun b e=>?_,fun a q=>q.elim .inl fun q=>.inr (.inl q),fun _ _ e=>e,rfl⟩
 ·obtain ⟨o,ho,hc⟩:=R.cell a c ha
  exact ⟨o,(hsb.2 a (nk a (List.mem_map_of_mem ha))).trans ho,hc⟩
 ·by_cases q : i = j
  ·subst q
   replace hw:=(List.getElem?_set_self' ..) ▸ hw
   replace hw:=hv ▸ hw
   simp at hw
  ·replace hw:=(List.getElem?_set_ne q ..) ▸ hw
   obtain ⟨val',e,r⟩:=hq j y w hj hw
   have : y ≠ x:=fun z=>q (slots_inj Ok hi (z ▸ hj))
   exact ⟨val',by simp [this,e],r⟩
 ·obtain ⟨u,⟨o,ho,hd⟩,hq'⟩:=R.cells j y c hj
  refine ⟨u,⟨o,(hsb.2 c (nc j y c hj)).trans ho,hd⟩,fun v' e=>?_⟩
  have : i ≠ j:=fun z=>by replace hj:=z.symm ▸ hj;replace hj:=hi ▸ hj;cases hj
  replace e:=(List.getElem?_set_ne this ..) ▸ e
  exact hq' v' e
 ·by_cases q : b = Φ.env.locals
  ·subst q
   obtain ⟨o,_,_,ho,_⟩:=hn'
   refine rr ho ?_;rfl
  ·refine rr (hsb.2 b q ..) ?_;exact e
noncomputable def Fc.hdl (Φ : Fc) (e : Addr) : Fc:={ Φ with hd:=some (.ref e) }
theorem Rel.hdl {P : Params} {I : Im} {s : Shared} {e : Addr} (R : Rel P C Φ I ρ σ s) : Rel P C (Φ.hdl e) I ρ σ s:=⟨R.im,R.base,R.cell,R.apart,R.nodup,R.ownI,R.ns,R.cells,R.gens⟩
theorem Rel.unhdl {P : Params} {I : Im} {s : Shared} {e : Addr} (R : Rel P C (Φ.hdl e) I ρ σ s) : Rel P C Φ I ρ σ s:=⟨R.im,R.base,R.cell,R.apart,R.nodup,R.ownI,R.ns,R.cells,R.gens⟩
theorem AOk.hdl {A : Around} (a : AOk Φ A) (hh : Φ.hd = none) (e : Addr) : AOk (Φ.hdl e) (A.mark (some (.ref e))):=⟨rfl,a.fr,a.dp,a.un⟩
theorem Fc.Ok.hdl (Ok : Φ.Ok) (e : Addr) : (Φ.hdl e).Ok:=⟨Ok.kind,Ok.nd,Ok.names,Ok.loc,Ok.cel,Ok.debug,Ok.globals,Ok.lv⟩
end
section
variable (prog : Program) (w : World) (C N : Addr)
noncomputable def EVT (Φ : Fc) (e : Expr) (ρ : List (Option V)) (σ : St) (Q : QV) (QE : List (Str × V)→St→Prop) : Prop :=
 ∀ A I s,AOk Φ A→Rel w.params C Φ I ρ σ s→∀ (QQ : Value→Shared→Prop) (E : Value→Shared→Prop),Got w C Φ ρ I σ s Q QQ→(∀ e s',Thr w C N Φ ρ I σ s QE e s'→E (.ref e) s')→wpAny (model prog w) A (eval e Φ.env) QQ E s
end
section
variable {N : Addr} {QE : List (Str × V)→St→Prop}
theorem EVT.callF (Ok : Φ.Ok) (hfr : Φ.frames = some [Φ.env]) (hme : Φ.env.frame = some Φ.env.locals) {mg mb : Str→Option Value} (T : Tx Φ.h₀ mg mb) {d : Fn} {ps : List Str} (ok : d.ok ps = true) (hl : 2 ≤ Φ.lvl) {f : Addr} {cdv : Value} (hf : FnAt Φ.h₀ f d cdv)
  (hbind : BindOk d ps)
  {x : Str} {p pos : Pos} {e : Expr} {args : List Expr} {Q : QV} (hx : Φ.env.kindOf x = some .globalImplicit)
  (hd : (x == ("__debug__" : Str)) = false) (hm : mg x = some (.ref f)) (he : starEach (e :: args) Φ.env = (false,eval e Φ.env) :: starEach args Φ.env)
  (h : EA prog w C Φ pos (e :: args) ρ σ fun xs σ₁=>xs.length = ps.length∧FnBodyE prog w C N Φ d xs σ₁ Q QE) :
  EVT prog w C N Φ (.Call (.Name x p) (e :: args) [] pos) ρ σ Q QE:=by
 intro A I s a R QQ E g hE
 refine Call_Name rfl (load_glob Ok T R hx hd hm ?_)
 obtain ⟨o,doc,pm,an,ct,ho,hdat,hcd⟩:=hf
 refine rr he ?_
 refine Calls.callWith_function (o:=o) (fd:=fnX d.name d.qual d.params d.body d.scope [] .none .none doc pm an cdv ct) (Calls.evalArgs_plain ?_)
 haveI h':=h A I s a R (fun vs s₁=>(s₁.heap.get? f = some o∧o.data = .func (fnX d.name d.qual d.params d.body d.scope [] .none .none doc pm an cdv ct))∧wpAny (model prog w) A (call (.ref f) vs) QQ E s₁) E fun xs σ₁ I₁ s₁ vals q hxs R₁ k₁ =>
  ⟨⟨R₁.h₀ _ _ ho,hdat⟩,call_fnE Ok hfr hme ok hl T ⟨o,doc,pm,an,ct,ho,hdat,hcd⟩ hbind a R₁ hxs q.1 q.2 (g.after R₁ k₁) fun e s' x=>hE e s' (x.after R₁ k₁)⟩
 replace h':=he ▸ h'
 exact h'
theorem EX1.tryAs (Ok : Φ.Ok) (hh : Φ.hd = none) (hfr : Φ.frames = some [Φ.env]) (hme : Φ.env.frame = some Φ.env.locals) {mg mb : Str→Option Value} (T : Tx Φ.h₀ mg mb) {mN : Str→Option Value} (hN : NagC Φ.h₀ N mN)
  {c : Expr} {cp np hp pos : Pos} {x n : Str} {b₀ : Stmt} {suite : List Stmt} {i : Nat} (hi : Φ.slots[i]? = some (n,none)) (hx : Φ.env.kindOf x = some .globalImplicit) (hd : (x == ("__debug__" : Str)) = false) (hg : mg x = some (.ref N))
  (hint : interactive Φ.env = false) (hsw : swapsWith c none cp.line Φ.env = pure false) {Q : QX}
  (h : EVT prog w C N Φ c ρ σ (fun _ σ'=>Q .next ρ σ') (fun l σ₁=>∀ e dd,EX prog w C (Φ.hdl e) (b₀ :: suite) (ρ.set i (some (.ref e))) ((e,.raw (ExcP N dd)) :: (dd,.raw (NagT C l)) :: σ₁) (fun f ρ' σ'=>f = .next∧i < ρ'.length∧Q .next (ρ'.set i none) σ'))) :
  EX1 prog w C Φ (.Try [.Expr c cp] [.ExceptHandler (some (.Name x np)) (some n) (b₀ :: suite) hp] [] [] pos) ρ σ Q:=by
 intro A I s a R QQ E g
 refine wpAny_Try_except (wpAny_execs_cons (wpAny_Expr_any (h A I s a R _ _ ?_ ?_) hint hsw))
 ·intro v σ' I' s' val q hv R' k
  haveI k':=k.wider (W':=Φ.own) fun a h=>nomatch h
  exact EX.nil (Q:=fun f ρ'' σ''=>f = .next∧Q .next ρ'' σ'') ⟨rfl,q⟩ A I' s' a R' _ _ fun f ρ'' σ'' I'' s'' fl z0 hfl R'' k''=>by
   obtain ⟨hf,q'⟩:=z0
   subst hf
   cases hfl
   exact EX.nil (Q:=Q) q' A I'' s'' a R'' QQ E (g.after R'' (k'.trans k'' R'.apartI))
 ·rintro e s' ⟨I₁,σ₁,s₁,dd,l,Tt,h',fr,q,R₁,k₁,e1,nt,hlo,hfresh,hfrI,hefr⟩
  subst e1
  haveI afr : A.frames = some (Φ.env :: []):=a.fr.trans hfr
  haveI ffl : FF s₁.heap (Φ.env :: []):=fun env he=>by
   obtain rfl:=List.mem_singleton.mp he
   obtain ⟨m,⟨o,es,ep,ho,hdt,_⟩,_⟩:=R₁.ns
   exact ⟨by refine rr (Ok.kind ..) ?_;decide,_,o,hme,ho,fun vs q=>by replace q:=hdt ▸ q;cases q⟩
  haveI hsub : ∀ b∈frs (Φ.env :: []),b∈fr:=fun b hb=>by
   obtain ⟨env,he,hf'⟩:=List.mem_filterMap.mp hb
   obtain rfl:=List.mem_singleton.mp he
   replace hf':=hme ▸ hf'
   obtain rfl:=si hf'
   exact hlo
  refine note_next (s:={ s₁ with heap:=h' }) afr ffl hme nt hsub hefr fun h₂ T₂ nt₂=>?_
  refine set_flight (o:=none) (s:={ s₁ with heap:=h₂ }) nt₂ fun h₃ nt₃=>?_
  have Z : ∀ {h' T' fl},Nt fr e T' fl s₁.heap h'→Rel w.params C Φ I₁ ρ ((e,.raw (ExcP N dd)) :: (dd,.raw (NagT C l)) :: σ₁) { s₁ with heap:=h' }∧Kp Φ.own I σ I₁ ((e,.raw (ExcP N dd)) :: (dd,.raw (NagT C l)) :: σ₁) s { s₁ with heap:=h' }:=fun nt =>
   ⟨R₁.noted nt hfrI,k₁.noted (R₁.apartI e (.head _)) nt (.head _) hfresh⟩
  refine wpAny_handleBy_cons (codeAny_handlers_test (load_glob Ok T (Z nt₃).1 hx hd hg ?_)) (by intro q;cases q)
  obtain ⟨nm,qq,Nn,bs,sn,sub,ab,col,ddx,k0,k1,k2,k3,k5,hC,hn⟩:=hN.keeps (Z nt₃).1.h₀
  obtain ⟨oe,hoe,c1,c2,fs,c3⟩:=(Z nt₃).1.cell e _ (.head _)
  refine wpAny_excMatches_sub_self hC hoe c1 (by decide) ?_
  refine codeAny_handlers_suite_as ?_
  refine set_flight (o:=none) (s:={ s₁ with heap:=h₃ }) nt₃ fun h₄ nt₄=>?_
  obtain ⟨R₄,k₄⟩:=Z nt₄
  refine store_slot Ok (s:={ s₁ with heap:=h₄ }) hi (.inl rfl) R₄ (.ref e) fun s₅ R₅ k₅ _=>?_
  haveI k₅':=k₄.trans (k₅.wider (W':=Φ.own) fun b hb=>by
   obtain rfl:=List.mem_singleton.mp hb
   exact .head _) R₄.apartI
  refine q e dd (A.mark (some (.ref e))) I₁ s₅ (a.hdl hh e) R₅.hdl _ _ fun f ρ' σ' I' s₆ fl z0 hfl R₆ k₆=>?_
  obtain ⟨hf,hlen,q'⟩:=z0
  subst hf
  cases hfl
  haveI k₆':=k₅'.trans (W:=Φ.own) k₆ R₅.apartI
  refine wpAny_bind (wpAny_bindName (store_slot Ok hi (.inl rfl) R₆.unhdl .none fun s₇ R₇ k₇ _=>?_))
  haveI k₇':=k₆'.trans (k₇.wider (W':=Φ.own) fun b hb=>by
   obtain rfl:=List.mem_singleton.mp hb
   exact .head _) R₆.apartI
  refine wpAny_onRaise (unbind_slot Ok (v:=.none) hi (by simp [hlen]) R₇ fun s₈ R₈ k₈=>?_)
  haveI k₈':=k₇'.trans (k₈.wider (W':=Φ.own) fun b hb=>by
   obtain rfl:=List.mem_singleton.mp hb
   exact .head _) R₇.apartI
  replace R₈:=(List.set_set ..) ▸ R₈
  exact g .next _ σ' I' s₈ _ q' .next R₈ k₈'
end
section
variable {A : Around} {E : Value→Shared→Prop} {s : Shared}
noncomputable def bar (n : Nat) (L : Addr) : List Addr:=(List.range n).filter (· != L)
theorem mem_bar {n : Nat} {L b : Addr} : b∈bar n L ↔ b < n∧b ≠ L:=by
 unfold bar
 rw [List.mem_filter,List.mem_range]
 simp
theorem gen_list {env : Env} {elt iter : Expr} {x : Str} {px : Pos} {scope : Scope} {cl : List (Str × Addr)} {pos : Pos} {c P l L : Addr} {ps items : Array Value} {mg : Str→Option Value} {bm : Addr} {ob : Obj} {pz : Nat→Bool} {F : Nat→Value→Prop} {Q : Value→Shared→Prop}
  (hcode : env.code = .ref c) (hcd : s.heap.IsCode c P ps) (htab : s.heap.TableAt c P ps) (hnf : codeAmong pos ps.toList = none) (M : BMod s.heap env.globals mg bm ob)
  (hh : A.handled = none) (hco : scope.isCoroutine = false) (hclos : closureFor scope env = pure cl) (hcell : ∀ y∈scope.names,y.2 ≠ .cell) (h0 : scope.names.lookup (".0" : Str) = some NameKind.local)
  (hx : scope.names.lookup x = some .local) (hkind : scope.kind = .function) (hroom : A.depth < recursionLimit) (hs : ∀ x,genFold iter env x = pure x)
  (hv : ∀ (QQ : Value→Shared→Prop) (E : Value→Shared→Prop),QQ (.ref l) s→wpAny (model prog w) A (eval iter env) QQ E s)
  (hl : s.heap.IsList l items) (hlim : s.heap.NoLimit) (hlL : l ≠ L) (hcL : cStatics ≠ L) (hLlt : L < s.heap.objs.size)
  (hq : ∀ (K : Addr) (code : Value) (href : Heap),s.heap.objs.size < K→(∀ b o,b ≠ P→s.heap.get? b = some o→href.get? b = some o) →
   QuietGenD prog w (genEnv scope cl K code builtinsNs env) x [] elt (bar K L) [s.heap.objs.size] (fun i v=>items[i]? = some v) pz F href (A.depth + 1) (A.units + 8))
  (hQ : ∀ (a K g : Addr) (h₅ : Heap) (tk : Nat) (gs : GenState) ,s.heap.objs.size < K→K < a→g = s.gens.size→gs.bare = true→(∀ b o,b ≠ P→s.heap.get? b = some o→h₅.get? b = some o)→(∃ ps',h₅.get? P = some { cls:=.none,data:=.fields ps' })→h₅.objs.size = a + 1 →
   WalksS prog w A.in4 a (a :: K :: bar K L) [K,s.heap.objs.size] (GenOnlyQ g) (passing pz items.size 0).length (fun j y=>∃ i,(passing pz items.size 0)[j]? = some i∧F i y) (GenAt prog w A.in4 a g K (bar K L) [s.heap.objs.size] pz items.size F) →
   GenAt prog w A.in4 a g K (bar K L) [s.heap.objs.size] pz items.size F 0 { s with gens:=s.gens.push gs,toks:=tk,heap:=h₅ }→Q (.ref a) { s with gens:=s.gens.push gs,toks:=tk,heap:=h₅ }) :
  wpAny (model prog w) A (eval (.GeneratorExp elt [⟨.Name x px,iter,[],0⟩] scope pos) env) Q E s:=by
 refine wpAny_GeneratorExp_make hco hclos hcell h0 hkind hroom (hv _ _ ?_) hs
 have hlt : l < s.heap.objs.size:=by obtain ⟨_,e,_⟩:=hl;exact Heap.lt_size e
 have hPlt : P < s.heap.objs.size:=Heap.lt_size htab.2
 have hlP : l ≠ P:=fun e=>by
  obtain ⟨o,ho,hc,_⟩:=hl
  replace ho:=e ▸ ho;replace ho:=(htab.2 ..) ▸ ho;obtain rfl:=si ho;exact absurd hc (by simp)
 have hclt0 : cStatics < s.heap.objs.size:=let ⟨_,hn,_⟩:=hlim;hn.lt
 refine wpAny_pyIter_list hl ⟨hlim.push _,?_⟩
 generalize hio : ({ cls:=.type "list_iterator",data:=.fields #[.ref l,.int 0 0] } : Obj) = io
 haveI k₂ : ∀ b o,s.heap.get? b = some o→(s.heap.push io).get? b = some o:=fun _ _ e=>Heap.get?_push_of_some _ e
 refine wpAny_genexprCodeX (s:={ s with heap:=s.heap.push io }) hcode (hcd.keeps k₂) (htab.push _) hnf fun c' h₃ tk₃ hx₃ hge hltc hcode₃ _ htab₃ _=>?_
 haveI hsz0 : (s.heap.push io).objs.size = s.heap.objs.size + 1:=Heap.size_push ..
 have hsz : s.heap.objs.size < h₃.objs.size:=by
  haveI h1 : (s.heap.push io).objs.size ≤ c':=hge
  replace h1:=hsz0 ▸ h1
  exact Nat.lt_of_lt_of_le (Nat.lt_of_succ_le h1) (Nat.le_of_lt hltc)
 haveI M₃ : BMod h₃ env.globals mg bm ob:=(M.keeps k₂).extBut (htab.push _) hx₃
 haveI hcP : cStatics ≠ P:=fun e=>by
  obtain ⟨_,hns,_⟩:=hlim
  obtain ⟨o,es,ep,ho,hd,_⟩:=hns
  replace ho:=e ▸ ho;replace ho:=(htab.2 ..) ▸ ho;obtain rfl:=si ho;cases hd
 have hl₃ : h₃.NoLimit:=(hlim.push io).extBut hx₃ hcP
 refine wpAny_builtinsFor M₃.ns M₃.name M₃.ne M₃.obj M₃.cls M₃.dict M₃.data ?_
 intro h' hn' hs'
 have hsz' : h'.objs.size = h₃.objs.size + 1:=by refine rr (hs'.1 ..) ?_;refine rr (Heap.size_push ..) ?_;rfl
 haveI keep' : ∀ b o,h₃.get? b = some o→h'.get? b = some o:=fun b o e=>hs'.extBut b o (Nat.ne_of_lt (Heap.lt_size e)) (Heap.get?_push_of_some _ e)
 haveI W₀ : ∀ A' : Around,A'.handled = none→Walks prog w A' s.heap.objs.size [s.heap.objs.size,l] [s.heap.objs.size] items.size (fun i v=>items[i]? = some v) _:=fun A' hA=>Walks.list hA _ _ (Nat.ne_of_lt hlt) items
 have sub0 : ∀ b∈[s.heap.objs.size,l],b∈bar h₃.objs.size L:=fun b hb=>by
  rcases List.mem_cons.mp hb with rfl | hb
  ·exact mem_bar.mpr ⟨hsz,Nat.ne_of_gt hLlt⟩
  ·obtain rfl:=List.mem_singleton.mp hb
   exact mem_bar.mpr ⟨Nat.lt_trans hlt hsz,hlL⟩
 haveI hsub : ∀ b∈[s.heap.objs.size],b∈bar h₃.objs.size L:=fun b hb=>sub0 b ((W₀ A hh).sub b hb)
 have haC : h'.objs.size ≠ h₃.objs.size:=by refine rr hsz' ?_;exact Nat.succ_ne_self _
 haveI haf : h'.objs.size ∉ bar h₃.objs.size L:=fun hm=>Nat.lt_irrefl _ (Nat.lt_trans (Nat.lt_succ_self _) (hsz' ▸ (mem_bar.mp hm).1 : h₃.objs.size + 1 < h₃.objs.size))
 have hclt : cStatics < h₃.objs.size:=let ⟨_,hn,_⟩:=hl₃;hn.lt
 have hcw : cStatics ∉ [s.heap.objs.size]:=fun hm=>by replace hclt0:=(List.mem_singleton.mp hm ..) ▸ hclt0;exact Nat.lt_irrefl _ hclt0
 generalize hgo : ({ cls:=.type "generator",data:=.fields #[.int s.gens.size 0,.str "<genexpr>" (tk₃ + 1),.str (env.qual ++ "<genexpr>") (tk₃ + 1 + 1)] } : Obj) = go
 have keep₅ : ∀ b o,h₃.get? b = some o→(h'.push go).get? b = some o:=fun b o e=>Heap.get?_push_of_some _ (keep' b o e)
 have keepP : ∀ b o,b ≠ P→s.heap.get? b = some o→(h'.push go).get? b = some o:=fun b o hb e=>keep₅ b o (hx₃ b o hb (k₂ b o e))
 have hio2 : io.isFreed = false:=by refine rl hio ?_;rfl
 haveI hgo2 : go.isFreed = false:=by refine rl hgo ?_;rfl
 refine hQ h'.objs.size h₃.objs.size s.gens.size (h'.push go) _ _ hsz (by refine rr hsz' ?_;exact Nat.lt_succ_self _) rfl rfl keepP ⟨_,keep₅ P _ htab₃.2⟩ (by refine rr (Heap.size_push ..) ?_;rfl) (WalksS.genexpQ (A:=A.in4) hh _ _ _ _ [s.heap.objs.size] pz items.size F haC haf hsub hroom (mem_bar.mpr ⟨hclt,hcL⟩) (Nat.ne_of_lt hclt) hcw) ?_
 refine GenAt.freshD (A:=A.in4) (cenv:=genEnv scope cl h₃.objs.size (.ref c') builtinsNs env) (m:=fun y=>if y = ".0" then some (.ref s.heap.objs.size) else none) hh
  (fun A' hA=>(W₀ A' hA).mono_fp sub0) pz F hx (by simp [genEnv,hkind]) hco
  (fun hm=>Nat.lt_irrefl _ (mem_bar.mp hm).1) (hq _ _ _ hsz keepP) ⟨_,_,_,Heap.get?_push_size _ hgo2,(by refine rl hgo ?_;rfl),(by refine rl hgo ?_;rfl),(by refine rl hgo ?_;rfl)⟩ (Array.getElem?_push_size ..) ((W₀ A hh).frame _ _ _ ⟨⟨_,Heap.get?_push_size _ hio2,(by refine rl hio ?_;rfl),(by refine rl hio ?_;rfl)⟩,hl.push _⟩ fun b hb o e=>?_) (hn'.push _) (hl₃.keeps keep₅)
 refine keep₅ b o (hx₃ b o (fun q=>?_) e)
 rcases List.mem_cons.mp hb with z | z
 ·exact absurd (z ▸ q ▸ hPlt) (Nat.lt_irrefl _)
 ·exact hlP ((List.mem_singleton.mp z) ▸ q)
theorem passing_all (n : Nat) : passing (fun _=>true) n 0 = List.range n:=by
 unfold passing
 refine rr (List.drop_zero ..) ?_;refine rr (List.filter_eq_self.mpr fun _ _=>rfl ..) ?_;rfl
theorem gen_join {a K L S g : Addr} {n : Nat} {F : Nat→Value→Prop} (tx : Nat→Str) {sep : Str} {t : Tok} {Q : Value→Shared→Prop}
  (W : WalksS prog w A.in4 a (a :: K :: bar K L) [K,S] (GenOnlyQ g) (passing (fun _=>true) n 0).length (fun j y=>∃ i,(passing (fun _=>true) n 0)[j]? = some i∧F i y) (GenAt prog w A.in4 a g K (bar K L) [S] (fun _=>true) n F))
  (st : GenAt prog w A.in4 a g K (bar K L) [S] (fun _=>true) n F 0 s) (hK : K < a) (ha : a < s.heap.objs.size) (hF : ∀ i y,F i y→∃ u,y = .str (tx i) u) (hok : JoinOk sep ((List.range n).map tx) = true) (hn : n ≤ 1000)
  (q : ∀ s' t' k,Moved [K,S] (GenOnlyQ g) s s'→Q (.str (Txt.join sep ((List.range n).map tx)) t') { s' with toks:=k }) :
  wpAny (model prog w) A (call (.builtin "str.join") [.str sep t,.ref a]) Q E s:=by
 rw [passing_all,List.length_range] at W
 refine SC.joinGen (St:=GenAt prog w A.in4 a g K (bar K L) [S] (fun _=>true) n F) W.in4_2 (fun i s st=>st.1.typeIs) st (fun b hb=>?_) (.head _) (fun j v ⟨i,hi,hv⟩=>let ⟨u,e⟩:=hF i v hv;⟨_,u,e⟩) (fun s' lt hm hacc=>?_) (Nat.le_trans hn (sl 1000 (by decide)))
 ·rcases List.mem_cons.mp hb with rfl | hb
  ·exact ha
  ·rcases List.mem_cons.mp hb with rfl | hb
   ·exact Nat.lt_trans hK ha
   ·exact Nat.lt_trans (mem_bar.mp hb).1 (Nat.lt_trans hK ha)
 ·haveI hl : lt.map (·.1) = (List.range n).map tx:=by
   apply List.ext_getElem?
   intro j
   haveI hsz : lt.length = n:=by simpa [strValues] using hacc.1
   by_cases hj : j < n
   ·have hj' : j < lt.length:=hsz ▸ hj
    obtain ⟨i,hi,hv⟩:=hacc.2 j (.str lt[j].1 lt[j].2) (by simp [strValues,List.getElem?_eq_getElem hj'])
    haveI hij : i = j:=by
     replace hi:=(List.getElem?_range hj ..) ▸ hi
     exact (Option.some.inj hi).symm
    subst hij
    obtain ⟨u,hv⟩:=hF _ _ hv
    injection hv with h1 _
    simp [List.getElem?_eq_getElem hj',hj,h1]
   ·refine rr (List.getElem?_eq_none (by simpa [hsz] using Nat.le_of_not_lt hj) ..) ?_;refine rr (List.getElem?_eq_none (by simpa using Nat.le_of_not_lt hj) ..) ?_;rfl
  refine rr hl ?_
  exact ⟨hok,fun t' k=>q s' t' k hm⟩
end
section
theorem Rel.perm {P : Params} {I : Im} {s : Shared} {σ' : St} (R : Rel P C Φ I ρ σ s) (h : σ.Perm σ') : Rel P C Φ I ρ σ' s:=by
 haveI hk : (keys σ).Perm (keys σ'):=h.map _
 exact ⟨R.im,R.base,fun a c m=>R.cell a c (h.mem_iff.mpr m),fun a m=>R.apart a (hk.mem_iff.mpr m),hk.nodup_iff.mp R.nodup,R.ownI,R.ns,R.cells,R.gens⟩
theorem Kp.permR {W : List Addr} {I I' : Im} {σ₁ σ₂ : St} {s s' : Shared} (k : Kp W I σ I' σ₁ s s') (h : σ₁.Perm σ₂) : Kp W I σ I' σ₂ s s':=by
 have hk : (keys σ₁).Perm (keys σ₂):=h.map _
 exact ⟨k.keep,k.alive,fun a q=>k.new a (q.imp id hk.mem_iff.mpr),k.im,k.os⟩
theorem Kp.permL {W : List Addr} {I I' : Im} {σ₁ σ₂ σ' : St} {s s' : Shared} (k : Kp W I σ₁ I' σ' s s') (h : σ₁.Perm σ₂) : Kp W I σ₂ I' σ' s s':=by
 haveI hk : (keys σ₁).Perm (keys σ₂):=h.map _
 exact ⟨fun b o e n=>k.keep b o e fun q=>n (hk.mem_iff.mp q),k.alive,fun a q=>(k.new a q).imp id fun z=>z.imp hk.mem_iff.mp id,k.im,k.os⟩
theorem EV.perm {e : Expr} {Q : QV} (h : EV prog w C Φ e ρ σ fun v σ'=>∃ σ'',σ'.Perm σ''∧Q v σ'') : EV prog w C Φ e ρ σ Q:=by
 intro A I s a R QQ E g
 exact h A I s a R QQ E fun v σ' I' s' val ⟨σ'',p,q⟩ hv R' k=>g v σ'' I' s' val q hv (R'.perm p) (k.permR p)
theorem EX.reorder {ss : List Stmt} {Q : QX} {σ' : St} (p : σ.Perm σ') (h : EX prog w C Φ ss ρ σ' Q) : EX prog w C Φ ss ρ σ Q:=by
 intro A I s a R QQ E g
 exact h A I s a (R.perm p) QQ E fun f ρ' σ'' I' s' fl q hf R' k=>g f ρ' σ'' I' s' fl q hf R' (k.permL p.symm)
noncomputable def CallJ (prog : Program) (w : World) (C : Addr) (Φ : Fc) (ρ : List (Option V)) (f : Addr) (xs : List V) (σ : St) (Q : QV) : Prop :=
 ∀ (A : Around) (I : Im) (s : Shared) (vals : List Value) (QQ : Value→Shared→Prop) (E : Value→Shared→Prop),AOk Φ A→Rel w.params C Φ I ρ σ s→VRs C I xs vals→Got w C Φ ρ I σ s Q QQ→wpAny (model prog w) A (call (.ref f) vals) QQ E s
noncomputable abbrev kCallJ (prog : Program) (w : World) (C : Addr) (Φ : Fc) (ρ : List (Option V)) (f : Addr) (Q : QV) : List V→St→Prop:=fun xs σ₁=>CallJ prog w C Φ ρ f xs σ₁ Q
theorem EV.callJ (Ok : Φ.Ok) {mg mb : Str→Option Value} (T : Tx Φ.h₀ mg mb) {d : Fn} {f : Addr} {cdv : Value} (hf : FnAt Φ.h₀ f d cdv) {x : Str} {p pos : Pos} {e : Expr} {args : List Expr} {Q : QV} (hx : Φ.env.kindOf x = some .globalImplicit)
  (hd : (x == ("__debug__" : Str)) = false) (hm : mg x = some (.ref f)) (he : starEach (e :: args) Φ.env = (false,eval e Φ.env) :: starEach args Φ.env)
  (h : EA prog w C Φ pos (e :: args) ρ σ (kCallJ prog w C Φ ρ f Q)) :
  EV prog w C Φ (.Call (.Name x p) (e :: args) [] pos) ρ σ Q:=by
 intro A I s a R QQ E g
 refine Call_Name rfl (load_glob Ok T R hx hd hm ?_)
 obtain ⟨o,doc,pm,an,ct,ho,hdat,hcd⟩:=hf
 refine rr he ?_
 refine Calls.callWith_function (o:=o) (fd:=fnX d.name d.qual d.params d.body d.scope [] .none .none doc pm an cdv ct) (Calls.evalArgs_plain ?_)
 haveI h':=h A I s a R (fun vs s₁=>(s₁.heap.get? f = some o∧o.data = .func (fnX d.name d.qual d.params d.body d.scope [] .none .none doc pm an cdv ct))∧wpAny (model prog w) A (call (.ref f) vs) QQ E s₁) E fun xs σ₁ I₁ s₁ vals q hxs R₁ k₁ =>
  ⟨⟨R₁.h₀ _ _ ho,hdat⟩,q A I₁ s₁ vals QQ E a R₁ hxs (g.after R₁ k₁)⟩
 replace h':=he ▸ h'
 exact h'
end
theorem hashStr_params {w w' : World} (h : w'.params = w.params) (x : Str) : hashStr w' x = hashStr w x:=by unfold hashStr;refine rr h ?_;rfl
theorem DctOf.to {prog : Program} {w : World} {o : Obj} {kvs : List (Str × Value)} (h : DctOf w.params o kvs) : o.IsDictOf (strKind prog w) kvs:=by
 obtain ⟨prog',w',e,es,ep,hx,hd,hk,hp,hn⟩:=h
 refine ⟨es,ep,hx,hd,fun x hx=>?_,?_,hn⟩
 ·obtain ⟨k,h1,h2⟩:=hk x hx
  exact ⟨k,h1,h2.trans (hashStr_params e k)⟩
 ·generalize es.toList = l at hp
  clear hn hk hd
  induction hp with
  | nil=>exact .nil
  | cons h1 h2 _ ih=>exact .cons h1 h2 ih
theorem DctOf.of {prog : Program} {w : World} {o : Obj} {kvs : List (Str × Value)} (h : o.IsDictOf (strKind prog w) kvs) : DctOf w.params o kvs:=⟨prog,w,rfl,h⟩
noncomputable def dval (es : List (List Nat × V)) (k : List Nat) : Option V:=es.lookup k
noncomputable def dput (es : List (List Nat × V)) (k : List Nat) (v : V) : List (List Nat × V):=if (es.any fun p=>p.1 == k) then es.map fun p=>if p.1 = k then (p.1,v) else p else es ++ [(k,v)]
theorem mkS_iff {a b : List Nat} : mkS a = mkS b ↔ a = b:=by
 constructor
 ·intro h
  have:=congrArg (fun s : Str=>s.cps.toList) h
  simpa [mkS] using this
 ·exact fun h=>by refine rr h ?_;rfl
section
variable {I : Im}
theorem pairs_val {es : List (List Nat × V)} : ∀ {kvs : List (Str × Value)},kvs.map (·.1) = es.map (fun p=>(⟨p.1.toArray⟩ : Str))→VRs C I (es.map (·.2)) (kvs.map (·.2))→∀ {k : List Nat} {v : V},dval es k = some v→∃ val,valueAt kvs (mkS k) = some val∧VR C I v val:=by
 induction es with
 | nil=>intro kvs _ _ k v h;exact nsm h
 | cons p r ih =>
  intro kvs hk hv k v h
  cases kvs with
  | nil=>cases hk
  | cons q t =>
   simp only [List.map_cons,List.cons.injEq] at hk
   obtain ⟨val,us,e,h1,h2⟩:=(show VRs C I (p.2 :: r.map (·.2)) (q.2 :: t.map (·.2)) from hv).cons_inv
   simp only [List.cons.injEq] at e
   obtain ⟨e1,e2⟩:=e
   unfold dval at h
   rw [List.lookup_cons] at h
   unfold valueAt
   refine rr (List.find?_cons ..) ?_
   by_cases z : k = p.1
   ·have hb : (k == p.1) = true:=by simp [z]
    replace h:=hb ▸ h
    obtain rfl:=si h
    haveI hd : decide (q.1 = mkS k) = true:=by refine rr (hk.1 ..) ?_;refine rr z ?_;exact decide_eq_true rfl
    refine rr hd ?_
    exact ⟨q.2,rfl,e1 ▸ h1⟩
   ·have hb : (k == p.1) = false:=by simp [z]
    replace h:=hb ▸ h
    have hd : decide (q.1 = mkS k) = false:=by
     refine rr (hk.1 ..) ?_
     exact decide_eq_false fun z'=>z (mkS_iff.mp z').symm
    refine rr hd ?_
    exact ih hk.2 (e2 ▸ h2) h
theorem any_same {es : List (List Nat × V)} : ∀ {kvs : List (Str × Value)},kvs.map (·.1) = es.map (fun p=>(⟨p.1.toArray⟩ : Str))→∀ k : List Nat,(kvs.any fun kv=>decide (kv.1 = mkS k)) = es.any fun p=>p.1 == k:=by
 induction es with
 | nil=>intro kvs h k;cases kvs with | nil=>rfl | cons _ _=>cases h
 | cons p r ih =>
  intro kvs hk k
  cases kvs with
  | nil=>cases hk
  | cons q t =>
   simp only [List.map_cons,List.cons.injEq] at hk
   refine rr (List.any_cons ..) ?_;refine rr (List.any_cons ..) ?_;refine rr (ih hk.2 k ..) ?_
   congr 1
   by_cases z : p.1 = k
   ·rw [show (p.1 == k) = true from by simp [z],hk.1,z]
    exact decide_eq_true rfl
   ·rw [show (p.1 == k) = false from by simp [z],hk.1]
    exact decide_eq_false fun z'=>z (mkS_iff.mp z')
theorem pairs_put {es : List (List Nat × V)} {kvs : List (Str × Value)} (hk : kvs.map (·.1) = es.map (fun p=>(⟨p.1.toArray⟩ : Str))) (hv : VRs C I (es.map (·.2)) (kvs.map (·.2))) {k : List Nat} {v : V} {val : Value} (h : VR C I v val) :
  (stored kvs (mkS k) val).map (·.1) = (dput es k v).map (fun p=>(⟨p.1.toArray⟩ : Str))∧VRs C I ((dput es k v).map (·.2)) ((stored kvs (mkS k) val).map (·.2)):=by
 unfold stored dput
 refine rr (any_same hk k ..) ?_
 cases es.any fun p=>p.1 == k with
 | true =>
  simp only [if_true]
  induction es generalizing kvs with
  | nil=>cases kvs with | nil=>exact ⟨rfl,.nil⟩ | cons _ _=>cases hk
  | cons p r ih =>
   cases kvs with
   | nil=>cases hk
   | cons q t =>
    simp only [List.map_cons,List.cons.injEq] at hk
    obtain ⟨u,us,e,h1,h2⟩:=(show VRs C I (p.2 :: r.map (·.2)) (q.2 :: t.map (·.2)) from hv).cons_inv
    simp only [List.cons.injEq] at e
    obtain ⟨e1,e2⟩:=e
    obtain ⟨i1,i2⟩:=ih hk.2 (e2 ▸ h2)
    simp only [List.map_cons]
    by_cases z : p.1 = k
    ·have zq : q.1 = mkS k:=by refine rr (hk.1 ..) ?_;refine rr z ?_;rfl
     refine rr (if_pos z ..) ?_;refine rr (if_pos zq ..) ?_
     exact ⟨by refine rr i1 ?_;refine rr (hk.1 ..) ?_;rfl,.cons h i2⟩
    ·have zq : ¬ q.1 = mkS k:=fun z'=>z (mkS_iff.mp (hk.1.symm.trans z'))
     refine rr (if_neg z ..) ?_;refine rr (if_neg zq ..) ?_
     exact ⟨by refine rr i1 ?_;refine rr (hk.1 ..) ?_;rfl,.cons (e1 ▸ h1) i2⟩
 | false =>
  simp only [Bool.false_eq_true,if_false,List.map_append,List.map_cons,List.map_nil]
  exact ⟨by refine rr hk ?_;rfl,hv.append (.one h)⟩
end
section
variable {Q : QV}
theorem EV.dict0 {pos : Pos} (q : ∀ a,Q (.ref a) ((a,.dct []) :: σ)) : EV prog w C Φ (.Dict [] [] pos) ρ σ Q:=by
 intro A I s a R QQ E g
 refine wpAny_Dict_empty ?_
 haveI hD : ({ cls:=.type "dict",data:=.dict #[] } : Obj).IsDictOf (strKind prog w) []:=by
  obtain ⟨o,ho,hd⟩:=Heap.dictOf_iff.mp (Heap.DictOf.new (knd:=strKind prog w) s.heap)
  rw [Heap.get?_push_size _ (by rfl)] at ho
  obtain rfl:=si ho
  exact hd
 exact g.new (c:=.dct []) (tk:=s.toks) R ⟨[],DctOf.of hD,rfl,.nil⟩ rfl q
theorem GI.dct {a : Addr} {es : List (List Nat × V)} {k : List Nat} {v : V} (hm : (a,.dct es)∈σ) (hv : dval es k = some v) (q : Q v σ) : GI prog w C Φ ρ σ (.ref a) (.str k) Q:=by
 intro A I s vx vy ak R hx hy QQ E g
 obtain ⟨_,rfl⟩:=hx.inv
 obtain ⟨_,rfl⟩:=hy.inv
 obtain ⟨o,ho,kvs,hd,h1,h2⟩:=R.cell a _ hm
 obtain ⟨val,hval,hr⟩:=pairs_val h1 h2 hv
 exact wpAny_getItem_of (strKind_is prog w _ _) (Heap.dictOf_iff.mpr ⟨o,ho,DctOf.to hd⟩ : s.heap.DictOf (strKind prog w) a kvs).mapOf hval (g.toks R hr q)
theorem SI.dct {a : Addr} {es : List (List Nat × V)} {k : List Nat} {v : V} {i : Nat} {Q : St→Prop} (hi : σ[i]? = some (a,.dct es)) (hz : es.length ≤ 1000000) (q : Q (σ.set i (a,.dct (dput es k v)))) : SI prog w C Φ ρ σ (.ref a) (.str k) v Q:=by
 intro A I s vx vy val ak R hx hy hv QQ E g
 obtain ⟨_,rfl⟩:=hx.inv
 obtain ⟨_,rfl⟩:=hy.inv
 obtain ⟨o,ho,kvs,hd,h1,h2⟩:=R.cell a _ (List.mem_of_getElem? hi)
 have hl : kvs.length = es.length:=by simpa using congrArg List.length h1
 refine wpAny_setItem_pairs (strKind_is prog w _ _) (Heap.dictOf_iff.mpr ⟨o,ho,DctOf.to hd⟩) (fun h' hmm hs=>?_) (by refine rr hl ?_;exact sl _ hz)
 obtain ⟨o',ho',hd'⟩:=Heap.dictOf_iff.mp hmm
 obtain ⟨p1,p2⟩:=pairs_put (C:=C) (I:=I) h1 h2 (k:=k) hv
 obtain ⟨R',k'⟩:=R.set hi hs ho' (c':=.dct (dput es k v)) (tk:=s.toks + 1) ⟨_,DctOf.of hd',p1,p2⟩
 exact g _ I _ q R' k'
theorem BJ.setdefault {a : Addr} {es : List (List Nat × V)} {k : List Nat} {v d : V} (hm : (a,.dct es)∈σ) (hv : dval es k = some v) (hz : es.length ≤ 1000000) (hsm : ∃ o,Φ.h₀.get? sysModules = some o) (q : Q v σ) : BJ prog w C Φ ρ σ "dict.setdefault" [.ref a,.str k,d] Q:=by
 intro A I s vals ak R hx QQ E g
 obtain ⟨u1,u2,u3,rfl,h1,h2,h3⟩:=hx.inv3
 obtain ⟨_,rfl⟩:=h1.inv
 obtain ⟨_,rfl⟩:=h2.inv
 obtain ⟨o,ho,kvs,hd,h1,h2⟩:=R.cell a _ hm
 obtain ⟨val,hval,hr⟩:=pairs_val h1 h2 hv
 haveI hl : kvs.length = es.length:=by simpa using congrArg List.length h1
 haveI hD : s.heap.DictOf (strKind prog w) a kvs:=Heap.dictOf_iff.mpr ⟨o,ho,DctOf.to hd⟩
 haveI lo : (a == sysModules) = false:=beq_eq_false_iff_ne.mpr fun z=>by
  obtain ⟨om,hom⟩:=hsm
  haveI e1:=R.base _ _ hom
  haveI e2:=R.apartI a (List.mem_map.mpr ⟨_,hm,rfl⟩)
  replace e2:=z ▸ e2;replace e2:=e1 ▸ e2
  exact snm e2
 exact call_meetsIn PySem.F.slot_dict_setdefault hD.typeIs PySem.F.entry_dict_setdefault (PySem.F.args_dict_setdefault_3 _ _ _) (kt_meets_setdefault (strKind prog w) a (strKind_is prog w _ _) lo u3) ⟨kvs,hD,by refine rr hl ?_;exact sl _ hz,(fun v' hv'=>by replace hv':=hval ▸ hv';obtain rfl:=si hv';exact g.toks R hr q),fun hn=>by replace hn:=hval ▸ hn;exact snm hn⟩
end
noncomputable def frd : Obj:={ cls:=.none,data:=.freed }
noncomputable def hput (h : Heap) (a : Addr) (o : Obj) : Heap:={ h with objs:=(h.objs ++ Array.replicate (a + 1 - h.objs.size) frd).setIfInBounds a o }
theorem get_raw {h : Heap} {a : Addr} : h.get? a = match h.objs[a]? with
 | some ⟨_,_,.freed,_⟩=>none
 | o=>o:=rfl
theorem get_hput_objs (l : Array Obj) (a b : Nat) (o : Obj) : ((l ++ Array.replicate (a + 1 - l.size) frd).setIfInBounds a o)[b]? = if b = a then some o else if b < l.size then l[b]? else if b < a + 1 then some frd else none:=by
 by_cases z : b = a
 ·subst z
  haveI hlt : b < (l ++ Array.replicate (b + 1 - l.size) frd).size:=by simp;omega
  refine rr (Array.getElem?_setIfInBounds_self_of_lt hlt ..) ?_;refine rr (if_pos rfl ..) ?_;rfl
 ·refine rr (Array.getElem?_setIfInBounds_ne (fun q=>z q.symm) ..) ?_;refine rr (if_neg z ..) ?_
  by_cases hb : b < l.size
  ·refine rr (Array.getElem?_append_left hb ..) ?_;refine rr (if_pos hb ..) ?_;rfl
  ·refine rr (Array.getElem?_append_right (Nat.le_of_not_lt hb) ..) ?_;refine rr (if_neg hb ..) ?_
   by_cases hr : b < a + 1
   ·refine rr (if_pos hr ..) ?_;refine rr (Array.getElem?_replicate ..) ?_;refine rr (if_pos (by omega) ..) ?_;rfl
   ·refine rr (if_neg hr ..) ?_;refine rr (Array.getElem?_replicate ..) ?_;refine rr (if_neg (by omega) ..) ?_;rfl
theorem get_hput {h : Heap} {a : Addr} {o : Obj} (hf : o.isFreed = false) (b : Addr) : (hput h a o).get? b = if b = a then some o else h.get? b:=by
 refine rr get_raw ?_;refine rr get_raw ?_
 haveI hobj : (hput h a o).objs[b]? = if b = a then some o else if b < h.objs.size then h.objs[b]? else if b < a + 1 then some frd else none:=get_hput_objs h.objs a b o
 refine rr hobj ?_
 by_cases z : b = a
 ·refine rr (if_pos z ..) ?_;refine rr (if_pos z ..) ?_
  obtain ⟨c,d,da,sl⟩:=o
  cases da <;> first | rfl | exact tfm hf
 ·refine rr (if_neg z ..) ?_;refine rr (if_neg z ..) ?_
  by_cases hb : b < h.objs.size
  ·refine rr (if_pos hb ..) ?_;rfl
  ·refine rr (if_neg hb ..) ?_;refine rr (Array.getElem?_eq_none (xs:=h.objs) (Nat.le_of_not_lt hb) ..) ?_
   by_cases hr : b < a + 1
   ·refine rr (if_pos hr ..) ?_;rfl
   ·refine rr (if_neg hr ..) ?_;rfl
noncomputable def Free (v : V) : Prop:=∀ C (I I' : Im) val,VR C I v val→VR C I' v val
theorem Free.int (i : Int) : Free (.int i):=fun C I I' val h=>by obtain ⟨_,rfl⟩:=h.inv;exact .int _ _
theorem Free.str (x : List Nat) : Free (.str x):=fun C I I' val h=>by obtain ⟨_,rfl⟩:=h.inv;exact .str _ _
theorem Free.ref (a : Addr) : Free (.ref a):=fun C I I' val h=>by obtain ⟨_,rfl⟩:=h.inv;exact .ref _
theorem Free.bool (b : Bool) : Free (.bool b):=fun C I I' val h=>by obtain ⟨_,rfl⟩:=h.inv;exact .bool _
theorem Free.none : Free .none:=fun C I I' val h=>by obtain ⟨_,rfl⟩:=h.inv;exact .none
noncomputable def CFree (c : Cell) : Prop:=∀ P C (I I' : Im) o,c.Is P C I o→c.Is P C I' o
theorem VRs.free {C : Addr} {I I' : Im} {xs : List V} {vs : List Value} (hf : ∀ x∈xs,Free x) (h : VRs C I xs vs) : VRs C I' xs vs:=⟨h.1,fun i x v a b=>hf x (List.mem_of_getElem? a) C I I' v (h.2 i x v a b)⟩
theorem CFree.lst {xs : List V} (hf : ∀ x∈xs,Free x) : CFree (.lst xs):=fun P C I I' o ⟨vs,n,e,h⟩=>⟨vs,n,e,h.free hf⟩
theorem CFree.dct {es : List (List Nat × V)} (hf : ∀ x∈es,Free x.2) : CFree (.dct es):=fun P C I I' o ⟨kvs,n,e,h⟩=>⟨kvs,n,e,h.free fun x hx=>by
 obtain ⟨p,hp,rfl⟩:=List.mem_map.mp hx
 exact hf p hp⟩
theorem CFree.raw {p : Obj→Prop} : CFree (.raw p):=fun P C I I' o h=>h
section
variable {Q : QV}
noncomputable def Fc.pin (Φ : Fc) (h : Heap) : Fc:={ Φ with h₀:=h }
theorem EV.pin {e : Expr} {i : Nat} {a : Addr} {xs : List V} (hi : σ[i]? = some (a,.lst xs)) (hfx : ∀ x∈xs,Free x) (hfree : ∀ p∈σ,CFree p.2)
  (h : ∀ h',(∀ b o,Φ.h₀.get? b = some o→h'.get? b = some o)→(∃ vs n,h'.get? a = some (listOf vs.toArray n)∧VRs C h'.get? xs vs) →
   EV prog w C (Φ.pin h') e ρ (σ.eraseIdx i) fun v σ'=>Free v∧σ' = σ.eraseIdx i∧Q v σ) : EV prog w C Φ e ρ σ Q:=by
 intro A I s ak R QQ E g
 have hm:=List.mem_of_getElem? hi
 have ka : a∈keys σ:=List.mem_map.mpr ⟨_,hm,rfl⟩
 have hIa : I a = none:=R.apartI a ka
 obtain ⟨o,ho,vs,n,rfl,hvs⟩:=R.cell a _ hm
 haveI hof : (listOf vs.toArray n).isFreed = false:=rfl
 have hbase : ∀ b o,Φ.h₀.get? b = some o→(hput Φ.h₀ a (listOf vs.toArray n)).get? b = some o:=fun b o e=>by
  rw [get_hput hof]
  have : b ≠ a:=fun q=>by have:=R.base b o e;replace this:=q ▸ this;replace this:=hIa ▸ this;exact nsm this
  refine rr (if_neg this ..) ?_;exact e
 have hata : (hput Φ.h₀ a (listOf vs.toArray n)).get? a = some (listOf vs.toArray n):=by rw [get_hput hof];refine rr (if_pos rfl ..) ?_;rfl
 have sub:=List.eraseIdx_sublist σ i
 have na : a ∉ keys (σ.eraseIdx i):=fun q=>by
  obtain ⟨p,hp,e⟩:=List.mem_map.mp q
  obtain ⟨j,hj,e'⟩:=List.mem_eraseIdx_iff_getElem?.mp hp
  obtain ⟨b,d⟩:=p
  dsimp only at e
  subst e
  exact hj (key_idx R hi e').symm
 have im : ∀ b o,I b = some o→I.put a (listOf vs.toArray n) b = some o:=fun b o e=>by
  have : b ≠ a:=fun q=>by replace e:=q ▸ e;replace e:=hIa ▸ e;exact nsm e
  refine rr (Im.put_ne this ..) ?_;exact e
 have R₂ : Rel w.params C (Φ.pin (hput Φ.h₀ a (listOf vs.toArray n))) (I.put a (listOf vs.toArray n)) ρ (σ.eraseIdx i) s:=by
  refine ⟨fun b o e=>?_,fun b o e=>?_,fun b c hb=>?_,fun b hb=>⟨?_,(R.apart b ((keys_sub sub).subset hb)).2⟩,(keys_sub sub).nodup R.nodup,fun b hb=>?_,?_,fun j x c hj=>?_,R.gens⟩
  ·by_cases z : b = a
   ·subst z;replace e:=(Im.put_self ..) ▸ e;obtain rfl:=si e;exact ho
   ·replace e:=(Im.put_ne z ..) ▸ e;exact R.im b o e
  ·replace e:=(show (Φ.pin (hput Φ.h₀ a (listOf vs.toArray n))).h₀ = hput Φ.h₀ a (listOf vs.toArray n) from rfl ..) ▸ e;rw [get_hput hof] at e
   by_cases z : b = a
   ·subst z;replace e:=(if_pos rfl ..) ▸ e;obtain rfl:=si e;exact Im.put_self
   ·replace e:=(if_neg z ..) ▸ e;exact im b o (R.base b o e)
  ·obtain ⟨o,ho,hc⟩:=R.cell b c (sub.subset hb)
   exact ⟨o,ho,hc.mono im⟩
  ·have : b ≠ a:=fun q=>na (q ▸ hb)
   refine rr (Im.put_ne this ..) ?_;exact R.apartI b ((keys_sub sub).subset hb)
  ·haveI hb' : b∈Φ.own:=hb
   have : b ≠ a:=fun q=>(R.apart a ka).2 (q ▸ hb')
   refine rr (Im.put_ne this ..) ?_;exact R.ownI b hb'
  ·obtain ⟨m,hn,h⟩:=R.ns
   exact ⟨m,hn,fun j x v a b=>let ⟨val,e,r⟩:=h j x v a b;⟨val,e,r.mono im⟩⟩
  ·obtain ⟨u,hc,h⟩:=R.cells j x c hj
   exact ⟨u,hc,fun v e=>let ⟨val,e',r⟩:=h v e;⟨val,e',r.mono im⟩⟩
 refine h _ hbase ⟨vs,n,hata,hvs.free hfx⟩ A _ s ⟨ak.hd,ak.fr,ak.dp,ak.un⟩ R₂ _ E fun v σ' I' s' val z0 hv R' k=>?_
 obtain ⟨hfv,e,q⟩:=z0
 subst e
 haveI hI'a : I' a = some (listOf vs.toArray n):=R'.base a _ hata
 have hup : ∀ b o,I b = some o→(fun b=>if b = a then none else I' b : Im) b = some o:=fun b o e=>by
  have : b ≠ a:=fun q=>by replace e:=q ▸ e;replace e:=hIa ▸ e;exact nsm e
  show (if b = a then none else I' b) = some o
  refine rr (if_neg this ..) ?_
  exact k.im b o (im b o e)
 have nkeys : ∀ b,b ∉ keys σ→b ∉ keys (σ.eraseIdx i):=fun b hb q=>hb ((keys_sub sub).subset q)
 have stays : ∀ b o,b∈Φ.own→s.heap.get? b = some o→s'.heap.get? b = some o:=fun b o hb e=>k.keep b o e (nkeys b fun q=>(R.apart b q).2 hb) (fun q=>nomatch q)
 haveI Rf : Rel w.params C Φ (fun b=>if b = a then none else I' b) ρ σ s':=by
  refine ⟨fun b o e=>?_,fun b o e=>hup b o (R.base b o e),fun b c hb=>?_,fun b hb=>⟨?_,(R.apart b hb).2⟩,R.nodup,fun b hb=>?_,?_,fun j x c hj=>?_,R'.gens⟩
  ·replace e : (if b = a then none else I' b) = some o:=e
   by_cases z : b = a
   ·replace e:=(if_pos z ..) ▸ e;exact nsm e
   ·replace e:=(if_neg z ..) ▸ e;exact R'.im b o e
  ·by_cases z : b = a
   ·subst z
    obtain ⟨j,hj⟩:=List.getElem?_of_mem hb
    obtain rfl:=key_idx R hi hj
    replace hj:=hi ▸ hj
    cases hj
    exact ⟨_,R'.im _ _ hI'a,vs,n,rfl,hvs.free hfx⟩
   ·obtain ⟨j,hj⟩:=List.getElem?_of_mem hb
    have hb' : (b,c)∈σ.eraseIdx i:=List.mem_eraseIdx_iff_getElem?.mpr ⟨j,fun q=>by
     subst q
     replace hj:=hi ▸ hj
     cases hj
     exact z rfl,hj⟩
    obtain ⟨o,ho,hc⟩:=R'.cell b c hb'
    exact ⟨o,ho,hfree _ hb _ _ _ _ _ hc⟩
  ·show (if b = a then none else I' b) = none
   by_cases z : b = a
   ·refine rr (if_pos z ..) ?_;rfl
   ·refine rr (if_neg z ..) ?_
    obtain ⟨p,hp,e⟩:=List.mem_map.mp hb
    obtain ⟨j,hj⟩:=List.getElem?_of_mem hp
    haveI hp' : p∈σ.eraseIdx i:=List.mem_eraseIdx_iff_getElem?.mpr ⟨j,fun q=>by
     subst q
     replace hj:=hi ▸ hj
     obtain rfl:=si hj
     exact z e.symm,hj⟩
    exact R'.apartI b (List.mem_map.mpr ⟨p,hp',e⟩)
  ·show (if b = a then none else I' b) = none
   by_cases z : b = a
   ·refine rr (if_pos z ..) ?_;rfl
   ·refine rr (if_neg z ..) ?_;exact R'.ownI b hb
  ·obtain ⟨m,hn,h⟩:=R.ns
   exact ⟨m,hn.at' fun o e=>stays _ o (.head _) e,fun j x v a b=>let ⟨val,e,r⟩:=h j x v a b;⟨val,e,r.mono hup⟩⟩
  ·obtain ⟨u,⟨o,ho,hd⟩,h⟩:=R.cells j x c hj
   exact ⟨u,⟨o,stays c o (.tail _ (filterMap_idx hj)) ho,hd⟩,fun v e=>let ⟨val,e',r⟩:=h v e;⟨val,e',r.mono hup⟩⟩
 refine g v σ _ s' val q (hfv _ _ _ _ hv) Rf ⟨fun b o e hk hw=>k.keep b o e (nkeys b hk) hw,k.alive,fun b q=>?_,hup,k.os⟩
 rcases q with q | q
 ·replace q : (if b = a then none else I' b).isSome = true:=q
  by_cases z : b = a
  ·replace q:=(if_pos z ..) ▸ q;exact ftm q
  ·replace q:=(if_neg z ..) ▸ q
   rcases k.new b (.inl q) with r | r | r
   ·replace r:=(Im.put_ne z ..) ▸ r;exact .inl r
   ·exact .inr (.inl ((keys_sub sub).subset r))
   ·exact .inr (.inr r)
 ·exact .inr (.inl q)
theorem EV.pinned {e : Expr} {a : Addr} {xs : List V} (hp : ∃ vs n,Φ.h₀.get? a = some (listOf vs.toArray n)∧VRs C Φ.h₀.get? xs vs) (h : EV prog w C Φ e ρ σ fun v σ'=>v = .ref a∧Q (.lst xs) σ') : EV prog w C Φ e ρ σ Q:=by
 intro A I s ak R QQ E g
 obtain ⟨vs,n,h1,h2⟩:=hp
 refine h A I s ak R _ E fun v σ' I' s' val z0 hv R' k=>?_
 obtain ⟨e,q⟩:=z0
 subst e
 obtain ⟨_,rfl⟩:=hv.inv
 exact g (.lst xs) σ' I' s' _ q (.mk_lst (R'.base a _ h1) (h2.mono R'.base)) R' k
theorem Fc.Ok.pin (Ok : Φ.Ok) (h : Heap) : (Φ.pin h).Ok:=⟨Ok.kind,Ok.nd,Ok.names,Ok.loc,Ok.cel,Ok.debug,Ok.globals,Ok.lv⟩
theorem Tx.keeps {h h' : Heap} {mg mb : Str→Option Value} (T : Tx h mg mb) (k : ∀ b o,h.get? b = some o→h'.get? b = some o) : Tx h' mg mb:=⟨T.g.keeps k,T.b.keeps k,T.bi,T.nl.keeps k⟩
end
noncomputable def runO {α : Type} (n : Nat) (lt : Nat→Nat→Bool) : KasT α→Option α
 | .ret a=>some a
 | .ask i j k=>if decide (i < n) && decide (j < n) then runO n lt (k (lt i j)) else none
theorem runO_c {α : Type} {n : Nat} {lt : Nat→Nat→Bool} {i j} {k : Bool→KasT α} : runO n lt (.ask i j k) = (if decide (i < n) && decide (j < n) then runO n lt (k (lt i j)) else none):=rfl
theorem runO_wp {α : Type} {n : Nat} {lt : Nat→Nat→Bool} {cmp : Nat→Nat→(Bool→Shared→Prop)→Shared→Prop} {s : Shared} (hc : ∀ i j C,i < n→j < n→C (lt i j) s→cmp i j C s) {Q : α→Shared→Prop} : ∀ (t : KasT α) {r : α},runO n lt t = some r→Q r s→t.kasWp cmp Q s
 | .ret a,r,h,q=>by obtain rfl:=si h;exact q
 | .ask i j k,r,h,q=>by
  rw [runO_c] at h
  by_cases z : (decide (i < n) && decide (j < n)) = true
  ·replace h:=(if_pos z ..) ▸ h
   simp only [Bool.and_eq_true,decide_eq_true_eq] at z
   exact hc i j _ z.1 z.2 (runO_wp hc (k (lt i j)) h q)
  ·replace h:=(if_neg z ..) ▸ h;exact nsm h
section
variable {A : Around} {E : Value→Shared→Prop} {s : Shared}
theorem sort_tree {a : Addr} {vs : List Value} {n : Nat} {P : PySem.Fin→Shared→Prop} {κ : SortKind} {lt : Nat→Nat→Bool} {r : Array Nat} (ho : s.heap.get? a = some (seqObj "list" vs.toArray n)) (h2 : 2 ≤ vs.length) (h64 : vs.length < 64)
  (hk : ∀ (s' : Shared) (Q : SortKind→Shared→Prop) (E : Value→Shared→Prop),(∀ b o,b ≠ a→s.heap.get? b = some o→s'.heap.get? b = some o)→Q κ s'→wpAny (model prog w) A (keyKind' vs.toArray) Q E s')
  (hlt : ∀ (s' : Shared) i j C,(∀ b o,b ≠ a→s.heap.get? b = some o→s'.heap.get? b = some o)→i < vs.length→j < vs.length→C (lt i j) s'→kas_ask prog w A κ vs i j C s') (hr : runO vs.length lt (kas_sort vs.length) = some r)
  (h : ∀ h' c,h'.get? a = some (seqObj "list" (List.toArray (r.toList.map fun i=>vs.getD i Value.none)) c)→(∀ b o,b ≠ a→s.heap.get? b = some o→h'.get? b = some o)→P (.done (.ret .none)) { s with heap:=h' }) :
  wpAny (model prog w) A (Builtin.«list.sort» ⟨[.ref a],[]⟩) P E s:=by
 haveI ha : a < s.heap.objs.size:=Heap.lt_size ho
 haveI s1:=Heap.SameBut.update s.heap a (Obj.mapSeq fun _=>(#[] : Array Value))
 obtain ⟨e1,ho1⟩ : ∃ e1,(s.heap.update a (Obj.mapSeq fun _=>(#[] : Array Value))).get? a = some (seqObj "list" #[] e1):=⟨_,get?_update_seq ho fun _=>#[]⟩
 have hk1 : ∀ b o,b ≠ a→s.heap.get? b = some o→(((s.heap.update a (Obj.mapSeq fun _=>(#[] : Array Value))).push (seqObj "tuple" vs.toArray 0)).push (seqObj "list" #[] 0)).get? b = some o:=fun b o hb e =>
  Heap.get?_push_of_some _ (Heap.get?_push_of_some _ ((s1.2 b hb).trans e))
 haveI hoa : (((s.heap.update a (Obj.mapSeq fun _=>(#[] : Array Value))).push (seqObj "tuple" vs.toArray 0)).push (seqObj "list" #[] 0)).get? a = some (seqObj "list" #[] e1):=Heap.get?_push_of_some _ (Heap.get?_push_of_some _ ho1)
 rw [list_sort_plain]
 refine wpAny_bind (listItems_at ho rfl ?_)
 refine wpAny_bind (listUpdate_at ho rfl ?_ (by refine rr (List.size_toArray ..) ?_;refine rr sizeLine_eq ?_;lia) (Nat.zero_le _))
 refine wpAny_bind (seqEpoch_at ho1 rfl ?_)
 refine wpAny_bind (wpAny_newTuple ?_ (by show vs.length ≤ _;refine rr sizeLine_eq ?_;lia))
 refine wpAny_bind (wpAny_newList ?_ (Nat.zero_le _))
 refine wpAny_holding ?_
 show wpAny (model prog w) A _ P E { s with heap:=((s.heap.update a (Obj.mapSeq fun _=>(#[] : Array Value))).push (seqObj "tuple" vs.toArray 0)).push (seqObj "list" #[] 0) }
 generalize hH : ((s.heap.update a (Obj.mapSeq fun _=>(#[] : Array Value))).push (seqObj "tuple" vs.toArray 0)).push (seqObj "list" #[] 0) = H at hk1 hoa ⊢
 haveI hn2 : ¬ vs.toArray.size < 2:=by refine rr (List.size_toArray ..) ?_;lia
 refine rr (if_neg hn2 ..) ?_;refine rr (if_neg hn2 ..) ?_
 refine wpAny_bind (hk { s with heap:=H } _ _ hk1 ?_)
 refine wpAny_bind (wpAny_mono (kat_run (s:={ s with heap:=H }) (G:=fun p s'=>p = r∧s' = { s with heap:=H }) (Q:=fun st' s'=>∃ p : Array Nat,p.size = vs.length∧arrOf st' = p.map (kas_item (vs.toArray.zip vs.toArray))∧failedOf st' = none∧p = r∧s' = { s with heap:=H })
  rfl h2 h64 (fun p' st' s' a1 a2 a3 a4=>⟨p',a1,a2,a3,a4⟩) (runO_wp (fun i j C hi hj hC=>hlt { s with heap:=H } i j C hk1 hi hj hC) _ hr ⟨rfl,rfl⟩)) ?_ fun _ _ e=>e)
 rintro ⟨⟨⟩,st'⟩ s' ⟨p,hp,har,hf,rfl,rfl⟩
 dsimp only
 haveI hout:=kat_snds rfl har
 haveI hsz : (List.toArray (p.toList.map fun i=>vs.getD i Value.none)).size = vs.length:=by refine rr (List.size_toArray ..) ?_;refine rr (List.length_map ..) ?_;refine rr (Array.length_toList ..) ?_;refine rr hp ?_;rfl
 refine rr hout ?_
 haveI s2:=Heap.SameBut.update H a (Obj.mapSeq fun _=>List.toArray (p.toList.map fun i=>vs.getD i Value.none))
 obtain ⟨c2,hc2⟩ : ∃ c2,(H.update a (Obj.mapSeq fun _=>List.toArray (p.toList.map fun i=>vs.getD i Value.none))).get? a = some (seqObj "list" (List.toArray (p.toList.map fun i=>vs.getD i Value.none)) c2):=⟨_,get?_update_seq hoa fun _=>List.toArray (p.toList.map fun i=>vs.getD i Value.none)⟩
 refine wpAny_bind (seqEpoch_at hoa rfl ?_)
 refine wpAny_bind (listUpdate_at hoa rfl ?_ (Nat.zero_le _) (Nat.le_trans (Nat.le_of_eq hsz) (by refine rr sizeLine_eq ?_;lia)))
 refine rr hf ?_
 simp only [bne_self_eq_false,Bool.false_eq_true,if_false]
 exact wpAny_pure (h _ c2 hc2 fun b o hb e=>(s2.2 b hb).trans (hk1 b o hb e))
theorem sorted_tree {l : Addr} {vs : List Value} {Q : Value→Shared→Prop} {κ : SortKind} {lt : Nat→Nat→Bool} {r : Array Nat} (hl : s.heap.IsList l vs.toArray) (h2 : 2 ≤ vs.length) (h64 : vs.length < 64)
  (hk : ∀ (s' : Shared) (Q : SortKind→Shared→Prop) (E : Value→Shared→Prop),(∀ b o,s.heap.get? b = some o→s'.heap.get? b = some o)→Q κ s'→wpAny (model prog w) A.in1.in1 (keyKind' vs.toArray) Q E s')
  (hlt : ∀ (s' : Shared) i j C,(∀ b o,s.heap.get? b = some o→s'.heap.get? b = some o)→i < vs.length→j < vs.length→C (lt i j) s'→kas_ask prog w A.in1.in1 κ vs i j C s') (hr : runO vs.length lt (kas_sort vs.length) = some r)
  (h : ∀ h' c D,s.heap.get? D = none→h'.get? D = some (listOf (List.toArray (r.toList.map fun i=>vs.getD i Value.none)) c)→(∀ b o,s.heap.get? b = some o→h'.get? b = some o)→Q (.ref D) { s with heap:=h' }) :
  wpAny (model prog w) A (call (.builtin "sorted") [.ref l]) Q E s:=by
 refine Calls.call_function_entry kind_sorted plain_sorted entry_sorted (args_sorted1 _) ?_
 refine wpAny_bind (m:=checkCount "sorted" 1 1 _) (wpAny_pure ?_)
 refine wpAny_bind (collect_list hl ?_ (by rw [sizeLine_eq];lia))
 refine wpAny_bind (wpAny_newList ?_ (by rw [sizeLine_eq];lia))
 have hsz : ((s.heap.push (seqObj "list" #[] 0)).update s.heap.objs.size (Obj.mapSeq (· ++ vs.toArray))).objs.size = s.heap.objs.size + 1:=by
  rw [Heap.size_update,size_push']
 haveI hoL : (((s.heap.push (seqObj "list" #[] 0)).update s.heap.objs.size (Obj.mapSeq (· ++ vs.toArray))).push (seqObj "list" vs.toArray 0)).get? (s.heap.objs.size + 1) = some (seqObj "list" vs.toArray 0):=by
  rw [← hsz];exact Heap.get?_push_size _ rfl
 have keep : ∀ b o,s.heap.get? b = some o→(((s.heap.push (seqObj "list" #[] 0)).update s.heap.objs.size (Obj.mapSeq (· ++ vs.toArray))).push (seqObj "list" vs.toArray 0)).get? b = some o:=fun b o q=>by
  haveI hlt : b < s.heap.objs.size:=Heap.lt_size q
  rw [Heap.get?_push_ne _ _ _ (by rw [hsz];exact Nat.ne_of_lt (Nat.lt_succ_of_lt hlt)),Heap.get?_update_ne _ _ _ _ (Nat.ne_of_lt hlt),Heap.get?_push_ne _ _ _ (Nat.ne_of_lt hlt)]
  exact q
 show wpAny _ _ _ _ _ { s with heap:=((s.heap.push (seqObj "list" #[] 0)).update s.heap.objs.size (Obj.mapSeq (· ++ vs.toArray))).push (seqObj "list" vs.toArray 0) }
 rw [hsz]
 generalize hH : ((s.heap.push (seqObj "list" #[] 0)).update s.heap.objs.size (Obj.mapSeq (· ++ vs.toArray))).push (seqObj "list" vs.toArray 0) = H at hoL keep ⊢
 have nD : ∀ b o,s.heap.get? b = some o→b ≠ s.heap.objs.size + 1:=fun b o e=>Nat.ne_of_lt (Nat.lt_succ_of_lt (Heap.lt_size e))
 refine wpAny_bind (wpAny_holding (wpAny_call_entry slot_list_sort ⟨_,hoL,rfl⟩ entry_list_sort (sort_tree (s:={ s with heap:=H }) hoL h2 h64 (fun s' Q E k q=>hk s' Q E (fun b o e=>k b o (nD b o e) (keep b o e)) q)
  (fun s' i j C k hi hj hC=>hlt s' i j C (fun b o e=>k b o (nD b o e) (keep b o e)) hi hj hC) hr fun h' c hc k=>⟨_,rfl,?_⟩) (args_list_sort _)))
 exact wpAny_pure ⟨_,rfl,h h' c _ (Heap.get?_none_of_le (Nat.le_succ _)) hc fun b o e=>k b o (nD b o e) (keep b o e)⟩
theorem sorted_few {l : Addr} {vs : List Value} {Q : Value→Shared→Prop} (hl : s.heap.IsList l vs.toArray) (h2 : vs.length < 2)
  (h : ∀ h' c D,s.heap.get? D = none→h'.get? D = some (listOf vs.toArray c)→(∀ b o,s.heap.get? b = some o→h'.get? b = some o)→Q (.ref D) { s with heap:=h' }) :
  wpAny (model prog w) A (call (.builtin "sorted") [.ref l]) Q E s:=by
 refine Calls.call_function_entry kind_sorted plain_sorted entry_sorted (args_sorted1 _) ?_
 refine wpAny_bind (m:=checkCount "sorted" 1 1 _) (wpAny_pure ?_)
 refine wpAny_bind (collect_list hl ?_ (by rw [sizeLine_eq];lia))
 refine wpAny_bind (wpAny_newList ?_ (by rw [sizeLine_eq];lia))
 have hsz : ((s.heap.push (seqObj "list" #[] 0)).update s.heap.objs.size (Obj.mapSeq (· ++ vs.toArray))).objs.size = s.heap.objs.size + 1:=by
  rw [Heap.size_update,size_push']
 haveI hoL : (((s.heap.push (seqObj "list" #[] 0)).update s.heap.objs.size (Obj.mapSeq (· ++ vs.toArray))).push (seqObj "list" vs.toArray 0)).get? (s.heap.objs.size + 1) = some (seqObj "list" vs.toArray 0):=by
  rw [← hsz];exact Heap.get?_push_size _ rfl
 haveI keep : ∀ b o,s.heap.get? b = some o→(((s.heap.push (seqObj "list" #[] 0)).update s.heap.objs.size (Obj.mapSeq (· ++ vs.toArray))).push (seqObj "list" vs.toArray 0)).get? b = some o:=fun b o q=>by
  haveI hlt : b < s.heap.objs.size:=Heap.lt_size q
  rw [Heap.get?_push_ne _ _ _ (by rw [hsz];exact Nat.ne_of_lt (Nat.lt_succ_of_lt hlt)),Heap.get?_update_ne _ _ _ _ (Nat.ne_of_lt hlt),Heap.get?_push_ne _ _ _ (Nat.ne_of_lt hlt)]
  exact q
 show wpAny _ _ _ _ _ { s with heap:=((s.heap.push (seqObj "list" #[] 0)).update s.heap.objs.size (Obj.mapSeq (· ++ vs.toArray))).push (seqObj "list" vs.toArray 0) }
 rw [hsz]
 generalize hH : ((s.heap.push (seqObj "list" #[] 0)).update s.heap.objs.size (Obj.mapSeq (· ++ vs.toArray))).push (seqObj "list" vs.toArray 0) = H at hoL keep ⊢
 haveI nD : ∀ b o,s.heap.get? b = some o→b ≠ s.heap.objs.size + 1:=fun b o e=>Nat.ne_of_lt (Nat.lt_succ_of_lt (Heap.lt_size e))
 refine wpAny_bind (wpAny_holding (wpAny_call_entry slot_list_sort ⟨_,hoL,rfl⟩ entry_list_sort ?_ (args_list_sort _)))
 generalize hD : s.heap.objs.size + 1 = D at hoL nD ⊢
 haveI hDn : s.heap.get? D = none:=by rw [← hD];exact Heap.get?_none_of_le (Nat.le_succ _)
 rw [list_sort_plain]
 refine wpAny_bind (listItems_at hoL rfl ?_)
 refine wpAny_bind (listUpdate_at hoL rfl ?_ (by rw [List.size_toArray,sizeLine_eq];lia) (Nat.zero_le _))
 haveI s1:=Heap.SameBut.update H D (Obj.mapSeq fun _=>(#[] : Array Value))
 obtain ⟨e1,ho1⟩ : ∃ e1,(H.update D (Obj.mapSeq fun _=>(#[] : Array Value))).get? D = some (seqObj "list" #[] e1):=⟨_,get?_update_seq hoL fun _=>#[]⟩
 refine wpAny_bind (seqEpoch_at ho1 rfl ?_)
 refine wpAny_bind (wpAny_newTuple ?_ (by show vs.length ≤ _;rw [sizeLine_eq];lia))
 refine wpAny_bind (wpAny_newList ?_ (Nat.zero_le _))
 refine wpAny_holding ?_
 haveI hoa : (((H.update D (Obj.mapSeq fun _=>(#[] : Array Value))).push (seqObj "tuple" vs.toArray 0)).push (seqObj "list" #[] 0)).get? D = some (seqObj "list" #[] e1):=Heap.get?_push_of_some _ (Heap.get?_push_of_some _ ho1)
 haveI hk1 : ∀ b o,b ≠ D→H.get? b = some o→(((H.update D (Obj.mapSeq fun _=>(#[] : Array Value))).push (seqObj "tuple" vs.toArray 0)).push (seqObj "list" #[] 0)).get? b = some o:=fun b o hb e =>
  Heap.get?_push_of_some _ (Heap.get?_push_of_some _ ((s1.2 b hb).trans e))
 show wpAny (model prog w) _ _ _ E { s with heap:=((H.update D (Obj.mapSeq fun _=>(#[] : Array Value))).push (seqObj "tuple" vs.toArray 0)).push (seqObj "list" #[] 0) }
 generalize hH2 : ((H.update D (Obj.mapSeq fun _=>(#[] : Array Value))).push (seqObj "tuple" vs.toArray 0)).push (seqObj "list" #[] 0) = H2 at hk1 hoa ⊢
 dsimp only
 haveI h2' : vs.toArray.size < 2:=by rw [List.size_toArray];exact h2
 rw [if_pos h2',if_pos h2']
 refine wpAny_bind (wpAny_pure ?_)
 rw [StateT.run_pure]
 refine wpAny_bind (wpAny_pure ?_)
 haveI hout : (arrOf (SortSt.mk' general' (vs.toArray.zip vs.toArray) #[] 7 none)).map (·.2) = vs.toArray:=by
  apply Array.ext_getElem?
  intro k
  show ((vs.toArray.zip vs.toArray).map (·.2))[k]? = _
  by_cases hk : k < vs.length <;> simp [hk]
 refine wpAny_bind (seqEpoch_at hoa rfl ?_)
 rw [hout]
 haveI s2:=Heap.SameBut.update H2 D (Obj.mapSeq fun _=>vs.toArray)
 obtain ⟨c2,hc2⟩ : ∃ c2,(H2.update D (Obj.mapSeq fun _=>vs.toArray)).get? D = some (seqObj "list" vs.toArray c2):=⟨_,get?_update_seq hoa fun _=>vs.toArray⟩
 refine wpAny_bind (listUpdate_at hoa rfl ?_ (Nat.zero_le _) (by rw [List.size_toArray,sizeLine_eq];lia))
 simp only [bne_self_eq_false,Bool.false_eq_true,if_false]
 exact wpAny_pure ⟨_,rfl,wpAny_pure ⟨_,rfl,h _ c2 D hDn hc2 fun b o e=>(s2.2 b (nD b o e)).trans (hk1 b o (nD b o e) (keep b o e))⟩⟩
end
noncomputable def sortO {α : Type} (lt : α→α→Bool) (d : α) (xs : List α) : Option (List α) :=
 if xs.length < 2 then some xs
 else match runO xs.length (fun i j=>lt (xs.getD i d) (xs.getD j d)) (kas_sort xs.length) with
  | some p=>if p.toList.all (fun i=>decide (i < xs.length)) then some (p.toList.map fun i=>xs.getD i d) else none
  | none=>none
noncomputable def ltP (p q : Int × List Nat) : Bool:=if decide (p.1 = q.1) then (if decide (p.2 = q.2) then false else decide (p.2 < q.2)) else decide (p.1 < q.1)
noncomputable def ltS (x y : List Nat) : Bool:=decide (x < y)
noncomputable def ltI (x y : Int) : Bool:=decide (x < y)
noncomputable def VP (p : Int × List Nat) : V:=.tup [.int p.1,.str p.2]
section
variable {Q : QV}
theorem BJ.sortedG {α : Type} (f : α→V) {xs r : List α} {d : α} {lt : α→α→Bool} {x : V} (hx : IsL σ x (xs.map f)) (h64 : xs.length < 64) (hr : sortO lt d xs = some r) (κ : SortKind)
  (hk : ∀ (A : Around) (I : Im) (s : Shared) (vs : List Value) (Q : SortKind→Shared→Prop) (E : Value→Shared→Prop),2 ≤ vs.length→VRs C I (xs.map f) vs→(∀ b o,I b = some o→s.heap.get? b = some o)→Q κ s→wpAny (model prog w) A (keyKind' vs.toArray) Q E s)
  (hlt : ∀ (A : Around) (I : Im) (s : Shared) (a b : α) (va vb : Value) (Q : Bool→Shared→Prop),VR C I (f a) va→VR C I (f b) vb→(∀ b o,I b = some o→s.heap.get? b = some o)→Q (lt a b) s→wpAny (model prog w) A (keyLt' κ va vb) Q (fun _ _=>False) s)
  (q : Q (.lst (r.map f)) σ) : BJ prog w C Φ ρ σ "sorted" [x] Q:=by
 intro A I s vals ak R hv QQ E g
 obtain ⟨v,rfl,h1⟩:=hv.inv1
 obtain ⟨l,vs,n,rfl,hl,hvs⟩:=hx.at R h1
 have hlen : vs.length = xs.length:=by simpa using hvs.1
 have fin : ∀ (out : List Value) (r' : List α),VRs C I (r'.map f) out→r' = r→∀ h' c D,s.heap.get? D = none→h'.get? D = some (listOf out.toArray c)→(∀ b o,s.heap.get? b = some o→h'.get? b = some o)→QQ (.ref D) { s with heap:=h' }:=by
  intro out r' ho e h' c D hD hc k
  subst e
  haveI G:=Gr.put (tk:=s.toks) (I:=I) R.im k hD hc
  exact g.gr R G (.mk_lst Im.put_self (ho.mono G.im)) q
 unfold sortO at hr
 by_cases h2 : xs.length < 2
 ·replace hr:=(if_pos h2 ..) ▸ hr
  obtain rfl:=si hr
  refine sorted_few (isList_of hl) (by lia) fun h' c D hD hc k=>fin vs xs hvs rfl h' c D hD hc k
 ·replace hr:=(if_neg h2 ..) ▸ hr
  cases hp : runO xs.length (fun i j=>lt (xs.getD i d) (xs.getD j d)) (kas_sort xs.length) with
  | none=>replace hr:=hp ▸ hr;exact nsm hr
  | some p =>
   replace hr:=hp ▸ hr
   dsimp only at hr
   by_cases ha : (p.toList.all fun i=>decide (i < xs.length)) = true
   ·replace hr:=(if_pos ha ..) ▸ hr
    obtain rfl:=si hr
    have hin : ∀ i∈p.toList,i < xs.length:=fun i hi=>by simpa using List.all_eq_true.mp ha i hi
    have get : ∀ i,i < xs.length→VR C I (f (xs.getD i d)) (vs.getD i Value.none):=fun i hi=>by
     refine hvs.2 i _ _ ?_ ?_
     ·refine rr (List.getElem?_map ..) ?_
      simp [hi]
     ·have : i < vs.length:=by lia
      simp [this]
    refine sorted_tree (κ:=κ) (lt:=fun i j=>lt (xs.getD i d) (xs.getD j d)) (r:=p) (isList_of hl) (by lia) (by lia) (fun s' Q' E' k hq=>hk _ I s' vs Q' E' (by lia) hvs (fun b o e=>k b o (R.im b o e)) hq) (fun s' i j C' k hi hj hC=>?_) (by refine rr hlen ?_;exact hp)
     fun h' c D hD hc k=>fin (p.toList.map fun i=>vs.getD i Value.none) _ ?_ rfl h' c D hD hc k
    ·exact hlt _ I s' _ _ _ _ C' (get i (by lia)) (get j (by lia)) (fun b o e=>k b o (R.im b o e)) hC
    ·refine ⟨by simp,fun i x v a b=>?_⟩
     replace a:=(List.getElem?_map ..) ▸ a;replace a:=(List.getElem?_map ..) ▸ a
     replace b:=(List.getElem?_map ..) ▸ b
     cases hpi : p.toList[i]? with
     | none=>replace a:=hpi ▸ a;exact nsm a
     | some j =>
      rw [hpi] at a b
      obtain rfl:=si a
      obtain rfl:=si b
      exact get j (hin j (List.mem_of_getElem? hpi))
   ·replace hr:=(if_neg ha ..) ▸ hr;exact nsm hr
theorem BJ.sortedI {xs r : List Int} {x : V} (hx : IsL σ x (xs.map .int)) (h64 : xs.length < 64) (hr : sortO ltI 0 xs = some r) (q : Q (.lst (r.map .int)) σ) : BJ prog w C Φ ρ σ "sorted" [x] Q:=by
 refine BJ.sortedG .int hx h64 hr oneType' (fun A I s vs Q E h2 hvs im hq=>?_) (fun A I s a b va vb Q ha hb im hq=>?_) q
 ·refine kas_kind (T:=.type "int") h2 (fun v hv=>?_) rfl rfl hq
  obtain ⟨i,hi⟩:=List.getElem?_of_mem hv
  obtain ⟨y,hy,r⟩:=hvs.get' hi
  replace hy:=(List.getElem?_map ..) ▸ hy
  obtain ⟨z,hz,rfl⟩:=Option.map_eq_some_iff.mp hy
  obtain ⟨_,rfl⟩:=r.inv
  exact Looks.now
 ·obtain ⟨_,rfl⟩:=ha.inv;obtain ⟨_,rfl⟩:=hb.inv
  exact kat_lt_int hq
theorem BJ.sortedS {xs r : List (List Nat)} {x : V} (hx : IsL σ x (xs.map .str)) (h64 : xs.length < 64) (hr : sortO ltS [] xs = some r) (q : Q (.lst (r.map .str)) σ) : BJ prog w C Φ ρ σ "sorted" [x] Q:=by
 refine BJ.sortedG .str hx h64 hr oneType' (fun A I s vs Q E h2 hvs im hq=>?_) (fun A I s a b va vb Q ha hb im hq=>?_) q
 ·refine kas_kind (T:=.type "str") h2 (fun v hv=>?_) rfl rfl hq
  obtain ⟨i,hi⟩:=List.getElem?_of_mem hv
  obtain ⟨y,hy,r⟩:=hvs.get' hi
  replace hy:=(List.getElem?_map ..) ▸ hy
  obtain ⟨z,hz,rfl⟩:=Option.map_eq_some_iff.mp hy
  obtain ⟨_,rfl⟩:=r.inv
  exact Looks.now
 ·obtain ⟨_,rfl⟩:=ha.inv;obtain ⟨_,rfl⟩:=hb.inv
  exact kas_lt_str hq
theorem tups_of {I : Im} {s : Shared} (im : ∀ b o,I b = some o→s.heap.get? b = some o) : ∀ {xs : List (Int × List Nat)} {vs : List Value},VRs C I (xs.map VP) vs→∃ fs,KatTups s.heap vs fs∧fs.length = vs.length∧∀ v∈fs,∃ i t,v = Value.int i t
 | [],vs,h=>by refine rr (h.nil_inv ..) ?_;exact ⟨[],.nil,rfl,fun v hv=>nomatch hv⟩
 | p :: r,vs,h=>by
  obtain ⟨v,us,rfl,h1,h2⟩:=(show VRs C I (VP p :: r.map VP) vs from h).cons_inv
  obtain ⟨fs,k,hl,hi⟩:=tups_of im h2
  obtain ⟨a,ws,n,rfl,hI,hws⟩:=(show VR C I (.tup [.int p.1,.str p.2]) v from h1).tup_inv
  obtain ⟨f,ws',rfl,hf,_⟩:=hws.cons_inv
  obtain ⟨_,rfl⟩:=hf.inv
  refine ⟨_ :: fs,.cons (im _ _ hI) rfl rfl rfl k,by simp [hl],fun v hv=>?_⟩
  rcases List.mem_cons.mp hv with rfl | hv
  ·exact ⟨_,_,rfl⟩
  ·exact hi v hv
theorem BJ.sortedP {xs r : List (Int × List Nat)} {x : V} (hx : IsL σ x (xs.map VP)) (h64 : xs.length < 64) (hr : sortO ltP (0,[]) xs = some r) (q : Q (.lst (r.map VP)) σ) : BJ prog w C Φ ρ σ "sorted" [x] Q:=by
 refine BJ.sortedG VP hx h64 hr (tuples' true) (fun A I s vs Q E h2 hvs im hq=>?_) (fun A I s a b va vb Q ha hb im hq=>?_) q
 ·obtain ⟨fs,k,hl,hi⟩:=tups_of im hvs
  refine kat_kind (T:=.type "int") k (by lia) (fun v hv=>?_) rfl hq
  obtain ⟨i,t,rfl⟩:=hi v hv
  exact Looks.now
 ·obtain ⟨x,ws,n,rfl,hI,hws⟩:=(show VR C I (.tup [.int a.1,.str a.2]) va from ha).tup_inv
  obtain ⟨y,us,m,rfl,hJ,hus⟩:=(show VR C I (.tup [.int b.1,.str b.2]) vb from hb).tup_inv
  obtain ⟨a1,a2,rfl,h1,h2⟩:=hws.inv2
  obtain ⟨b1,b2,rfl,h3,h4⟩:=hus.inv2
  obtain ⟨_,rfl⟩:=h1.inv;obtain ⟨_,rfl⟩:=h2.inv;obtain ⟨_,rfl⟩:=h3.inv;obtain ⟨_,rfl⟩:=h4.inv
  refine kat_lt (im _ _ hI) rfl (im _ _ hJ) rfl ?_
  unfold ltP at hq
  refine kat_cons (wpAny_eqBool_int (kat_go (fun e=>?_) fun e=>?_))
  ·have e : a.1 = b.1:=by simpa using e
   rw [if_pos (by simpa using e)] at hq
   refine kat_yes (kat_cons (wpAny_eqBool_str (kat_go (fun e2=>?_) fun e2=>?_)))
   ·have e2 : a.2 = b.2:=mkS_iff.mp (of_decide_eq_true e2)
    rw [if_pos (by simpa using e2)] at hq
    exact kat_yes (kat_nil hq)
   ·have e2 : ¬ a.2 = b.2:=fun z=>of_decide_eq_false e2 (mkS_iff.mpr z)
    rw [if_neg (by simpa using e2)] at hq
    refine kat_no (show wpAny _ _ (oneLt' false _ _) _ _ _ from kat_one _ _ (PyProof.Rows.lt_str ?_))
    exact hq
  ·have e : ¬ a.1 = b.1:=by simpa using e
   rw [if_neg (by simpa using e)] at hq
   exact kat_no (show wpAny _ _ (oneLt' true _ _) _ _ _ from oneLt_int hq)
end
section
variable {Q : QV}
theorem byteArr_nats (l : List Nat) : byteArr (l.map fun (n : Nat)=>(n : Int)) = (byts l).toArray:=by
 unfold byteArr byts
 simp [Function.comp_def]
theorem BT.bytes (hh : Φ.hd = none) {x : V} {l : List Nat} (hx : IsL σ x (l.map fun (n : Nat)=>V.int n)) (hs : Small l) (hz : l.length ≤ 1000000) (q : Q (VB l) σ) : BT prog w C Φ ρ σ "bytes" [x] Q:=by
 intro A I s vals a R hv QQ E g
 obtain ⟨v,rfl,h1⟩:=hv.inv1
 obtain ⟨b,vs,n,rfl,hl,hvs⟩:=hx.at R h1
 haveI hvs' : VRs C I ((l.map fun (n : Nat)=>(n : Int)).map .int) vs:=by refine rr (List.map_map ..) ?_;exact hvs
 haveI hlen : vs.length = l.length:=by simpa using hvs.1
 refine call_bytes_ints (isList_of hl) hvs'.ints (fun n hn=>?_) (by refine rr hlen ?_;exact sl _ hz) (a.hd.trans hh) fun h' t k kk=>?_
 ·obtain ⟨c,hc,rfl⟩:=List.mem_map.mp hn
  haveI:=hs c hc
  lia
 ·rw [byteArr_nats]
  exact g.gr R (Gr.same R.im kk) (.byt _ _) q
theorem OP.addB {x y : List Nat} (hz : x.length + y.length ≤ 1000000) (q : Q (VB (x ++ y)) σ) : OP prog w C Φ ρ σ .Add (VB x) (VB y) Q:=fun A I s vx vy a R hx hy QQ E g=>by
 obtain ⟨_,rfl⟩:=hx.inv;obtain ⟨_,rfl⟩:=hy.inv
 refine KBy.add_bytes (by simp [byts];lia) fun t' k=>?_
 haveI e : (byts x).toArray ++ (byts y).toArray = (byts (x ++ y)).toArray:=by rw [byts_app];simp
 refine rr e ?_
 exact g.toks R (.byt _ _) q
set_option tactic.hygienic true in
theorem IE1.byt (hh : Φ.hd = none) {iter : Expr} {Q : List V→St→Prop} (h : EV prog w C Φ iter ρ σ fun v σ'=>∃ x,v = VB x∧Small x∧Q (x.map fun (c : Nat)=>V.int c) σ') : IE1 prog w C Φ iter ρ σ Q:=by
 intro A I s a R QQ E g
 refine h A I s a R _ E fun v σ' I' s' val z0 hv R' k'=>?_
 obtain ⟨x,hv',hs,q⟩:=z0
 subst hv'
 obtain ⟨_,rfl⟩:=hv.inv
 rename_i t
 haveI g':=K1.after (show K1 prog w C Φ ρ A I σ s Q QQ from g) R' k'
 refine KBw.pyIter_bytes ?_
 haveI hn : s'.heap.get? s'.heap.objs.size = none:=Heap.get?_none_of_le (Nat.le_refl _)
 haveI W:=KBw.walks (prog:=prog) (w:=w) (A:=A) (a.hd.trans hh) s'.heap.objs.size (byts x).toArray t
 haveI hlen : (byts x).toArray.size = (x.map fun (c : Nat)=>V.int c).length:=by simp [byts]
 replace W:=hlen ▸ W
 refine g'.fin (St:=fun i h=>KBw.IsBytesIter h s'.heap.objs.size (byts x).toArray t i) R' (Gr.same (tk:=s'.toks) R'.im fun b o e=>Heap.get?_push_of_some _ e) (hid:=[s'.heap.objs.size]) (vals:=x.map fun (c : Nat)=>V.int c) (fun b hb=>by refine rr (List.mem_singleton.mp hb ..) ?_;exact hn) ⟨⟨_,_,_,W,fun _ h=>h,fun k v hv=>?_,fun b hb=>.inl hb⟩,fun k h st b hb=>?_⟩ ⟨_,Heap.get?_push_size _ rfl,rfl,rfl⟩ q
 ·obtain ⟨c,u,h1,rfl⟩:=hv
  haveI h1' : (byts x)[k]? = some c:=by simpa using h1
  unfold byts at h1'
  replace h1':=(List.getElem?_map ..) ▸ h1'
  obtain ⟨d,hd,rfl⟩:=Option.map_eq_some_iff.mp h1'
  refine ⟨.int d,by refine rr (List.getElem?_map ..) ?_;refine rr hd ?_;rfl,?_⟩
  haveI hd256:=hs d (List.mem_of_getElem? hd)
  haveI e : (d.toUInt8.toNat : Int) = d:=by
   haveI : d.toUInt8.toNat = d:=by
    refine rr (UInt8.toNat_ofNat' ..) ?_
    exact Nat.mod_eq_of_lt hd256
   refine rr this ?_;rfl
  refine rr e ?_
  exact .int _ _
 ·refine rr (List.mem_singleton.mp hb ..) ?_
  obtain ⟨o,ho,_⟩:=st
  refine rr ho ?_;rfl
end
theorem list_no_keys : typeLookup (.type "list") "keys" = pure none:=by rw [typeLookup_type,builtinLookup_eq_fast];kernel_rfl
theorem entry_uloop : entryFor table "dict.update.loop" = some Builtin.«dict.update.loop»:=entryFor_of_tree (by kernel_rfl)
theorem plain_uloop : plainId "dict.update.loop" = true:=by decide +kernel
section
variable {A : Around} {E : Value→Shared→Prop} {s : Shared}
theorem keys_miss {a : Addr} {xs : Array Value} {k : Nat} {Q : Option Value→Shared→Prop} (hx : s.heap.get? a = some (listOf xs k)) (hA : A.handled = none)
  (h : ∀ h' tk,(∀ b o,s.heap.get? b = some o→h'.get? b = some o)→Q none { s with heap:=h',toks:=tk }) : wpAny (model prog w) A (getAttr? (.ref a) "keys") Q E s:=by
 obtain ⟨hp,g,d,tk,os⟩:=s
 have hT : ∀ tk',(⟨hp,g,d,tk',os⟩ : Shared).TypeIs (.ref a) "list":=fun _=>⟨_,hx,rfl⟩
 haveI f1:=sub_AttributeError
 haveI f3:=F.slot_list_getattribute.lookup
 haveI f4:=F.slot_list_getattribute.bind (.ref a)
 haveI f5:=am_list_getattr_none
 haveI hname : (["__module__","__name__","__qualname__","__doc__","__annotations__"] : List Str).contains "keys" = false:=by decide +kernel
 haveI hsz : ("keys" : Str).length + 100 ≤ sizeLine:=by refine rr sizeLine_eq ?_;decide +kernel
 repeat (any_goals (first | assumption | exact hT _ | ((with_reducible show wpAny _ _ (call (Value.builtin "list.__getattribute__") _ _) _ _ _);refine call_meets F.slot_list_getattribute (hT _) am_entry_list_getattribute (F.args_list_getattribute_2 _ _) (meets_getattribute_miss_list a xs k #[] "keys" _ list_no_keys hname hsz) ⟨hx,hA,fun h' tk' e hx'=>?_⟩) | wp_step))
 obtain ⟨t',u',he⟩:=hx'.there
 show wpAny _ _ (getattributeRaised _ _ _ _ _ _ _) _ _ _
 repeat (any_goals (first | assumption | wp_step))
 exact h _ _ hx'.keeps
noncomputable def mergeS (kvs pl : List (Str × Value)) : List (Str × Value):=pl.foldl (fun acc kv=>stored acc kv.1 kv.2) kvs
theorem dict_loop {d it l : Addr} {items : Array Value} {h0 : Heap} {pl : List (Str × Value)} (hh : A.handled = none) (hli : l ≠ it) (hdi : d ≠ it) (hdl : l ≠ d) (hpz : pl.length = items.size) (hz : items.size ≤ 1000000)
  (hit0 : h0.get? it = none) (hd0 : h0.get? d = none) (hpl : ∀ (i : Nat) (v : Value),items[i]? = some v→∃ a k t val m,v = Value.ref a∧h0.get? a = some (tupOf #[.str k t,val] m)∧pl[i]? = some (k,val)) {R : Result→Shared→Prop} :
  ∀ (k i : Nat) (s : Shared) (kvs : List (Str × Value)),i + k = items.size→(∀ b o,h0.get? b = some o→s.heap.get? b = some o)→(s.heap.IsListIter it l i∧s.heap.IsList l items)→s.heap.DictOf (strKind prog w) d kvs→kvs.length ≤ i →
   (∀ h' tk,h'.DictOf (strKind prog w) d (mergeS kvs (pl.drop i))→(∀ b o,h0.get? b = some o→h'.get? b = some o)→R (.ok (.ret .none)) { s with heap:=h',toks:=tk }) →
   codeAny (model prog w) A (.builtin "dict.update.loop" ⟨[.ref d,.ref it,rawInt i,.none],[]⟩) R s:=by
 intro k
 haveI W:=Walks.list (prog:=prog) (w:=w) (A:=A.in1) hh it l hli items
 induction k with
 | zero =>
  intro i s kvs hk hK hst hD hkl hR
  haveI hin : i = items.size:=by lia
  subst hin
  refine codeAny_builtin entry_uloop ?_
  refine rr (Around.under_plainId plain_uloop _ ..) ?_
  refine wpAny_bind (W.done s _ _ hst fun h' tk hk'=>?_)
  refine wpAny_bind (m:=Builtin.Dict.addKeywords d []) (wpAny_pure ?_)
  haveI hdw : d ∉ [it]:=fun h=>hdi (List.mem_singleton.mp h)
  haveI hD' : h'.DictOf (strKind prog w) d kvs:=by
   obtain ⟨o,es,ep,ho,r⟩:=hD
   exact ⟨o,es,ep,hk' d o hdw ho,r⟩
  haveI e : mergeS kvs (pl.drop items.size) = kvs:=by refine rl hpz ?_;refine rr (List.drop_length ..) ?_;rfl
  replace hR:=e ▸ hR
  exact wpAny_pure (hR h' tk hD' fun b o hb=>hk' b o (fun h=>by replace hb:=(List.mem_singleton.mp h ..) ▸ hb;replace hb:=hit0 ▸ hb;exact nsm hb) (hK b o hb))
 | succ k ih =>
  intro i s kvs hk hK hst hD hkl hR
  haveI hlt : i < items.size:=by lia
  refine codeAny_builtin entry_uloop ?_
  refine rr (Around.under_plainId plain_uloop _ ..) ?_
  refine wpAny_bind (W.item i s _ _ hlt hst fun v h' tk hP hst' hk'=>?_)
  obtain ⟨a,key,t,val,m,rfl,ha,hpi⟩:=hpl i v hP
  haveI hK' : ∀ b o,h0.get? b = some o→h'.get? b = some o:=fun b o hb=>hk' b o (fun h=>by replace hb:=(List.mem_singleton.mp h ..) ▸ hb;replace hb:=hit0 ▸ hb;exact nsm hb) (hK b o hb)
  haveI hT : ({ s with heap:=h',toks:=tk } : Shared).TypeIs (.ref a) "tuple":=⟨_,hK' _ _ ha,rfl⟩
  haveI hdw : d ∉ [it]:=fun h=>hdi (List.mem_singleton.mp h)
  haveI hD' : h'.DictOf (strKind prog w) d kvs:=by
   obtain ⟨o,es,ep,ho,r⟩:=hD
   exact ⟨o,es,ep,hk' d o hdw ho,r⟩
  refine wpAny_bind (wpAny_holding (wpAny_bind (wpAny_tryCatch ?_)))
  refine wpAny_bind (wpAny_typeOf hT ?_)
  refine wp_pos (by decide) ?_
  refine wpAny_bind (wpAny_seqItems (hK' _ _ ha) rfl (wpAny_pure ?_))
  refine wpAny_holding (wpAny_dictSet_pairs (s:={ s with heap:=h',toks:=tk }) (strKind_is prog w _ _) hD' (fun h'' hD'' hs''=>?_) (Nat.le_trans (by lia : kvs.length ≤ 1000000) (sl _ (Nat.le_refl _))))
  haveI hne : ∀ b o,h0.get? b = some o→b ≠ d:=fun b o e q=>by replace e:=q ▸ e;replace e:=hd0 ▸ e;exact nsm e
  haveI e1 : rawInt ((i : Int) + 1) = rawInt ((i + 1 : Nat) : Int):=by congr 1
  refine wpAny_pure ⟨plainId_quiet plain_uloop _,?_⟩
  refine rr e1 ?_
  refine ih (i + 1) _ (stored kvs key val) (by lia) (fun b o e=>(hs''.2 b (hne b o e)).trans (hK' b o e)) ⟨hst'.1.at fun o e=>(hs''.2 it (Ne.symm hdi)).trans e,hst'.2.at fun o e=>(hs''.2 l hdl).trans e⟩ hD'' ?_ fun h3 tk3 hD3 hK3=>?_
  ·unfold stored
   split
   ·simp;lia
   ·simp;lia
  ·refine hR h3 tk3 ?_ hK3
   haveI hlt' : i < pl.length:=by lia
   refine rr (List.drop_eq_getElem_cons hlt' ..) ?_
   replace hpi:=(List.getElem?_eq_getElem hlt' ..) ▸ hpi
   refine rr (Option.some.inj hpi ..) ?_
   exact hD3
theorem dict_of_pairs {l : Addr} {items : List Value} {n : Nat} {pl : List (Str × Value)} {Q : Value→Shared→Prop} (hh : A.handled = none) (hl : s.heap.get? l = some (listOf items.toArray n)) (hpz : pl.length = items.length) (hz : items.length ≤ 1000000)
  (hpl : ∀ (i : Nat) v,items[i]? = some v→∃ a k t val m,v = Value.ref a∧s.heap.get? a = some (tupOf #[.str k t,val] m)∧pl[i]? = some (k,val))
  (h : ∀ h' tk,h'.DictOf (strKind prog w) s.heap.objs.size (mergeS [] pl)→(∀ b o,s.heap.get? b = some o→h'.get? b = some o)→Q (.ref s.heap.objs.size) { s with heap:=h',toks:=tk }) :
  wpAny (model prog w) A (call (.type "dict") [.ref l]) Q E s:=by
 refine callType_codes (Q₁:=fun obj s₁=>obj = .ref s.heap.objs.size∧s₁ = { s with heap:=s.heap.push { cls:=.type "dict",data:=.dict #[] } }) F.kt_called_dict (F.kt_typeCall_dict_1 _) F.entry_dict_init (kt_code_dict_new _ ⟨rfl,rfl⟩) ?_
 rintro obj s₁ ⟨rfl,rfl⟩
 haveI hnew : (s.heap.push { cls:=.type "dict",data:=.dict #[] }).DictOf (strKind prog w) s.heap.objs.size []:=Heap.DictOf.new s.heap
 haveI kp : ∀ b o,s.heap.get? b = some o→(s.heap.push { cls:=.type "dict",data:=.dict #[] }).get? b = some o:=fun b o e=>Heap.get?_push_of_some _ e
 haveI hl':=kp _ _ hl
 haveI hd0 : s.heap.get? s.heap.objs.size = none:=Heap.get?_none_of_le (Nat.le_refl _)
 generalize hH : s.heap.push { cls:=.type "dict",data:=.dict #[] } = H at hnew kp hl' ⊢
 haveI hTl : ({ s with heap:=H } : Shared).TypeIs (.ref l) "list":=⟨_,hl',rfl⟩
 refine ⟨hnew.typeIs,F.args_dict_init_2 _ _,?_⟩
 refine wpAny_bind ?_
 refine wpAny_bind (wpAny_notOrdered_dict hnew.typeIs ?_)
 refine wpAny_pure ?_
 refine wpAny_bind (wpAny_typeOf hTl ?_)
 refine wp_pos (by decide) ?_
 refine wpAny_bind (keys_miss (s:={ s with heap:=H }) hl' hh fun h1 tk1 k1=>?_)
 refine wp_pos (by rfl) ?_
 refine wpAny_bind (wpAny_rule ?_)
 haveI hl1:=k1 _ _ hl'
 refine wpAny_bind (wpAny_pyIter_list (s:={ s with heap:=h1,toks:=tk1 }) ⟨_,hl1,rfl,_,rfl⟩ ?_)
 haveI k2 : ∀ b o,h1.get? b = some o→(h1.push { cls:=.type "list_iterator",data:=.fields #[.ref l,.int 0 0] }).get? b = some o:=fun b o e=>Heap.get?_push_of_some _ e
 haveI hit : h1.get? h1.objs.size = none:=Heap.get?_none_of_le (Nat.le_refl _)
 haveI hdn1 : ∃ o,h1.get? s.heap.objs.size = some o:=by
  obtain ⟨o,es,ep,ho,_⟩:=hnew
  exact ⟨o,k1 _ _ ho⟩
 refine wpAny_pure ⟨plainId_quiet plain_uloop _,?_⟩
 refine dict_loop (A:=A.in1) (h0:=s.heap) (l:=l) (items:=items.toArray) (pl:=pl) hh (fun q=>?_) (fun q=>?_) (fun q=>?_) (by simpa using hpz) (by simpa using hz) ?_ hd0 (fun i v hv=>hpl i v (by simpa using hv)) items.length 0 _ [] (by simp) (fun b o e=>k2 b o (k1 b o (kp b o e)))
  ⟨⟨_,Heap.get?_push_size _ rfl,rfl,rfl⟩,⟨_,k2 _ _ hl1,rfl,_,rfl⟩⟩ ?_ (Nat.le_refl _) fun h' tk hD hK=>?_
 ·replace hl1:=q ▸ hl1;replace hl1:=hit ▸ hl1;exact nsm hl1
 ·obtain ⟨o,ho⟩:=hdn1
  replace ho:=q ▸ ho;replace ho:=hit ▸ ho;exact nsm ho
 ·replace hl:=q ▸ hl;replace hl:=hd0 ▸ hl;exact nsm hl
 ·cases z : s.heap.get? h1.objs.size with
  | none=>rfl
  | some o =>
   haveI:=k1 _ _ (kp _ _ z)
   replace this:=hit ▸ this;exact nsm this
 ·obtain ⟨o,es,ep,ho,r⟩:=hnew
  exact ⟨o,es,ep,k2 _ _ (k1 _ _ ho),r⟩
 ·replace hD:=(List.drop_zero ..) ▸ hD
  exact ⟨rfl,h h' tk hD hK⟩
end
noncomputable def dfold (ps : List (List Nat × Int)) : List (List Nat × V):=ps.foldl (fun acc p=>dput acc p.1 (.int p.2)) []
noncomputable def Pairs' (C : Addr) (I : Im) (ps : List (List Nat × Int)) (pl : List (Str × Value)) : Prop:=pl.length = ps.length∧∀ (i : Nat) p q,ps[i]? = some p→pl[i]? = some q→q.1 = mkS p.1∧VR C I (.int p.2) q.2
theorem merge_fold {C : Addr} {I : Im} : ∀ {ps : List (List Nat × Int)} {pl : List (Str × Value)} {es : List (List Nat × V)} {kvs : List (Str × Value)},Pairs' C I ps pl→kvs.map (·.1) = es.map (fun p=>(⟨p.1.toArray⟩ : Str))→VRs C I (es.map (·.2)) (kvs.map (·.2)) →
  (mergeS kvs pl).map (·.1) = (ps.foldl (fun acc p=>dput acc p.1 (.int p.2)) es).map (fun p=>(⟨p.1.toArray⟩ : Str))∧VRs C I ((ps.foldl (fun acc p=>dput acc p.1 (.int p.2)) es).map (·.2)) ((mergeS kvs pl).map (·.2))
 | [],pl,es,kvs,h,h1,h2=>by
  haveI : pl = []:=List.length_eq_zero_iff.mp h.1
  subst this
  exact ⟨h1,h2⟩
 | p :: ps,[],es,kvs,h,h1,h2=>by cases h.1
 | p :: ps,q :: pl,es,kvs,h,h1,h2=>by
  obtain ⟨e1,e2⟩:=h.2 0 p q rfl rfl
  obtain ⟨i1,i2⟩:=pairs_put h1 h2 (k:=p.1) e2
  haveI z:=merge_fold (ps:=ps) (pl:=pl) (es:=dput es p.1 (.int p.2)) (kvs:=stored kvs (mkS p.1) q.2) ⟨by have:=h.1;simpa using this,fun i a b ha hb=>h.2 (i + 1) a b ha hb⟩ i1 i2
  refine rr (List.foldl_cons ..) ?_
  unfold mergeS at z ⊢
  refine rr (List.foldl_cons ..) ?_;refine rr e1 ?_
  exact z
theorem pairs_of {C : Addr} {I : Im} : ∀ {ps : List (List Nat × Int)} {vs : List Value},VRs C I (ps.map fun p=>.tup [.str p.1,.int p.2]) vs→∃ pl,Pairs' C I ps pl∧pl.length = vs.length∧∀ (i : Nat) v,vs[i]? = some v→∃ a k t val m,v = Value.ref a∧I a = some (tupOf #[.str k t,val] m)∧pl[i]? = some (k,val)
 | [],vs,h=>by refine rr (h.nil_inv ..) ?_;exact ⟨[],⟨rfl,fun i p q e=>nomatch e⟩,rfl,fun i v e=>nomatch e⟩
 | p :: ps,vs,h=>by
  obtain ⟨v,us,rfl,h1,h2⟩:=(show VRs C I (.tup [.str p.1,.int p.2] :: ps.map fun p=>.tup [.str p.1,.int p.2]) vs from h).cons_inv
  obtain ⟨pl,hp,hl,hg⟩:=pairs_of h2
  obtain ⟨a,ws,n,rfl,hI,hws⟩:=h1.tup_inv
  obtain ⟨w1,w2,rfl,r1,r2⟩:=hws.inv2
  obtain ⟨t,rfl⟩:=r1.inv
  refine ⟨(mkS p.1,w2) :: pl,⟨by simp [hp.1],fun i a b ha hb=>?_⟩,by simp [hl],fun i v hv=>?_⟩
  ·cases i with
   | zero=>obtain rfl:=si ha;obtain rfl:=si hb;exact ⟨rfl,r2⟩
   | succ i=>exact hp.2 i a b ha hb
  ·cases i with
   | zero=>obtain rfl:=si hv;exact ⟨a,_,t,w2,n,rfl,hI,rfl⟩
   | succ i=>exact hg i v hv
section
variable {Q : QV}
theorem BT.dictP (hh : Φ.hd = none) {x : V} {ps : List (List Nat × Int)} (hx : IsL σ x (ps.map fun p=>.tup [.str p.1,.int p.2])) (hz : ps.length ≤ 1000000) (q : ∀ a,Q (.ref a) ((a,.dct (dfold ps)) :: σ)) : BT prog w C Φ ρ σ "dict" [x] Q:=by
 intro A I s vals a R hv QQ E g
 obtain ⟨v,rfl,h1⟩:=hv.inv1
 obtain ⟨l,vs,n,rfl,hl,hvs⟩:=hx.at R h1
 obtain ⟨pl,hp,hpl,hg⟩:=pairs_of hvs
 haveI hlen : vs.length = ps.length:=by simpa using hvs.1
 refine dict_of_pairs (a.hd.trans hh) hl (pl:=pl) hpl (by lia) (fun i v hv=>?_) fun h' tk hD kk=>?_
 ·obtain ⟨a,k,t,val,m,e,hI,hpi⟩:=hg i v hv
  exact ⟨a,k,t,val,m,e,R.im _ _ hI,hpi⟩
 ·obtain ⟨o,ho,hd⟩:=Heap.dictOf_iff.mp hD
  obtain ⟨m1,m2⟩:=merge_fold (C:=C) (I:=I) (es:=[]) (kvs:=[]) hp rfl .nil
  obtain ⟨R',k'⟩:=R.new (tk:=tk) (c:=.dct (dfold ps)) (Heap.get?_none_of_le (Nat.le_refl _)) kk ho ⟨_,DctOf.of hd,m1,m2⟩
  exact g _ _ I _ _ (q _) (.ref _) R' k'
noncomputable def RangeO (a b : Int) (o : Obj) : Prop:=∃ t u v,o = { cls:=.type "range",data:=.fields #[.int a t,.int b u,.int 1 v] }
set_option tactic.hygienic true in
theorem BT.range2 {a b : Int} (q : ∀ r,Q (.ref r) ((r,.raw (RangeO a b)) :: σ)) : BT prog w C Φ ρ σ "range" [.int a,.int b] Q:=by
 intro A I s vals ak R hv QQ E g
 obtain ⟨v,v2,rfl,h1,h2⟩:=hv.inv2
 obtain ⟨_,rfl⟩:=h1.inv;obtain ⟨_,rfl⟩:=h2.inv
 rename_i t u
 refine call_range_2 ?_
 exact g.new (c:=.raw (RangeO a b)) (tk:=s.toks + 1) R ⟨t,u,s.toks,rfl⟩ rfl q
theorem BT.listRange (hh : Φ.hd = none) {r : Addr} {a b : Int} (hm : (r,Cell.raw (RangeO a b))∈σ) (ha : -(2 ^ 62) ≤ a∧a < 2 ^ 62) (hb : -(2 ^ 62) ≤ b∧b < 2 ^ 62) (hz : b - a ≤ 1000000) (q : Q (.lst ((rng a b).map .int)) σ) : BT prog w C Φ ρ σ "list" [.ref r] Q:=by
 intro A I s vals ak R hv QQ E g
 obtain ⟨v,rfl,h1⟩:=hv.inv1
 obtain ⟨_,rfl⟩:=h1.inv
 obtain ⟨o,ho,t,u,v,rfl⟩:=R.cell r _ hm
 have e : (Builtin.Range.rangeSize a b 1) = ((rng a b).length : Int):=by
  rw [rangeSize_one,rng_len];split <;> lia
 refine call_list_range (n:=(rng a b).length) (ak.hd.trans hh) ho (small_one ha.1 ha.2 hb.1 hb.2) e (by refine rr rng_len ?_;lia) fun h' tk acc c kk hg hi=>?_
 haveI G:=Gr.put (tk:=tk) (I:=I) R.im kk (Heap.get?_none_of_le (Nat.le_refl _)) hg
 refine g.gr R G (v:=.lst ((rng a b).map .int)) ?_ q
 haveI hI : (I.put s.heap.objs.size { cls:=.type "list",dict:=none,data:=.seq acc c,slots:=#[] }) s.heap.objs.size = some (listOf acc.toList.toArray c):=by refine rr (Im.put_self ..) ?_;rfl
 refine .mk_lst hI ⟨by simp [hi.1],fun i x v hx hv=>?_⟩
 have hv' : acc[i]? = some v:=by simpa using hv
 obtain ⟨t,rfl⟩:=hi.2 i v hv'
 replace hx:=(List.getElem?_map ..) ▸ hx;rw [rng] at hx;replace hx:=(List.getElem?_map ..) ▸ hx
 haveI hi' : i < (b - a).toNat:=by
  haveI h1:=(Array.getElem?_eq_some_iff.mp hv').1
  replace h1:=(hi.1 ..) ▸ h1;replace h1:=rng_len ▸ h1
  exact h1
 replace hx:=(List.getElem?_range hi' ..) ▸ hx
 obtain rfl:=si hx
 haveI e2 : a + (i : Int) * 1 = a + i:=by lia
 refine rr e2 ?_
 exact .int _ _
theorem EV.and2 {x y : Expr} {pos : Pos} (h : EV prog w C Φ x ρ σ fun v σ'=>∃ b,v = .bool b∧if b then EV prog w C Φ y ρ σ' Q else Q (.bool false) σ') : EV prog w C Φ (.BoolOp .And [x,y] pos) ρ σ Q:=by
 intro A I s a R QQ E g
 refine BoolOp_and (h A I s a R _ E fun v σ' I' s' val z0 hv R' k=>?_)
 obtain ⟨b,e,q⟩:=z0
 subst e
 obtain ⟨_,rfl⟩:=hv.inv
 refine wpAny_truthy_bool ?_
 cases b with
 | true=>exact BoolOp_one (q A I' s' a R' QQ E (g.after R' k))
 | false=>exact g _ σ' I' s' _ q (.bool _) R' k
theorem CO.neNone {Q : Bool→St→Prop} (q : Q false σ) : CO prog w C Φ ρ σ .NotEq .none .none Q:=fun A I s vx vy a R hx hy QQ E g=>by
 obtain ⟨_,rfl⟩:=hx.inv;obtain ⟨_,rfl⟩:=hy.inv
 exact SeqAt.RcNeAt.none_none prog w E QQ (g.here R (.bool _) ⟨_,rfl,q⟩)
theorem CO.neNag {k : Int} {m l : List Nat} {Q : Bool→St→Prop} (q : Q false σ) : CO prog w C Φ ρ σ .NotEq (.tup [.int k,.str m,.str l]) (.tup [.int k,.str m,.str l]) Q:=fun A I s vx vy a R hx hy QQ E g=>by
 obtain ⟨x,vs,n,rfl,hI,hvs⟩:=hx.tup_inv
 obtain ⟨y,us,n',rfl,hJ,hus⟩:=hy.tup_inv
 haveI z:=SeqAt.RcNeAt.tuples (A:=A) (s:=s) (e:=fun _=>true) (l:=x) (b:=y) (items:=vs.toArray) (items2:=us.toArray) ⟨_,R.im _ _ hI,rfl,_,rfl⟩ ⟨_,R.im _ _ hJ,rfl,_,rfl⟩ a.units fun j h1 h2=>by
  have h1' : j < vs.length:=by simpa using h1
  have h2' : j < us.length:=by simpa using h2
  obtain ⟨p,hp,rp⟩:=hvs.get' (List.getElem?_eq_getElem h1')
  obtain ⟨p',hp',rp'⟩:=hus.get' (List.getElem?_eq_getElem h2')
  replace hp':=hp ▸ hp'
  obtain rfl:=si hp'
  haveI hj : j < 3:=by have:=hvs.1;simp at this;lia
  match j,hj,hp with
  | 0,_,hp=>obtain rfl:=si hp;have:=eqAt_int (A:=A.in1) (s:=s) _ _ _ _ rp rp';rwa [decide_eq_true rfl] at this
  | 1,_,hp=>obtain rfl:=si hp;have:=eqAt_str (A:=A.in1) (s:=s) _ _ _ _ rp rp';rwa [decide_eq_true rfl] at this
  | 2,_,hp=>obtain rfl:=si hp;have:=eqAt_str (A:=A.in1) (s:=s) _ _ _ _ rp rp';rwa [decide_eq_true rfl] at this
 haveI e : (!((List.range (min vs.toArray.size us.toArray.size)).all (fun _=>true) && vs.toArray.size == us.toArray.size)) = false:=by
  haveI l1:=hvs.1
  haveI l2:=hus.1
  simp at l1 l2
  simp [l1,l2]
 replace z:=e ▸ z
 exact z prog w E QQ (g.here R (.bool _) ⟨_,rfl,q⟩)
end
noncomputable def fnOf : Stmt→Fn
 | .FunctionDef name args body _ _ _ scope _ _ _=>⟨name,name,args,body,scope⟩
 | _=>⟨"","",⟨[],[],none,[],[],none,[]⟩,[],⟨.module,[],false,false,[]⟩⟩
noncomputable def stmtAt (k : Nat) : Stmt:=(PySem.Challenge.pw_xe0032_01.main.body).getD k (.Pass ⟨0,0,0,0⟩)
noncomputable def d_quote : Fn:=fnOf (stmtAt 6)
theorem ok_quote : d_quote.ok ["bindata"] = true:=by decide +kernel
noncomputable def d_eols : Fn:=fnOf (stmtAt 7)
theorem ok_eols : d_eols.ok ["data"] = true:=by decide +kernel
noncomputable def d_unm : Fn:=fnOf (stmtAt 9)
theorem ok_unm : d_unm.ok ["match"] = true:=by decide +kernel
noncomputable def d_hdn : Fn:=fnOf (stmtAt 11)
theorem ok_hdn : d_hdn.ok ["text"] = true:=by decide +kernel
noncomputable def d_fmt : Fn:=fnOf (stmtAt 15)
theorem ok_fmt : d_fmt.ok ["w"] = true:=by decide +kernel
noncomputable def d_heaps : Fn:=fnOf (stmtAt 17)
theorem ok_heaps : d_heaps.ok ["script"] = true:=by decide +kernel
noncomputable def d_leads : Fn:=fnOf (stmtAt 18)
theorem ok_leads : d_leads.ok ["heaps"] = true:=by decide +kernel
noncomputable def d_read : Fn:=fnOf (stmtAt 19)
theorem ok_read : d_read.ok ["rows","found"] = true:=by decide +kernel
noncomputable def d_news : Fn:=fnOf (stmtAt 20)
theorem ok_news : d_news.ok ["found"] = true:=by decide +kernel
noncomputable def d_cols : Fn:=fnOf (stmtAt 21)
theorem ok_cols : d_cols.ok ["lead"] = true:=by decide +kernel
noncomputable def d_lefter : Fn:=fnOf (stmtAt 22)
theorem ok_lefter : d_lefter.ok ["one","other"] = true:=by decide +kernel
noncomputable def d_plain : Fn:=fnOf (stmtAt 23)
theorem ok_plain : d_plain.ok ["leads"] = true:=by decide +kernel
noncomputable def d_least : Fn:=fnOf (stmtAt 24)
theorem ok_least : d_least.ok ["above"] = true:=by decide +kernel
inductive GAt (h₀ : Heap) (mg : Str→Option Value) (x : Str) (d : Fn) : Prop | mk (f : Addr) (cdv : Value) (h1 : mg x = some (.ref f)) (h2 : FnAt h₀ f d cdv)
structure Gl (h₀ : Heap) (mg mb : Str→Option Value) : Prop where
 tx : Tx h₀ mg mb
 nb : Nb mg
 f_quote : GAt h₀ mg "_quote_periods" d_quote
 f_eols : GAt h₀ mg "_fix_eols" d_eols
 f_unm : GAt h₀ mg "unmatched" d_unm
 f_hdn : GAt h₀ mg "liberal_is_HDN" d_hdn
 f_fmt : GAt h₀ mg "format_witnesses" d_fmt
 f_heaps : GAt h₀ mg "_law_heaps" d_heaps
 f_leads : GAt h₀ mg "_law_leads" d_leads
 f_read : GAt h₀ mg "_law_read" d_read
 f_news : GAt h₀ mg "_law_news" d_news
 f_cols : GAt h₀ mg "_law_columns" d_cols
 f_lefter : GAt h₀ mg "_law_lefter" d_lefter
 f_plain : GAt h₀ mg "_law_plain" d_plain
 f_least : GAt h₀ mg "_law_least" d_least
section
variable {mg mb : Str→Option Value}
theorem bind_quote : BindOk d_quote ["bindata"]:=.n1 fun _ _ _ _ _ _=>rfl
theorem EV.fG {d : Fn} {ps : List Str} {x : Str} (ok : d.ok ps = true) (hbind : BindOk d ps) (hd : (x == ("__debug__" : Str)) = false) (Ok : Φ.Ok) (T : Tx Φ.h₀ mg mb) (hl : 2 ≤ Φ.lvl) (g : GAt Φ.h₀ mg x d) {p pos : Pos} {e : Expr} {args : List Expr} {Q : QV} (hx : Φ.env.kindOf x = some .globalImplicit)
  (he : starEach (e :: args) Φ.env = (false,eval e Φ.env) :: starEach args Φ.env) (h : EA prog w C Φ pos (e :: args) ρ σ (kFn prog w C Φ d ps Q)) : EV prog w C Φ (.Call (.Name x p) (e :: args) [] pos) ρ σ Q:=by
 obtain ⟨f,cdv,hm,hf⟩:=g
 exact EV.callF Ok T ok hl hf hbind hx hd hm he h
noncomputable def EV.f_quote (Ok : Φ.Ok) (G : Gl Φ.h₀ mg mb) (hl : 2 ≤ Φ.lvl):=@EV.fG prog w C Φ ρ σ mg mb _ _ _ ok_quote bind_quote (by decide +kernel) Ok G.tx hl G.f_quote
theorem bind_eols : BindOk d_eols ["data"]:=.n1 fun _ _ _ _ _ _=>rfl
noncomputable def EV.f_eols (Ok : Φ.Ok) (G : Gl Φ.h₀ mg mb) (hl : 2 ≤ Φ.lvl):=@EV.fG prog w C Φ ρ σ mg mb _ _ _ ok_eols bind_eols (by decide +kernel) Ok G.tx hl G.f_eols
theorem bind_unm : BindOk d_unm ["match"]:=.n1 fun _ _ _ _ _ _=>rfl
noncomputable def EV.f_unm (Ok : Φ.Ok) (G : Gl Φ.h₀ mg mb) (hl : 2 ≤ Φ.lvl):=@EV.fG prog w C Φ ρ σ mg mb _ _ _ ok_unm bind_unm (by decide +kernel) Ok G.tx hl G.f_unm
theorem bind_hdn : BindOk d_hdn ["text"]:=.n1 fun _ _ _ _ _ _=>rfl
noncomputable def EV.f_hdn (Ok : Φ.Ok) (G : Gl Φ.h₀ mg mb) (hl : 2 ≤ Φ.lvl):=@EV.fG prog w C Φ ρ σ mg mb _ _ _ ok_hdn bind_hdn (by decide +kernel) Ok G.tx hl G.f_hdn
theorem bind_fmt : BindOk d_fmt ["w"]:=.n1 fun _ _ _ _ _ _=>rfl
theorem bind_heaps : BindOk d_heaps ["script"]:=.n1 fun _ _ _ _ _ _=>rfl
noncomputable def EV.f_heaps (Ok : Φ.Ok) (G : Gl Φ.h₀ mg mb) (hl : 2 ≤ Φ.lvl):=@EV.fG prog w C Φ ρ σ mg mb _ _ _ ok_heaps bind_heaps (by decide +kernel) Ok G.tx hl G.f_heaps
theorem bind_leads : BindOk d_leads ["heaps"]:=.n1 fun _ _ _ _ _ _=>rfl
noncomputable def EV.f_leads (Ok : Φ.Ok) (G : Gl Φ.h₀ mg mb) (hl : 2 ≤ Φ.lvl):=@EV.fG prog w C Φ ρ σ mg mb _ _ _ ok_leads bind_leads (by decide +kernel) Ok G.tx hl G.f_leads
theorem bind_read : BindOk d_read ["rows","found"]:=.n2 fun _ _ _ _ _ _ _=>rfl
theorem bind_news : BindOk d_news ["found"]:=.n1 fun _ _ _ _ _ _=>rfl
noncomputable def EV.f_news (Ok : Φ.Ok) (G : Gl Φ.h₀ mg mb) (hl : 2 ≤ Φ.lvl):=@EV.fG prog w C Φ ρ σ mg mb _ _ _ ok_news bind_news (by decide +kernel) Ok G.tx hl G.f_news
theorem bind_cols : BindOk d_cols ["lead"]:=.n1 fun _ _ _ _ _ _=>rfl
noncomputable def EV.f_cols (Ok : Φ.Ok) (G : Gl Φ.h₀ mg mb) (hl : 2 ≤ Φ.lvl):=@EV.fG prog w C Φ ρ σ mg mb _ _ _ ok_cols bind_cols (by decide +kernel) Ok G.tx hl G.f_cols
theorem bind_lefter : BindOk d_lefter ["one","other"]:=.n2 fun _ _ _ _ _ _ _=>rfl
noncomputable def EV.f_lefter (Ok : Φ.Ok) (G : Gl Φ.h₀ mg mb) (hl : 2 ≤ Φ.lvl):=@EV.fG prog w C Φ ρ σ mg mb _ _ _ ok_lefter bind_lefter (by decide +kernel) Ok G.tx hl G.f_lefter
theorem bind_plain : BindOk d_plain ["leads"]:=.n1 fun _ _ _ _ _ _=>rfl
noncomputable def EV.f_plain (Ok : Φ.Ok) (G : Gl Φ.h₀ mg mb) (hl : 2 ≤ Φ.lvl):=@EV.fG prog w C Φ ρ σ mg mb _ _ _ ok_plain bind_plain (by decide +kernel) Ok G.tx hl G.f_plain
theorem bind_least : BindOk d_least ["above"]:=.n1 fun _ _ _ _ _ _=>rfl
noncomputable def EV.f_least (Ok : Φ.Ok) (G : Gl Φ.h₀ mg mb) (hl : 2 ≤ Φ.lvl):=@EV.fG prog w C Φ ρ σ mg mb _ _ _ ok_least bind_least (by decide +kernel) Ok G.tx hl G.f_least
end
set_option hygiene false in
local macro_rules | `(tactic| walk_at "n")=>`(tactic| (with_reducible refine' EV.name Ok ?hi9 ?hv9 ?_;(case hi9=>assumption));case hv9=>rfl)
set_option hygiene false in
local macro_rules | `(tactic| walk_at "e")=>`(tactic| first
 | walk_at "n"
 | with_reducible first
  | apply EV.int
  | apply EA.nil
  | apply EV.op
  | apply EV.sliceL
  | apply EV.sub
  | apply EV.bool
  | apply EV.noneC
  | apply EV.ifexp
  | apply EV.neg
  | apply ET.not_
  | apply ET.and_
  | apply ET.or_
  | apply EO.one
  | apply EO.no
  | apply OP.addI
  | apply OP.subI
  | apply CO.eqI
  | apply CO.eqS
 | (with_reducible refine EA.cons ?hi9 ?_);case hi9=>rfl
 | (with_reducible refine ET.co ?hi9 ?_);case hi9=>rfl
 | (with_reducible first
   | apply EV.bB (by constructor) Ok
   | apply EV.bT (by constructor) Ok
   | apply IE1.bT (by constructor) Ok
   | apply IE2.bT (by constructor) Ok);iterate 6 first | rfl | exact G.tx | exact G.nb
 | (with_reducible apply EV.meth (by constructor));iterate 3 rfl
 | (with_reducible apply EV.meth0 (by constructor));rfl)
noncomputable def colStep (size col : Int) (c : Nat) : Int:=if c = 32 then col + 1 else (col.fdiv size + 1) * size
noncomputable def col1 (lead : List Nat) (size : Int) : Int:=lead.foldl (colStep size) 0
noncomputable def cols (lead : List Nat) : List Int:=(rng 1 4).map (col1 lead)
section
variable {mg mb : Str→Option Value}
inductive J1_1 (σ : St) (lead : List Nat) (a : Addr) (rest : List Int) (ρ₁ : List (Option V)) (σ₁ : St) : Prop
 | mk (done : _) (x : _) (y : _) (z : _) (h0 : done ++ rest.map (col1 lead) = cols lead) (h1 : ρ₁ = [some (.str lead),some (.ref a),x,y,z]) (h2 : σ₁ = (a,.lst (done.map .int)) :: σ)
inductive J1_2 (σ : St) (lead : List Nat) (a : Addr) (size : Int) (done : List Int) (rest' : List Nat) (ρ₁ : List (Option V)) (σ₁ : St) : Prop
 | mk (col : _) (z : _) (h0 : rest'.foldl (colStep size) col = col1 lead size) (h1 : ρ₁ = [some (.str lead),some (.ref a),some (.int size),some (.int col),z]) (h2 : σ₁ = (a,.lst (done.map .int)) :: σ)
theorem cols_fn (G : Gl Φ.h₀ mg mb) (hh : Φ.hd = none) (hl : 2 ≤ Φ.lvl) {lead : List Nat} {Q : QV} (q : Q (VI (cols lead)) σ) : FnBody prog w C Φ d_cols [.str lead] σ Q:=by
 refine FnBody.of ok_cols hl [some (.str lead),none,none,none,none] rfl fun L f cdv Ok=>?_
 haveI hh : (Φ.enter d_cols L f cdv).hd = none:=hh
 haveI s0 : Sl (Φ.enter d_cols L f cdv) 0 "lead" none:=rfl
 haveI s1 : Sl (Φ.enter d_cols L f cdv) 1 "columns" none:=rfl
 haveI s2 : Sl (Φ.enter d_cols L f cdv) 2 "size" none:=rfl
 haveI s3 : Sl (Φ.enter d_cols L f cdv) 3 "column" none:=rfl
 haveI s4 : Sl (Φ.enter d_cols L f cdv) 4 "sign" none:=rfl
 refine EX.cons (EX1.assign Ok (i:=1) rfl (.inl rfl) rfl (EV.lstM (EA.nil ⟨by decide,fun a=>?_⟩)))
 refine EX.cons (EX1.for1 Ok (i:=2) rfl (.inl rfl) (fun _=>rfl) V.int ?_)
 repeat walk_at "e"
 refine IB1.range2 hh (a₀:=1) (b:=4) (by decide) (by decide) ?_
 refine ⟨_,(J1_1 σ lead a),rfl,⟨[],_,_,_,rfl,rfl,rfl⟩,?_,?_⟩
 ·rintro size rest _ _ hsuf ⟨done,x,y,z,hd,rfl,rfl⟩
  haveI hm : size∈rng 1 4:=hsuf.subset (.head _)
  haveI hsz : size ≠ 0∧size.natAbs < 1073741824∧Builtin.Int.intBits size ≤ 64 :=
   (by decide : ∀ s∈rng 1 4,s ≠ 0∧s.natAbs < 1073741824∧Builtin.Int.intBits s ≤ 64) size hm
  haveI hdl : done.length ≤ 3:=by have:=congrArg List.length hd;simp [cols,rng] at this;lia
  refine EX.cons (EX1.assign Ok (i:=3) rfl (.inl rfl) rfl ?_)
  repeat walk_at "e"
  refine EX.cons (EX1.for1 Ok (i:=4) rfl (.inl rfl) (fun _=>rfl) (fun c : Nat=>V.str [c]) ?_)
  refine IE1.str hh ?_
  walk_at "e"
  refine ⟨_,rfl,lead,(J1_2 σ lead a size done),rfl,⟨_,_,rfl,rfl,rfl⟩,?_,?_⟩
  ·rintro c rest' _ _ hsuf' ⟨col,z,hcol,rfl,rfl⟩
   refine EX.cons (EX1.assign Ok (i:=3) rfl (.inl rfl) rfl ?_)
   walk_at "e"
   walk_at "e"
   walk_at "e"
   refine EV.str (l:=[32]) (by decide +kernel) ?_
   walk_at "e"
   by_cases hc : c = 32
   ·subst hc
    try simp only [decide_true,if_true]
    repeat walk_at "e"
    exact EX.nil ⟨_,_,hcol,rfl,rfl⟩
   ·haveI e : decide ([c] = [32]) = false:=by simp [hc]
    refine rr e ?_
    try simp only [Bool.false_eq_true,if_false]
    walk_at "e"
    walk_at "e"
    walk_at "e"
    walk_at "e"
    walk_at "e"
    refine OP.divIs hsz.1 hsz.2.1 ?_
    walk_at "e"
    walk_at "e"
    walk_at "e"
    refine OP.mulIr hsz.2.2 ?_
    refine EX.nil ⟨_,_,?_,rfl,rfl⟩
    replace hcol:=(List.foldl_cons ..) ▸ hcol
    refine rl hcol ?_
    simp [colStep,hc]
  ·rintro _ _ ⟨col,z,hcol,rfl,rfl⟩
   refine EX.cons (EX1.expr rfl rfl ?_)
   walk_at "e"
   walk_at "e"
   refine ⟨.inl ⟨_,.head _,rfl⟩,?_⟩
   walk_at "e"
   walk_at "e"
   walk_at "e"
   refine BJ.append (i:=0) rfl (by simp;exact Nat.le_trans hdl (by decide)) ?_
   refine EX.nil ⟨done ++ [col],_,_,_,?_,rfl,by simp⟩
   haveI hc : col = col1 lead size:=hcol
   refine rl hd ?_;refine rr hc ?_
   simp
 ·rintro _ _ ⟨done,x,y,z,hd,rfl,rfl⟩
  haveI hd : done = cols lead:=by simpa using hd
  refine EX.freeze (i:=0) (j:=1) rfl rfl ?_
  refine EX.cons (EX1.ret ?_)
  walk_at "e"
  refine rr hd ?_
  exact q
end
noncomputable def lefter (xs ys : List Int) : Bool:=decide (((xs.zip ys).filter fun p=>decide (p.2 ≤ p.1)).map (·.1) = [])
section
variable {mg mb : Str→Option Value}
theorem lefter_fn (G : Gl Φ.h₀ mg mb) (hh : Φ.hd = none) (hl : 2 ≤ Φ.lvl) {xs ys : List Int} (hz : xs.length ≤ 100) {Q : QV} (q : Q (.bool (lefter xs ys)) σ) : FnBody prog w C Φ d_lefter [VI xs,VI ys] σ Q:=by
 refine FnBody.of ok_lefter hl [some (VI xs),some (VI ys)] rfl fun L f cdv Ok=>?_
 haveI hh : (Φ.enter d_lefter L f cdv).hd = none:=hh
 haveI s0 : Sl (Φ.enter d_lefter L f cdv) 0 "one" none:=rfl
 haveI s1 : Sl (Φ.enter d_lefter L f cdv) 1 "other" none:=rfl
 refine EX.cons (EX1.ret (EV.co rfl ?_))
 refine EV.compF2 Ok hh (by decide +kernel) rfl (fun _=>rfl) (i:=1) (j:=2) rfl rfl (fun p : Int × Int=>(.int p.1,.int p.2)) (fun p=>decide (p.2 ≤ p.1)) (fun p=>.int p.1) ?_
 repeat walk_at "e"
 refine IB2.zip hh ?_
 refine ⟨xs.zip ys,?_,?_,fun p hp L' D ys' OkC=>?_,?_⟩
 ·simp [List.zip_map]
 ·simp;exact Nat.le_trans (Nat.min_le_left _ _) (Nat.le_trans hz (by decide))
 ·refine ET.co rfl ?_
  refine EV.name OkC (i:=1) rfl rfl ?_
  refine EV.name OkC (i:=2) rfl rfl ?_
  refine CO.geI ⟨rfl,rfl,fun hp=>?_⟩
  refine EV.name OkC (i:=1) rfl rfl ⟨rfl,rfl⟩
 ·refine EV.lstF (EA.nil ⟨by decide,?_⟩)
  refine CO.eqLI (xs:=((xs.zip ys).filter fun p=>decide (p.2 ≤ p.1)).map (·.1)) (ys:=[]) (.inl (by simp [Function.comp_def])) (.inl rfl) ?_
  exact q
end
noncomputable def bitsOf (above : List Int) (one : Int) : List Int:=((rng 0 above.length).filter fun k=>decide (above.getD k.toNat 0 = one)).map fun k=>2 ^ k.toNat
noncomputable def groupsOf (above : List Int) : List Int→List (Int × List Int)
 | []=>[]
 | one :: r=>if decide (bitsOf above one = []) then groupsOf above r else (2 ^ one.toNat,bitsOf above one) :: groupsOf above r
noncomputable def freshOf (state : Int) (bits : List Int) : List Int:=bits.filter fun b=>decide (Builtin.bitAnd state b = 0)
noncomputable def waysOf (state : Int) : List (Int × List Int)→List Int→List Int
 | [],ways=>ways
 | g :: r,ways=>if decide (Builtin.bitAnd state g.1 ≠ 0) && !decide (freshOf state g.2 = []) then waysOf state r (ways.flatMap fun w=>(freshOf state g.2).map fun b=>w + b) else waysOf state r ways
theorem waysOf_c {state : Int} {g r} {ways} : waysOf state (g :: r) ways = (if decide (Builtin.bitAnd state g.1 ≠ 0) && !decide (freshOf state g.2 = []) then waysOf state r (ways.flatMap fun w=>(freshOf state g.2).map fun b=>w + b) else waysOf state r ways):=rfl
noncomputable def laterOf (groups : List (Int × List Int)) : List Int→List Int→Option (List Int)
 | [],later=>some later
 | s :: r,later=>if later.length + (waysOf s groups [s]).length ≤ 100000 then laterOf groups r (later ++ (waysOf s groups [s]).filter fun w=>!decide (w∈later)) else none
noncomputable def leastLoop (groups : List (Int × List Int)) (full : Int) : Nat→List Int→Int→Option Int
 | 0,_,_=>none
 | n + 1,states,rounds=>if !decide (full∈states) then (match laterOf groups states [] with
  | none=>none
  | some l=>leastLoop groups full n l (rounds + 1)) else some rounds
noncomputable def least (above : List Int) : Option Int:=leastLoop (groupsOf above (rng 0 above.length)) (2 ^ above.length - 1) 20 [1] 0
noncomputable def VG (gs : List (Int × List Int)) : List V:=gs.map fun g=>.tup [.int g.1,VI g.2]
section
variable {mg mb : Str→Option Value}
inductive J3_1 (σ : St) (above : List Int) (ga : Addr) (rest : List Int) (ρ₁ : List (Option V)) (σ₁ : St) : Prop
 | mk (done : _) (x : _) (y : _) (h0 : done ++ groupsOf above rest = groupsOf above (rng 0 above.length)) (h1 : ρ₁ = [some (VI above),some (.ref ga),x,y,none,none,none,none,none,none,none]) (h2 : σ₁ = (ga,.lst (VG done)) :: σ)
inductive J3_2 (σ : St) (above : List Int) (r : Int) (gs : List (Int × List Int)) (n : Nat) (ρ₁ : List (Option V)) (σ₁ : St) : Prop
 | mk (states : _) (rounds : _) (x2 : _) (x3 : _) (x6 : _) (x7 : _) (x8 : _) (x9 : _) (x10 : _) (h0 : leastLoop gs (2 ^ above.length - 1) n states rounds = some r) (h1 : ρ₁ = [some (VI above),some (.lst (VG gs)),x2,x3,some (VI states),some (.int rounds),x6,x7,x8,x9,x10]) (h2 : σ₁ = σ)
inductive J3_3 (above : List Int) (gs : List (Int × List Int)) (σ : St) (states : List Int) (rounds : Int) (x2 : Option V) (l : List Int) (la : Addr) (rest : List Int) (ρ₁ : List (Option V)) (σ₁ : St) : Prop
 | mk (acc : _) (x3 : _) (x7 : _) (x8 : _) (x9 : _) (x10 : _) (h0 : laterOf gs rest acc = some l) (h1 : ρ₁ = [some (VI above),some (.lst (VG gs)),x2,x3,some (VI states),some (.int rounds),some (.ref la),x7,x8,x9,x10]) (h2 : σ₁ = (la,.lst (acc.map .int)) :: σ)
inductive J3_4 (above : List Int) (gs : List (Int × List Int)) (σ : St) (states : List Int) (rounds : Int) (x2 : Option V) (la : Addr) (s : Int) (acc : List Int) (rest' : List (Int × List Int)) (ρ₁ : List (Option V)) (σ₁ : St) : Prop
 | mk (ways : _) (x3 : _) (x9 : _) (x10 : _) (h0 : waysOf s rest' ways = waysOf s gs [s]) (h1 : ways.length * 7 ^ rest'.length ≤ 7 ^ 7) (h2 : ρ₁ = [some (VI above),some (.lst (VG gs)),x2,x3,some (VI states),some (.int rounds),some (.ref la),some (.int s),some (VI ways),x9,x10]) (h3 : σ₁ = (la,.lst (acc.map .int)) :: σ)
theorem least_fn (G : Gl Φ.h₀ mg mb) (hh : Φ.hd = none) (hl : 2 ≤ Φ.lvl) {above : List Int} (hz : above.length ≤ 7) {r : Int} (hr : least above = some r) {Q : QV} (q : Q (.int r) σ) : FnBody prog w C Φ d_least [VI above] σ Q:=by
 refine FnBody.of ok_least hl [some (VI above),none,none,none,none,none,none,none,none,none,none] rfl fun L f cdv Ok=>?_
 haveI hh : (Φ.enter d_least L f cdv).hd = none:=hh
 haveI s0 : Sl (Φ.enter d_least L f cdv) 0 "above" (some (L + 1)):=rfl
 haveI s1 : Sl (Φ.enter d_least L f cdv) 1 "groups" none:=rfl
 haveI s2 : Sl (Φ.enter d_least L f cdv) 2 "one" (some (L + 1 + 1)):=rfl
 haveI s3 : Sl (Φ.enter d_least L f cdv) 3 "bits" none:=rfl
 haveI s4 : Sl (Φ.enter d_least L f cdv) 4 "states" none:=rfl
 haveI s5 : Sl (Φ.enter d_least L f cdv) 5 "rounds" none:=rfl
 haveI s6 : Sl (Φ.enter d_least L f cdv) 6 "later" (some (L + 1 + 1 + 1)):=rfl
 haveI s7 : Sl (Φ.enter d_least L f cdv) 7 "state" (some (L + 1 + 1 + 1 + 1)):=rfl
 haveI s8 : Sl (Φ.enter d_least L f cdv) 8 "ways" none:=rfl
 haveI s9 : Sl (Φ.enter d_least L f cdv) 9 "teller" none:=rfl
 haveI s10 : Sl (Φ.enter d_least L f cdv) 10 "fresh" (some (L + 1 + 1 + 1 + 1 + 1)):=rfl
 haveI hlen : ((above.map V.int).length : Int) = above.length:=by simp
 haveI hl1 : above.length ≤ 1000000:=by lia
 refine EX.cons (EX1.assign Ok (i:=1) rfl (.inl rfl) rfl (EV.lstM (EA.nil ⟨by decide,fun ga=>?_⟩)))
 refine EX.cons (EX1.for1 Ok (i:=2) rfl (.inr rfl) (fun _=>rfl) V.int ?_)
 repeat walk_at "e"
 refine BJ.lenL (xs:=above.map V.int) (.inl rfl) (sl _ (by simpa using hl1)) ?_
 repeat walk_at "e"
 refine IB1.range1 hh (by refine rr hlen ?_;lia) ?_
 refine ⟨rng 0 above.length,(J3_1 σ above ga),by refine rr hlen ?_;rfl,⟨[],_,_,rfl,rfl,rfl⟩,?_,?_⟩
 ·rintro one rest _ _ hsuf ⟨done,x,y,hd,rfl,rfl⟩
  haveI hone:=rng_mem (hsuf.subset (.head _))
  refine EX.cons (EX1.compF Ok (by decide +kernel) rfl (fun _=>rfl) (j:=3) rfl rfl (i:=1) rfl V.int (fun k=>decide (above.getD k.toNat 0 = one)) (fun k=>.int (2 ^ k.toNat)) ?_)
  repeat walk_at "e"
  refine BJ.lenL (xs:=above.map V.int) (.inl rfl) (sl _ (by simpa using hl1)) ?_
  repeat walk_at "e"
  refine IB1.range1 hh (by refine rr hlen ?_;lia) ?_
  haveI hrl : (rng 0 (above.length : Int)).length = above.length:=by refine rr rng_len ?_;lia
  refine ⟨rng 0 above.length,by refine rr hlen ?_;rfl,sl _ (by refine rr hrl ?_;exact hl1),fun k hk L' D ys' OkC=>?_,?_⟩
  ·haveI hk':=rng_mem hk
   refine ET.co rfl (EV.sub ?_)
   refine EV.name OkC (i:=2) rfl rfl ?_
   refine EV.name OkC (i:=1) rfl rfl ?_
   refine ⟨⟨"list",rfl⟩,GI.listI (xs:=above.map V.int) (v:=.int (above.getD k.toNat 0)) (.inl rfl) hk'.1 (by lia) ?_ ?_⟩
   ·haveI : k.toNat < above.length:=by lia
    simp [this]
   refine EV.name OkC (i:=3) rfl rfl ?_
   refine CO.eqI ⟨rfl,rfl,fun _=>?_⟩
   refine EV.op (EV.int ?_)
   refine EV.name OkC (i:=1) rfl rfl ?_
   exact OP.powI hk'.1 (by lia) (by decide) ⟨rfl,rfl⟩
  haveI hb : List.map (fun k : Int=>V.int (2 ^ k.toNat)) (List.filter (fun k : Int=>decide (above.getD k.toNat 0 = one)) (rng 0 above.length)) = (bitsOf above one).map V.int:=by simp [bitsOf,List.map_map,Function.comp_def]
  refine rr hb ?_
  haveI hgl : ∀ l,(groupsOf above l).length ≤ l.length:=by
   intro l
   induction l with
   | nil=>exact Nat.le_refl _
   | cons a l ih=>unfold groupsOf;split <;> simp <;> lia
  haveI hdl : done.length ≤ above.length:=by
   haveI z:=congrArg List.length hd
   haveI z2:=hgl (rng 0 above.length)
   replace z2:=hrl ▸ z2
   replace z:=(List.length_append ..) ▸ z
   lia
  refine EX.cons (EX1.if_ (ET.co rfl ?_))
  walk_at "e"
  refine EV.lstF (EA.nil ⟨by decide,?_⟩)
  refine CO.neLI (xs:=bitsOf above one) (ys:=[]) (.inl rfl) (.inl rfl) ?_
  by_cases hbe : bitsOf above one = []
  ·haveI e1 : (!decide (bitsOf above one = [])) = false:=by refine rr hbe ?_;rfl
   refine rr e1 ?_
   refine EX.nil (EX.nil ⟨done,_,_,?_,rfl,rfl⟩)
   refine rl hd ?_;rw [groupsOf];refine rr (if_pos (by simpa using hbe) ..) ?_;rfl
  ·haveI e1 : (!decide (bitsOf above one = [])) = true:=by simpa using hbe
   refine rr e1 ?_
   refine EX.cons (EX1.expr rfl rfl ?_)
   walk_at "e"
   walk_at "e"
   refine ⟨.inl ⟨_,.head _,rfl⟩,?_⟩
   walk_at "e"
   refine EV.tupF ?_
   repeat walk_at "e"
   refine OP.powI hone.1 (by lia) (by decide) ?_
   repeat walk_at "e"
   refine ⟨sl 2 (by decide),?_⟩
   walk_at "e"
   refine BJ.append (i:=0) rfl (sl _ (by simp [VG];lia)) ?_
   refine EX.nil (EX.nil ⟨done ++ [(2 ^ one.toNat,bitsOf above one)],_,_,?_,rfl,by simp [VG,VI]⟩)
   refine rl hd ?_
   conv=>rhs;rw [groupsOf,if_neg (by simpa using hbe)]
   simp
 ·rintro _ _ ⟨gs,x,y,hd,rfl,rfl⟩
  haveI hgs : gs = groupsOf above (rng 0 above.length):=by simpa [groupsOf] using hd
  haveI hgl : gs.length ≤ 7:=by
   haveI : ∀ l,(groupsOf above l).length ≤ l.length:=by
    intro l
    induction l with
    | nil=>exact Nat.le_refl _
    | cons a l ih=>unfold groupsOf;split <;> simp <;> lia
   refine rr hgs ?_
   exact Nat.le_trans (this _) (by refine rr rng_len ?_;lia)
  haveI hbl : ∀ g∈gs,g.2.length ≤ 7:=by
   haveI : ∀ l,∀ g∈groupsOf above l,g.2.length ≤ 7:=by
    intro l
    induction l with
    | nil=>intro g hg;cases hg
    | cons a l ih =>
     intro g hg
     unfold groupsOf at hg
     split at hg
     ·exact ih g hg
     ·rcases List.mem_cons.mp hg with rfl | hg
      ·unfold bitsOf
       refine rr (List.length_map ..) ?_
       exact Nat.le_trans (List.length_filter_le _ _) (by refine rr rng_len ?_;lia)
      ·exact ih g hg
   refine rr hgs ?_
   exact this _
  replace hr : leastLoop gs (2 ^ above.length - 1) 20 [1] 0 = some r:=by refine rr hgs ?_;exact hr
  refine EX.freeze (i:=0) (j:=1) rfl rfl ?_
  refine EX.cons (EX1.assign Ok (i:=4) rfl (.inl rfl) rfl (EV.lstF (EA.cons rfl (EV.int (EA.nil ⟨by decide,?_⟩)))))
  refine EX.cons (EX1.assign Ok (i:=5) rfl (.inl rfl) rfl (EV.int ?_))
  refine EX.cons (EX1.while_ (J3_2 σ above r gs) (n:=20) ⟨[1],0,_,_,_,_,_,_,_,hr,rfl,rfl⟩ ?_)
  rintro n _ σ ⟨states,rounds,x2,x3,x6,x7,x8,x9,x10,hrun,rfl,rfl⟩
  cases n with
  | zero=>exact absurd hrun (by simp [leastLoop])
  | succ n =>
  refine ET.co rfl ?_
  repeat walk_at "e"
  refine BJ.lenL (xs:=above.map V.int) (.inl rfl) (sl _ (by simpa using hl1)) ?_
  refine OP.powI (by lia) (by refine rr hlen ?_;lia) (by decide) ?_
  repeat walk_at "e"
  refine CO.notInLI (ys:=states) (.inl rfl) ?_
  haveI e0 : (2 : Int) ^ ((above.map V.int).length : Int).toNat - 1 = 2 ^ above.length - 1:=by refine rr hlen ?_;rfl
  refine rr e0 ?_
  unfold leastLoop at hrun
  by_cases hin : (2 : Int) ^ above.length - 1∈states
  ·haveI e1 : (!decide ((2 : Int) ^ above.length - 1∈states)) = false:=by simpa using hin
   rw [e1] at hrun ⊢
   refine EX.cons (EX1.ret ?_)
   walk_at "e"
   obtain rfl:=si hrun
   exact q
  ·haveI e1 : (!decide ((2 : Int) ^ above.length - 1∈states)) = true:=by simpa using hin
   rw [e1] at hrun ⊢
   cases hlat : laterOf gs states [] with
   | none=>replace hrun:=hlat ▸ hrun;exact nsm hrun
   | some l =>
   replace hrun:=hlat ▸ hrun
   refine EX.cons (EX1.assign Ok (i:=6) rfl (.inr rfl) rfl (EV.lstM (EA.nil ⟨by decide,fun la=>?_⟩)))
   refine EX.cons (EX1.for1 Ok (i:=7) rfl (.inr rfl) (fun _=>rfl) V.int ?_)
   refine IE1.list hh ?_
   walk_at "e"
   refine ⟨_,rfl,states,(J3_3 above gs σ states rounds x2 l la),rfl,⟨[],_,_,_,_,_,hlat,rfl,rfl⟩,?_,?_⟩
   ·rintro s rest _ _ hsuf ⟨acc,x3,x7,x8,x9,x10,hacc,rfl,rfl⟩
    unfold laterOf at hacc
    split at hacc
    case isFalse=>exact nsm hacc
    rename_i hsz
    refine EX.cons (EX1.assign Ok (i:=8) rfl (.inl rfl) rfl (EV.lstF ?_))
    repeat walk_at "e"
    refine ⟨sl 1 (by decide),?_⟩
    refine EX.cons (EX1.for2 Ok hh (i:=9) (j:=3) rfl (.inl rfl) rfl (.inl rfl) (fun _=>rfl) (fun g : Int × List Int=>(V.int g.1,VI g.2)) ?_)
    refine IE2.pairs hh ?_
    walk_at "e"
    refine ⟨gs.map fun g=>(V.int g.1,VI g.2),by simp [VG,List.map_map,Function.comp_def],gs,(J3_4 above gs σ states rounds x2 la s acc),rfl,⟨[s],_,_,_,rfl,?_,rfl,rfl⟩,?_,?_⟩
    ·refine rr (List.length_singleton ..) ?_;refine rr (Nat.one_mul ..) ?_
     exact Nat.pow_le_pow_right (by decide) hgl
    ·rintro ⟨teller,bits⟩ rest' _ _ hsuf' ⟨ways,x3,x9,x10,hw,hwl,rfl,rfl⟩
     haveI hbits : bits.length ≤ 7:=hbl _ (hsuf'.subset (.head _))
     haveI hfl : (freshOf s bits).length ≤ 7:=Nat.le_trans (List.length_filter_le _ _) hbits
     refine EX.cons (EX1.assign Ok (i:=10) rfl (.inr rfl) rfl ?_)
     refine EV.compF Ok (by decide +kernel) rfl (fun _=>rfl) (i:=1) rfl V.int (fun b=>decide (Builtin.bitAnd s b = 0)) V.int ?_
     refine IE1.list hh ?_
     walk_at "e"
     refine ⟨_,rfl,bits,rfl,sl _ (by lia),fun b hb L' D ys' OkC=>?_,?_⟩
     ·refine ET.not_ (ET.int (fun _ _=>rfl) (EV.op ?_))
      refine EV.name OkC (i:=2) rfl rfl ?_
      refine EV.name OkC (i:=1) rfl rfl ?_
      refine OP.andI ⟨_,rfl,?_,rfl,fun _=>?_⟩
      ·by_cases z : Builtin.bitAnd s b = 0 <;> simp [z]
      ·exact EV.name OkC (i:=1) rfl rfl ⟨rfl,rfl⟩
     refine EX.cons (EX1.if_ (ET.and_ (ET.int (fun _ _=>rfl) (EV.op ?_))))
     repeat walk_at "e"
     refine OP.andI ⟨_,rfl,?_⟩
     rw [waysOf_c] at hw
     haveI hlen7 : ways.length * 7 * 7 ^ rest'.length ≤ 7 ^ 7:=by
      replace hwl:=(List.length_cons ..) ▸ hwl;replace hwl:=(Nat.pow_succ ..) ▸ hwl;replace hwl:=(Nat.mul_comm (7 ^ rest'.length) 7 ..) ▸ hwl;replace hwl:=(Nat.mul_assoc ..).symm ▸ hwl
      exact hwl
     haveI h1 : ways.length * 7 ≤ 7 ^ 7:=Nat.le_trans (Nat.le_mul_of_pos_right _ (Nat.pow_pos (by decide))) hlen7
     haveI skip : ways.length * 7 ^ rest'.length ≤ 7 ^ 7:=Nat.le_trans (Nat.mul_le_mul_right _ (Nat.le_mul_of_pos_right _ (by decide))) hlen7
     by_cases ht : Builtin.bitAnd s teller = 0
     ·haveI e2 : decide (Builtin.bitAnd s teller ≠ 0) = false:=by simpa using ht
      rw [e2] at hw ⊢
      exact EX.nil (EX.nil ⟨ways,_,_,_,hw,skip,rfl,rfl⟩)
     ·haveI e2 : decide (Builtin.bitAnd s teller ≠ 0) = true:=by simpa using ht
      rw [e2] at hw ⊢
      refine ET.co rfl ?_
      walk_at "e"
      refine EV.lstF (EA.nil ⟨by decide,?_⟩)
      refine CO.neLI (xs:=freshOf s bits) (ys:=[]) (.inl rfl) (.inl rfl) ?_
      by_cases hf : freshOf s bits = []
      ·haveI e3 : (!decide (freshOf s bits = [])) = false:=by simpa using hf
       rw [e3] at hw ⊢
       exact EX.nil (EX.nil ⟨ways,_,_,_,hw,skip,rfl,rfl⟩)
      ·haveI e3 : (!decide (freshOf s bits = [])) = true:=by simpa using hf
       rw [e3] at hw ⊢
       haveI hmul : ways.length * (freshOf s bits).length ≤ ways.length * 7:=Nat.mul_le_mul_left _ hfl
       refine EX.cons (EX1.compFF Ok (by decide +kernel) rfl (fun _=>rfl) (j:=8) rfl rfl (i1:=1) (i2:=2) rfl rfl (by decide) rfl rfl (fun _ _=>rfl) V.int V.int (fun w b=>V.int (w + b)) ?_)
       refine IE1.list hh ?_
       walk_at "e"
       refine ⟨_,rfl,ways,freshOf s bits,rfl,sl _ (by have : (7 : Nat) ^ 7 = 823543:=(by decide);lia),fun x hx L' D ys' o OkC=>?_,?_⟩
       ·refine IE1.list (show ((Φ.enter d_least L f cdv).comp _ L').hd = none from hh) ?_
        refine EV.name OkC (i:=3) rfl rfl ⟨_,rfl,rfl,rfl,fun z hz ys'=>?_⟩
        refine EV.op ?_
        refine EV.name OkC (i:=1) rfl rfl ?_
        refine EV.name OkC (i:=2) rfl rfl ?_
        exact OP.addI ⟨rfl,rfl⟩
       haveI lf : ∀ l : List Int,(l.flatMap fun w=>(freshOf s bits).map fun b=>w + b).length = l.length * (freshOf s bits).length:=by
        intro l
        induction l with
        | nil=>simp
        | cons a l ih=>refine rr (List.flatMap_cons ..) ?_;refine rr (List.length_append ..) ?_;refine rr ih ?_;refine rr (List.length_map ..) ?_;refine rr (List.length_cons ..) ?_;refine rr (Nat.succ_mul ..) ?_;lia
       haveI hfm : (ways.flatMap fun x=>(freshOf s bits).map fun b=>V.int (x + b)) = (ways.flatMap fun w=>(freshOf s bits).map fun b=>w + b).map V.int:=by simp [List.map_flatMap,Function.comp_def]
       refine rr hfm ?_
       refine EX.nil (EX.nil ⟨ways.flatMap fun w=>(freshOf s bits).map fun b=>w + b,_,_,_,hw,?_,rfl,rfl⟩)
       rw [lf]
       exact Nat.le_trans (Nat.mul_le_mul_right _ hmul) hlen7
    ·rintro _ _ ⟨ways,x3,x9,x10,hw,hwl,rfl,rfl⟩
     haveI hw : ways = waysOf s gs [s]:=hw
     refine EX.cons (EX1.expr rfl rfl ?_)
     walk_at "e"
     walk_at "e"
     refine ⟨.inl ⟨_,.head _,rfl⟩,?_⟩
     walk_at "e"
     refine EV.compF Ok (by decide +kernel) rfl (fun _=>rfl) (i:=1) rfl V.int (fun w=>!decide (w∈acc)) V.int ?_
     refine IE1.list hh ?_
     walk_at "e"
     refine ⟨_,rfl,ways,rfl,sl _ (by refine rr hw ?_;lia),fun w hw' L' D ys' OkC=>?_,?_⟩
     ·refine ET.co rfl ?_
      refine EV.name OkC (i:=1) rfl rfl ?_
      refine EV.name OkC (i:=2) rfl rfl ?_
      refine CO.notInLI (ys:=acc) (.inr ⟨_,rfl,.tail _ (.head _)⟩) ⟨rfl,rfl,fun _=>?_⟩
      exact EV.name OkC (i:=1) rfl rfl ⟨rfl,rfl⟩
     walk_at "e"
     refine BJ.extend (i:=0) (ys:=(ways.filter fun w=>!decide (w∈acc)).map V.int) rfl (.inl rfl) (sl _ ?_) ?_
     ·simp only [List.length_map]
      haveI:=List.length_filter_le (fun w=>!decide (w∈acc)) ways
      rw [hw] at this ⊢
      lia
     refine EX.nil ⟨acc ++ ways.filter fun w=>!decide (w∈acc),_,_,_,_,_,?_,rfl,by simp⟩
     refine rr hw ?_
     exact hacc
   ·rintro _ _ ⟨acc,x3,x7,x8,x9,x10,hacc,rfl,rfl⟩
    haveI hacc : acc = l:=by simpa [laterOf] using hacc
    subst hacc
    refine EX.freeze (i:=0) (j:=6) rfl rfl ?_
    refine EX.cons (EX1.assign Ok (i:=4) rfl (.inl rfl) rfl ?_)
    walk_at "e"
    refine EX.cons (EX1.assign Ok (i:=5) rfl (.inl rfl) rfl ?_)
    repeat walk_at "e"
    exact EX.nil ⟨n,Nat.lt_succ_self n,acc,rounds + 1,_,_,_,_,_,_,_,hrun,rfl,rfl⟩
end
noncomputable def farOf (ts : List (List Int)) (ti : List Int) : Nat→Option Nat
 | 0=>if lefter ti (ts.getD 0 []) then none else some 0
 | k + 1=>if lefter ti (ts.getD (k + 1) []) then farOf ts ti k else some (k + 1)
noncomputable def sTab : List Nat:=[105,110,100,101,110,116,32,110,111,116,32,101,113,117,97,108,32,101,46,103,46,32,97,116,32,116,97,98,32,115,105,122,101]
noncomputable def longOf (rf ri : List Nat) : Int:=maxOf ((spl 9 (rf ++ [9] ++ ri)).map fun r=>(r.length : Int))
noncomputable def sizesOf (tf ti : List Int) (m : Int) : List (List Nat):=((rng 1 (m + 2)).filter fun t=>!decide (tf.getD (t - 1).toNat 0 = ti.getD (t - 1).toNat 0)).map fun t=>[48 + t.toNat]
noncomputable def wordsOf (sz : List (List Nat)) : List Nat:=sTab ++ (if decide (1 < (sz.length : Int)) then [115,32] else [32]) ++ glue [44,32] sz
noncomputable abbrev Due:=Option (Int × List Nat × List Nat)
noncomputable def nextName (nm : List (List Nat)) (ab : List Int) (a : Int) : Option (List Nat) :=
 if 0 ≤ a∧a < nm.length∧ab.count a < 10∧(nm.getD a.toNat []).length ≤ 100 then some (nm.getD a.toNat [] ++ [46] ++ [48 + ab.count a]) else none
noncomputable def plainLoop (rows : List (List Nat)) (ts : List (List Int)) : List Int→List (List Nat)→List Int→Option (List (List Nat) × List Int × Due)
 | [],nm,ab=>some (nm,ab,none)
 | i :: r,nm,ab=>match farOf ts (ts.getD i.toNat []) (i - 1).toNat with
  | none=>none
  | some far=>if decide ((far : Int) = i - 1) && lefter (ts.getD far []) (ts.getD i.toNat []) then (match nextName nm (ab ++ [(far : Int)]) far with
    | none=>none
    | some n=>plainLoop rows ts r (nm ++ [n]) (ab ++ [(far : Int)]))
   else if decide (ts.getD far [] = ts.getD i.toNat []) then (match nextName nm (ab ++ [ab.getD far 0]) (ab.getD far 0) with
    | none=>none
    | some n=>plainLoop rows ts r (nm ++ [n]) (ab ++ [ab.getD far 0]))
   else if longOf (rows.getD far []) (rows.getD i.toNat []) ≤ 2 then some (nm,ab,some (i - 1,wordsOf (sizesOf (ts.getD far []) (ts.getD i.toNat []) (longOf (rows.getD far []) (rows.getD i.toNat []))),rows.getD i.toNat [] ++ [120]))
   else none
noncomputable def plain (leads : List (List Nat)) : Option (List (List Nat) × List Int × Due):=plainLoop ([] :: leads) (([] :: leads).map cols) (rng 1 ([] :: leads).length) [[48]] [-1]
noncomputable def VDue : Due→V
 | none=>.none
 | some (k,ws,row)=>.tup [.int k,.str ws,.str row]
section
variable {mg mb : Str→Option Value}
theorem cols_len (l : List Nat) : (cols l).length = 3:=by simp [cols,rng]
inductive J4_1 (σ : St) (leads : List (List Nat)) (nm : List (List Nat)) (ab : List Int) (due : Due) (rows : List (List Nat)) (ts : List (List Int)) (na : Addr) (aa : Addr) (rest : List Int) (ρ₁ : List (Option V)) (σ₁ : St) : Prop
 | mk (nm' : _) (ab' : _) (x5 : _) (x6 : _) (x7 : _) (x8 : _) (x9 : _) (h0 : plainLoop rows ts rest nm' ab' = some (nm,ab,due)) (h1 : rest = rng nm'.length rows.length) (h2 : ab'.length = nm'.length) (h3 : 1 ≤ nm'.length) (h4 : (∀ n∈nm',n.length ≤ 110)) (h5 : ρ₁ = [some (VS leads),some (.lst (rows.map .str)),some (.lst (ts.map VI)),some (.ref na),some (.ref aa),x5,x6,x7,x8,x9]) (h6 : σ₁ = (aa,.lst (ab'.map .int)) :: (na,.lst (nm'.map .str)) :: σ)
inductive J4_2 (σ : St) (leads : List (List Nat)) (rows : List (List Nat)) (ts : List (List Int)) (na : Addr) (aa : Addr) (i : Int) (nm' : List (List Nat)) (ab' : List Int) (x7 : Option V) (x8 : Option V) (x9 : Option V) (far : Nat) (n : Nat) (ρ₁ : List (Option V)) (σ₁ : St) : Prop
 | mk (h0 : n < ts.length) (h1 : n < nm'.length) (h2 : farOf ts (ts.getD i.toNat []) n = some far) (h3 : ρ₁ = [some (VS leads),some (.lst (rows.map .str)),some (.lst (ts.map VI)),some (.ref na),some (.ref aa),some (.int i),some (.int (n : Int)),x7,x8,x9]) (h4 : σ₁ = (aa,.lst (ab'.map .int)) :: (na,.lst (nm'.map .str)) :: σ)
theorem plain_fn (G : Gl Φ.h₀ mg mb) (hh : Φ.hd = none) (hl : 3 ≤ Φ.lvl) {leads : List (List Nat)} (hz : leads.length ≤ 20) (hzr : ∀ l∈leads,l.length ≤ 50) {nm : List (List Nat)} {ab : List Int} {due : Due} (hr : plain leads = some (nm,ab,due))
  {Q : QV} (q : Q (.tup [VS nm,VI ab,VDue due]) σ) : FnBody prog w C Φ d_plain [VS leads] σ Q:=by
 refine FnBody.of ok_plain (by lia) [some (VS leads),none,none,none,none,none,none,none,none,none] rfl fun L f cdv Ok=>?_
 haveI hl2 : 2 ≤ (Φ.enter d_plain L f cdv).lvl:=by show 2 ≤ Φ.lvl - 1;lia
 haveI hh : (Φ.enter d_plain L f cdv).hd = none:=hh
 haveI G : Gl (Φ.enter d_plain L f cdv).h₀ mg mb:=G
 haveI s0 : Sl (Φ.enter d_plain L f cdv) 0 "leads" none:=rfl
 haveI s1 : Sl (Φ.enter d_plain L f cdv) 1 "rows" none:=rfl
 haveI s2 : Sl (Φ.enter d_plain L f cdv) 2 "tables" (some (L + 1)):=rfl
 haveI s3 : Sl (Φ.enter d_plain L f cdv) 3 "names" none:=rfl
 haveI s4 : Sl (Φ.enter d_plain L f cdv) 4 "above" none:=rfl
 haveI s5 : Sl (Φ.enter d_plain L f cdv) 5 "i" (some (L + 1 + 1)):=rfl
 haveI s6 : Sl (Φ.enter d_plain L f cdv) 6 "far" (some (L + 1 + 1 + 1)):=rfl
 haveI s7 : Sl (Φ.enter d_plain L f cdv) 7 "longest" none:=rfl
 haveI s8 : Sl (Φ.enter d_plain L f cdv) 8 "sizes" none:=rfl
 haveI s9 : Sl (Φ.enter d_plain L f cdv) 9 "words" none:=rfl
 refine EX.cons (EX1.assign Ok (i:=1) rfl (.inl rfl) rfl (EV.op (EV.lstF (EA.cons rfl (EV.str (l:=[]) (by decide +kernel) (EA.nil ⟨sl 1 (by decide),?_⟩))))))
 walk_at "e"
 refine OP.addL (xs:=[V.str []]) (ys:=leads.map .str) (.inl rfl) (.inl rfl) (sl _ (by simp;lia)) ?_
 generalize hrows : ([] :: leads : List (List Nat)) = rows
 haveI hrn : rows.length = leads.length + 1:=by refine rl hrows ?_;rfl
 haveI hrz : ∀ r∈rows,r.length ≤ 50:=by
  refine rl hrows ?_
  intro r hr
  rcases List.mem_cons.mp hr with rfl | hr
  ·exact Nat.zero_le _
  ·exact hzr r hr
 haveI e0 : [V.str []] ++ leads.map V.str = rows.map V.str:=by refine rl hrows ?_;rfl
 refine rr e0 ?_
 unfold plain at hr
 replace hr:=hrows ▸ hr
 refine EX.cons (EX1.assign Ok (i:=2) rfl (.inr rfl) rfl ?_)
 refine EV.compM Ok (by decide +kernel) rfl (fun _=>rfl) (i:=1) rfl V.str (fun r=>VI (cols r)) ?_
 refine IE1.list hh ?_
 walk_at "e"
 refine ⟨_,rfl,rows,rfl,sl _ (by lia),fun r _ L' D ys' OkC=>?_,?_⟩
 ·refine EV.f_cols OkC G hl2 rfl rfl (EA.cons rfl ?_)
  refine EV.name OkC (i:=1) rfl rfl (EA.nil ⟨rfl,?_⟩)
  exact cols_fn (Φ:=(Φ.enter d_plain L f cdv).comp _ L') G hh hl2 ⟨rfl,rfl⟩
 haveI e1 : List.map (fun r=>VI (cols r)) rows = (rows.map cols).map VI:=by simp [Function.comp_def]
 refine rr e1 ?_
 generalize hts : rows.map cols = ts at hr ⊢
 haveI htn : ts.length = rows.length:=by refine rl hts ?_;simp
 haveI ht3 : ∀ k,k < ts.length→(ts.getD k []).length = 3:=by
  intro k hk
  rw [← hts] at hk ⊢
  haveI hk' : k < rows.length:=by simpa using hk
  simp [hk',cols_len]
 refine EX.cons (EX1.assign Ok (i:=3) rfl (.inl rfl) rfl (EV.lstM (EA.cons rfl (EV.str (l:=[48]) (by decide +kernel) (EA.nil ⟨sl 1 (by decide),fun na=>?_⟩)))))
 refine EX.cons (EX1.assign Ok (i:=4) rfl (.inl rfl) rfl (EV.lstM (EA.cons rfl ?_)))
 repeat walk_at "e"
 refine ⟨_,rfl,?_⟩
 walk_at "e"
 refine ⟨sl 1 (by decide),fun aa=>?_⟩
 refine EX.cons (EX1.for1 Ok (i:=5) rfl (.inr rfl) (fun _=>rfl) V.int ?_)
 repeat walk_at "e"
 refine BJ.lenL (xs:=rows.map V.str) (.inl rfl) (sl _ (by simp;lia)) ?_
 repeat walk_at "e"
 haveI hlr : ((rows.map V.str).length : Int) = rows.length:=by simp
 refine IB1.range2 hh (a₀:=1) (by decide) (by refine rr hlr ?_;lia) ?_
 refine ⟨rng 1 rows.length,(J4_1 σ leads nm ab due rows ts na aa),by refine rr hlr ?_;rfl,⟨[[48]],[-1],_,_,_,_,_,hr,rfl,rfl,by simp,by simp,rfl,rfl⟩,?_,?_⟩
 ·rintro i rest _ _ hsuf ⟨nm',ab',x5,x6,x7,x8,x9,hrun,hrest,hab,hn1,hnz,rfl,rfl⟩
  obtain ⟨hi,hrest,hlt⟩:=rng_inv hrest
  haveI hi0 : i.toNat = nm'.length:=by lia
  haveI hi1 : (i - 1).toNat = nm'.length - 1:=by lia
  haveI hits : (i : Int) < ts.length:=by lia
  unfold plainLoop at hrun
  refine EX.cons (EX1.assign Ok (i:=6) rfl (.inr rfl) rfl ?_)
  repeat walk_at "e"
  cases hfar : farOf ts (ts.getD i.toNat []) (i - 1).toNat with
  | none=>replace hrun:=hfar ▸ hrun;exact nsm hrun
  | some far =>
  replace hrun:=hfar ▸ hrun
  dsimp only at hrun
  refine EX.cons (EX1.while_ (J4_2 σ leads rows ts na aa i nm' ab' x7 x8 x9 far) (n:=(i - 1).toNat) ⟨by lia,by lia,hfar,?_,rfl⟩ ?_)
  ·haveI : (((i - 1).toNat : Nat) : Int) = i - 1:=by lia
   refine rr this ?_
   rfl
  rintro n _ _ ⟨hnt,hnl,hfn,rfl,rfl⟩
  refine ET.bool (fun _ _=>rfl) (EV.f_lefter Ok G hl2 rfl rfl ?_)
  repeat walk_at "e"
  refine ⟨⟨"list",rfl⟩,GI.mapI VI ts [] (.inl rfl) (by lia) hits (by lia) ?_⟩
  repeat walk_at "e"
  refine ⟨⟨"list",rfl⟩,GI.mapI VI ts [] (.inl rfl) (by lia) (by lia) (by lia) ?_⟩
  walk_at "e"
  refine ⟨rfl,lefter_fn (Φ:=Φ.enter d_plain L f cdv) G hh hl2 (by refine rr (ht3 _ (by lia) ..) ?_;decide) ⟨_,rfl,?_⟩⟩
  haveI hnn : ((n : Int)).toNat = n:=by lia
  refine rr hnn ?_
  haveI step : (lefter (ts.getD i.toNat []) (ts.getD n []) = true∧∃ m,n = m + 1∧farOf ts (ts.getD i.toNat []) m = some far) ∨ (lefter (ts.getD i.toNat []) (ts.getD n []) = false∧far = n):=by
   cases n with
   | zero =>
    unfold farOf at hfn
    split at hfn
    ·exact nsm hfn
    ·rename_i hq
     obtain rfl:=si hfn
     exact .inr ⟨by simpa using hq,rfl⟩
   | succ m =>
    unfold farOf at hfn
    split at hfn
    ·rename_i hq
     exact .inl ⟨hq,m,rfl,hfn⟩
    ·rename_i hq
     obtain rfl:=si hfn
     exact .inr ⟨by simpa using hq,rfl⟩
  rcases step with ⟨hq,m,rfl,hfm⟩ | ⟨hq,rfl⟩
  ·refine rr hq ?_
   try simp only [if_true]
   refine EX.cons (EX1.assign Ok (i:=6) rfl (.inr rfl) rfl ?_)
   repeat walk_at "e"
   refine EX.nil ⟨m,Nat.lt_succ_self m,by lia,by lia,hfm,?_,rfl⟩
   haveI : ((m + 1 : Nat) : Int) - 1 = (m : Int):=by lia
   refine rr this ?_
   rfl
  refine rr hq ?_
  try simp only [Bool.false_eq_true,if_false]
  refine EX.cons (EX1.mono (Q:=fun f' ρ' σ'=>match f' with
   | .next=>∃ (a : Int) (n' : List Nat) (x7 x8 x9 : Option V),nextName nm' (ab' ++ [a]) a = some n'∧plainLoop rows ts rest (nm' ++ [n']) (ab' ++ [a]) = some (nm,ab,due)∧ρ' = [some (VS leads),some (.lst (rows.map .str)),some (.lst (ts.map VI)),some (.ref na),some (.ref aa),some (.int i),some (.int (far : Int)),x7,x8,x9]∧σ' = (aa,.lst ((ab' ++ [a]).map .int)) :: (na,.lst (nm'.map .str)) :: σ
   | .ret v=>Q v σ'
   | _=>False) ?_ ?_)
  ·haveI hfl : far < ab'.length:=by lia
   haveI hfr : (far : Int) < rows.length:=by lia
   haveI hft : (far : Int) < ts.length:=by lia
   haveI hf0 : ((far : Int)).toNat = far:=by lia
   refine EX1.if_ (ET.mono (Q:=fun b σ'=>b = (decide ((far : Int) = i - 1) && lefter (ts.getD far []) (ts.getD i.toNat []))∧σ' = (aa,.lst (ab'.map .int)) :: (na,.lst (nm'.map .str)) :: σ) ?_ ?_)
   ·refine ET.and_ (ET.co rfl ?_)
    repeat walk_at "e"
    cases hc1 : decide ((far : Int) = i - 1) with
    | false =>
     exact ⟨rfl,rfl⟩
    | true =>
     try simp only [if_true]
     refine ET.bool (fun _ _=>rfl) (EV.f_lefter Ok G hl2 rfl rfl ?_)
     repeat walk_at "e"
     refine ⟨⟨"list",rfl⟩,GI.mapI VI ts [] (.inl rfl) (by lia) hft (by lia) ?_⟩
     repeat walk_at "e"
     refine ⟨⟨"list",rfl⟩,GI.mapI VI ts [] (.inl rfl) (by lia) hits (by lia) ?_⟩
     walk_at "e"
     refine ⟨rfl,lefter_fn (Φ:=Φ.enter d_plain L f cdv) G hh hl2 (by refine rr (ht3 _ (by lia) ..) ?_;decide) ⟨_,rfl,?_,rfl⟩⟩
     refine rr hf0 ?_;rfl
   ·rintro b _ ⟨hb,rfl⟩
    replace hrun:=hb.symm ▸ hrun
    cases b with
    | true =>
     cases hnx : nextName nm' (ab' ++ [(far : Int)]) far with
     | none=>replace hrun:=hnx ▸ hrun;exact nsm hrun
     | some n' =>
     replace hrun:=hnx ▸ hrun
     refine EX.cons (EX1.expr rfl rfl ?_)
     walk_at "e"
     walk_at "e"
     refine ⟨.inl ⟨_,.head _,rfl⟩,?_⟩
     repeat walk_at "e"
     refine BJ.appendM V.int (xs:=ab') (x:=(far : Int)) (i:=0) rfl (by lia) ?_
     exact EX.nil ⟨far,n',_,_,_,hnx,hrun,rfl,rfl⟩
    | false =>
     refine EX.cons (EX1.if_ (ET.co rfl ?_))
     repeat walk_at "e"
     refine ⟨⟨"list",rfl⟩,GI.mapI VI ts [] (.inl rfl) (by lia) hft (by lia) ?_⟩
     repeat walk_at "e"
     refine ⟨⟨"list",rfl⟩,GI.mapI VI ts [] (.inl rfl) (by lia) hits (by lia) ?_⟩
     refine rr hf0 ?_
     refine CO.eqLI (xs:=ts.getD far []) (ys:=ts.getD i.toNat []) (.inl rfl) (.inl rfl) ?_
     cases hc2 : decide (ts.getD far [] = ts.getD i.toNat []) with
     | true =>
      replace hrun:=hc2 ▸ hrun
      cases hnx : nextName nm' (ab' ++ [ab'.getD far 0]) (ab'.getD far 0) with
      | none=>replace hrun:=hnx ▸ hrun;exact nsm hrun
      | some n' =>
      replace hrun:=hnx ▸ hrun
      refine EX.cons (EX1.expr rfl rfl ?_)
      walk_at "e"
      walk_at "e"
      refine ⟨.inl ⟨_,.head _,rfl⟩,?_⟩
      repeat walk_at "e"
      refine ⟨⟨"list",.inl ⟨_,.head _,rfl⟩⟩,GI.mapI V.int ab' 0 (.inr ⟨_,rfl,.head _⟩) (by lia) (by lia) (by lia) ?_⟩
      walk_at "e"
      refine BJ.appendM V.int (xs:=ab') (x:=ab'.getD ((far : Int)).toNat 0) (i:=0) rfl (by lia) ?_
      refine rr hf0 ?_
      exact EX.nil (EX.nil ⟨ab'.getD far 0,n',_,_,_,hnx,hrun,rfl,rfl⟩)
     | false =>
      replace hrun:=hc2 ▸ hrun
      simp only [Bool.false_eq_true,if_false] at hrun ⊢
      split at hrun
      case isFalse=>exact nsm hrun
      rename_i hlong
      haveI hrf : (rows.getD far []).length ≤ 50:=by
       haveI h1 : far < rows.length:=by lia
       refine rr (List.getD_eq_getElem?_getD ..) ?_;refine rr (List.getElem?_eq_getElem h1 ..) ?_
       exact hrz _ (List.getElem_mem h1)
      haveI hri : (rows.getD i.toNat []).length ≤ 50:=by
       haveI h1 : i.toNat < rows.length:=by lia
       refine rr (List.getD_eq_getElem?_getD ..) ?_;refine rr (List.getElem?_eq_getElem h1 ..) ?_
       exact hrz _ (List.getElem_mem h1)
      refine EX.cons (EX1.assign Ok (i:=7) rfl (.inl rfl) rfl ?_)
      repeat walk_at "e"
      refine EV.compM Ok (by decide +kernel) rfl (fun _=>rfl) (i:=1) rfl V.str (fun r=>V.int (r.length : Int)) ?_
      refine IE1.list hh ?_
      repeat walk_at "e"
      refine ⟨⟨"list",rfl⟩,GI.mapI V.str rows [] (.inl rfl) (by lia) hfr (by lia) ?_⟩
      refine EV.str (l:=[9]) (by decide +kernel) ?_
      refine OP.addS (sl _ (by refine rr hf0 ?_;simp only [List.length_append,List.length_cons,List.length_nil];lia)) ?_
      repeat walk_at "e"
      refine ⟨⟨"list",rfl⟩,GI.mapI V.str rows [] (.inl rfl) (by lia) (by lia) (by lia) ?_⟩
      refine OP.addS (sl _ (by refine rr hf0 ?_;simp only [List.length_append,List.length_cons,List.length_nil];lia)) ?_
      refine ⟨rfl,?_⟩
      walk_at "e"
      refine EV.str (l:=[9]) (by decide +kernel) ?_
      walk_at "e"
      refine rr hf0 ?_
      haveI hxl : (rows.getD far [] ++ [9] ++ rows.getD i.toNat []).length ≤ 101:=by simp only [List.length_append,List.length_cons,List.length_nil];lia
      haveI hne:=spl_ne 9 (rows.getD far [] ++ [9] ++ rows.getD i.toNat [])
      haveI hpl:=spl_len 9 (rows.getD far [] ++ [9] ++ rows.getD i.toNat [])
      haveI hpc:=spl_count 9 (rows.getD far [] ++ [9] ++ rows.getD i.toNat [])
      refine BJ.split1 (sl _ (by lia)) ⟨_,rfl,spl 9 (rows.getD far [] ++ [9] ++ rows.getD i.toNat []),rfl,sl _ (by lia),fun r hr L' D ys' OkC=>?_,?_⟩
      ·refine EV.bB .len OkC rfl G.tx G.nb rfl rfl rfl (EA.cons rfl ?_)
       refine EV.name OkC (i:=1) rfl rfl (EA.nil ?_)
       exact BJ.lenS (sl _ (by have:=hpl r hr;lia)) ⟨rfl,rfl⟩
      walk_at "e"
      refine BJ.maxO hh (ns:=(spl 9 (rows.getD far [] ++ [9] ++ rows.getD i.toNat [])).map fun r=>(r.length : Int)) (.inl (by simp [Function.comp_def])) (by simpa using hne) ?_
      haveI hlo : maxOf ((spl 9 (rows.getD far [] ++ [9] ++ rows.getD i.toNat [])).map fun r=>(r.length : Int)) = longOf (rows.getD far []) (rows.getD i.toNat []):=rfl
      refine rr hlo ?_
      haveI hl0 : 0 ≤ longOf (rows.getD far []) (rows.getD i.toNat []):=by
       haveI hm:=maxOf_mem (l:=(spl 9 (rows.getD far [] ++ [9] ++ rows.getD i.toNat [])).map fun r=>(r.length : Int)) (by simpa using hne)
       obtain ⟨r,_,e⟩:=List.mem_map.mp hm
       replace e:=hlo ▸ e
       lia
      generalize hlg : longOf (rows.getD far []) (rows.getD i.toNat []) = lg at hlong hl0 hrun ⊢
      haveI htf3:=ht3 far (by lia)
      haveI hti3:=ht3 i.toNat (by lia)
      generalize htf : ts.getD far [] = tf at hrun htf3
      generalize hti : ts.getD i.toNat [] = ti at hrun hti3
      refine EX.cons (EX1.compF Ok (by decide +kernel) rfl (fun _=>rfl) (j:=8) rfl rfl (i:=1) rfl V.int (fun t=>!decide (tf.getD (t - 1).toNat 0 = ti.getD (t - 1).toNat 0)) (fun t=>V.str [48 + t.toNat]) ?_)
      repeat walk_at "e"
      refine IB1.range2 hh (a₀:=1) (by decide) (by lia) ?_
      refine ⟨rng 1 (lg + 2),rfl,sl _ (by refine rr rng_len ?_;lia),fun t ht L' D ys' OkC=>?_,?_⟩
      ·haveI ht':=rng_mem ht
       refine ET.co rfl (EV.sub (EV.sub ?_))
       refine EV.name OkC (i:=4) rfl rfl ?_
       refine EV.name OkC (i:=2) rfl rfl ?_
       refine ⟨⟨"list",rfl⟩,GI.mapI VI ts [] (.inl rfl) (by lia) hft (by lia) ?_⟩
       refine rr hf0 ?_;refine rr htf ?_
       refine EV.op (EV.name OkC (i:=1) rfl rfl (EV.int (OP.subI ?_)))
       refine ⟨⟨"list",rfl⟩,GI.mapI V.int tf 0 (.inl rfl) (by lia) (by lia) (by lia) ?_⟩
       refine EV.sub (EV.sub ?_)
       refine EV.name OkC (i:=4) rfl rfl ?_
       refine EV.name OkC (i:=3) rfl rfl ?_
       refine ⟨⟨"list",rfl⟩,GI.mapI VI ts [] (.inl rfl) (by lia) hits (by lia) ?_⟩
       refine rr hti ?_
       refine EV.op (EV.name OkC (i:=1) rfl rfl (EV.int (OP.subI ?_)))
       refine ⟨⟨"list",rfl⟩,GI.mapI V.int ti 0 (.inl rfl) (by lia) (by lia) (by lia) ?_⟩
       refine CO.neI ⟨rfl,rfl,fun _=>?_⟩
       refine EV.bT .str OkC rfl G.tx G.nb rfl rfl rfl (EA.cons rfl ?_)
       refine EV.name OkC (i:=1) rfl rfl (EA.nil ?_)
       exact BT.str1 (by lia) (by lia) ⟨rfl,rfl⟩
      haveI hsz : List.map (fun t : Int=>V.str [48 + t.toNat]) (List.filter (fun t : Int=>!decide (tf.getD (t - 1).toNat 0 = ti.getD (t - 1).toNat 0)) (rng 1 (lg + 2))) = (sizesOf tf ti lg).map V.str:=by simp [sizesOf,List.map_map,Function.comp_def]
      refine rr hsz ?_
      haveI hs1 : ∀ x∈sizesOf tf ti lg,x.length ≤ 1:=by
       intro x hx
       obtain ⟨t,_,rfl⟩:=List.mem_map.mp hx
       exact Nat.le_refl _
      haveI hsl : (sizesOf tf ti lg).length ≤ 3:=by
       unfold sizesOf
       refine rr (List.length_map ..) ?_
       exact Nat.le_trans (List.length_filter_le _ _) (by refine rr rng_len ?_;lia)
      generalize sizesOf tf ti lg = sz at hrun hs1 hsl ⊢
      haveI hgl : (glue [44,32] sz).length ≤ 9:=by
       match sz,hs1,hsl with
       | [],_,_=>decide
       | [a],h,_=>have:=h a (by simp);simp [glue];lia
       | [a,b],h,_=>have:=h a (by simp);have:=h b (by simp);simp [glue];lia
       | [a,b,c],h,_=>have:=h a (by simp);have:=h b (by simp);have:=h c (by simp);simp [glue];lia
       | _ :: _ :: _ :: _ :: _,_,h=>simp at h
      refine EX.cons (EX1.assign Ok (i:=9) rfl (.inl rfl) rfl ?_)
      walk_at "e"
      walk_at "e"
      refine EV.str (l:=sTab) (by decide +kernel) ?_
      refine EV.ifexp (ET.co rfl ?_)
      repeat walk_at "e"
      refine BJ.lenL (xs:=sz.map V.str) (.inl rfl) (sl _ (by simp;lia)) ?_
      repeat walk_at "e"
      refine CO.gtI ?_
      haveI hszl : ((sz.map V.str).length : Int) = sz.length:=by simp
      refine rr hszl ?_
      haveI hw : wordsOf sz = sTab ++ (if decide (1 < (sz.length : Int)) then [115,32] else [32]) ++ glue [44,32] sz:=rfl
      haveI tail : ∀ sp : List Nat,sp = (if decide (1 < (sz.length : Int)) then [115,32] else [32])→sp.length ≤ 2:=by
       rintro sp rfl;split <;> simp
      generalize hsp : (if decide (1 < (sz.length : Int)) then [115,32] else [32] : List Nat) = sp at hw tail
      haveI hspl:=tail sp rfl
      cases hgt : decide (1 < (sz.length : Int)) with
      | true =>
       replace hsp:=hgt ▸ hsp
       simp only [if_true] at hsp ⊢
       refine EV.str (l:=[115,32]) (by decide +kernel) ?_
       refine rr hsp ?_
       refine OP.addS (sl _ (by simp only [List.length_append,List.length_cons,List.length_nil,sTab];lia)) ?_
       walk_at "e"
       refine EV.str (l:=[44,32]) (by decide +kernel) ⟨rfl,?_⟩
       repeat walk_at "e"
       refine BJ.joinS (ss:=sz) (m:=1) (.inl rfl) hs1 (by simp;lia) ?_
       refine OP.addS (sl _ (by simp only [List.length_append,List.length_cons,List.length_nil,sTab];lia)) ?_
       refine rl hw ?_
       refine EX.freeze (i:=0) (j:=4) rfl rfl ?_
       refine EX.freeze (i:=0) (j:=3) rfl rfl ?_
       refine EX.cons (EX1.ret (EV.tupF ?_))
       repeat walk_at "e"
       refine EV.tupF ?_
       repeat walk_at "e"
       refine ⟨⟨"list",rfl⟩,GI.mapI V.str rows [] (.inl rfl) (by lia) (by lia) (by lia) ?_⟩
       refine EV.str (l:=[120]) (by decide +kernel) ?_
       refine OP.addS (sl _ (by simp only [List.length_append,List.length_cons,List.length_nil];lia)) ?_
       walk_at "e"
       refine ⟨sl 3 (by decide),?_⟩
       walk_at "e"
       refine ⟨sl 3 (by decide),?_⟩
       cases hrun
       exact q
      | false =>
       replace hsp:=hgt ▸ hsp
       simp only [Bool.false_eq_true,if_false] at hsp ⊢
       refine EV.str (l:=[32]) (by decide +kernel) ?_
       refine rr hsp ?_
       refine OP.addS (sl _ (by simp only [List.length_append,List.length_cons,List.length_nil,sTab];lia)) ?_
       walk_at "e"
       refine EV.str (l:=[44,32]) (by decide +kernel) ⟨rfl,?_⟩
       repeat walk_at "e"
       refine BJ.joinS (ss:=sz) (m:=1) (.inl rfl) hs1 (by simp;lia) ?_
       refine OP.addS (sl _ (by simp only [List.length_append,List.length_cons,List.length_nil,sTab];lia)) ?_
       refine rl hw ?_
       refine EX.freeze (i:=0) (j:=4) rfl rfl ?_
       refine EX.freeze (i:=0) (j:=3) rfl rfl ?_
       refine EX.cons (EX1.ret (EV.tupF ?_))
       repeat walk_at "e"
       refine EV.tupF ?_
       repeat walk_at "e"
       refine ⟨⟨"list",rfl⟩,GI.mapI V.str rows [] (.inl rfl) (by lia) (by lia) (by lia) ?_⟩
       refine EV.str (l:=[120]) (by decide +kernel) ?_
       refine OP.addS (sl _ (by simp only [List.length_append,List.length_cons,List.length_nil];lia)) ?_
       walk_at "e"
       refine ⟨sl 3 (by decide),?_⟩
       walk_at "e"
       refine ⟨sl 3 (by decide),?_⟩
       cases hrun
       exact q
  ·intro f' ρ' σ' hM
   cases f' with
   | brk=>exact hM.elim
   | cont=>exact hM.elim
   | ret v=>exact hM
   | next =>
    obtain ⟨a,n',x7,x8,x9,hnx,hrun,rfl,rfl⟩:=hM
    unfold nextName at hnx
    split at hnx
    case isFalse=>exact nsm hnx
    rename_i hcond
    obtain ⟨ha0,ha1,hcnt,hnl2⟩:=hcond
    obtain rfl:=si hnx
    haveI hal : (ab' ++ [a]).getD i.toNat 0 = a:=by
     refine rr hi0 ?_;refine rl hab ?_;simp
    refine EX.cons (EX1.expr rfl rfl ?_)
    walk_at "e"
    walk_at "e"
    refine ⟨.inl ⟨_,.tail _ (.head _),rfl⟩,?_⟩
    repeat walk_at "e"
    refine ⟨⟨"list",.inl ⟨_,.head _,rfl⟩⟩,GI.mapI V.int (ab' ++ [a]) 0 (.inr ⟨_,rfl,.head _⟩) (by lia) (by simp;lia) (by simp;lia) ?_⟩
    refine rr hal ?_
    refine ⟨⟨"list",.inl ⟨_,.tail _ (.head _),rfl⟩⟩,GI.mapI V.str nm' [] (.inr ⟨_,rfl,.tail _ (.head _)⟩) ha0 ha1 (by lia) ?_⟩
    refine EV.str (l:=[46]) (by decide +kernel) ?_
    refine OP.addS (sl _ (by simp only [List.length_append,List.length_cons,List.length_nil];lia)) ?_
    repeat walk_at "e"
    refine ⟨.inl ⟨_,.head _,rfl⟩,?_⟩
    repeat walk_at "e"
    refine ⟨⟨"list",.inl ⟨_,.head _,rfl⟩⟩,GI.mapI V.int (ab' ++ [a]) 0 (.inr ⟨_,rfl,.head _⟩) (by lia) (by simp;lia) (by simp;lia) ?_⟩
    refine rr hal ?_
    walk_at "e"
    refine BJ.countI (ns:=ab' ++ [a]) (.inr ⟨_,rfl,.head _⟩) ?_
    walk_at "e"
    refine BT.str1 (by lia) (by lia) ?_
    refine OP.addS (sl _ (by simp only [List.length_append,List.length_cons,List.length_nil];lia)) ?_
    walk_at "e"
    haveI hcn : (((ab' ++ [a]).count a : Nat) : Int).toNat = (ab' ++ [a]).count a:=by lia
    refine rr hcn ?_
    refine BJ.appendM V.str (xs:=nm') (i:=1) rfl (by lia) ?_
    refine EX.nil ⟨nm' ++ [nm'.getD a.toNat [] ++ [46] ++ [48 + (ab' ++ [a]).count a]],ab' ++ [a],_,_,_,_,_,hrun,?_,by simp [hab],by simp,?_,rfl,rfl⟩
    ·refine rr hrest ?_;simp
    ·intro n hn
     rcases List.mem_append.mp hn with hn | hn
     ·exact hnz n hn
     ·refine rr (List.mem_singleton.mp hn ..) ?_;simp only [List.length_append,List.length_cons,List.length_nil];lia
 ·rintro _ _ ⟨nm',ab',x5,x6,x7,x8,x9,hrun,hrest,hab,hn1,hnz,rfl,rfl⟩
  cases hrun
  refine EX.freeze (i:=0) (j:=4) rfl rfl ?_
  refine EX.freeze (i:=0) (j:=3) rfl rfl ?_
  refine EX.cons (EX1.ret (EV.tupF ?_))
  repeat walk_at "e"
  exact ⟨sl 3 (by decide),q⟩
end
noncomputable def starts : List (Int × Int):=[(0,48),(1,19),(2,40),(3,1),(4,28),(5,39)]
noncomputable def heapOf (script : List Int) (p : Int × Int) : Int:=p.2 + ((vpick script (some p.1) (some 60) (some 6)).map fun x=>x.fmod 1000000).sum
noncomputable def heapsOf (script : List Int) : List Int:=starts.map (heapOf script)
noncomputable def steps : List Int:=[1,1,1,0,0,-1,-2]
noncomputable def crook : List (List Nat):=[[32,32],[32,9]]
noncomputable def plainL : List (List Nat):=[[9],[9,32],[9,32,9],[9,32,9,32,32]]
noncomputable def otherL : List (List Nat):=[[9],[9,32],[32,9,9],[32,9,9,32,32]]
noncomputable def depthOf (h d : Int) : Int:=max 1 (min 4 (d + steps.getD (h.fmod 8).toNat 0))
noncomputable def leadsOf : List Int→Int→List (List Nat)
 | [],_=>[]
 | h :: r,d=>if decide (h.fmod 8 = 7) then crook.getD ((h.fdiv 8).fmod 2).toNat [] :: leadsOf r d
  else ([plainL,otherL].getD ((h.fdiv 8).fmod 2).toNat []).getD (depthOf h d - 1).toNat [] :: leadsOf r (depthOf h d)
theorem leadsOf_c {h r d} : leadsOf (h :: r) d = (if decide (h.fmod 8 = 7) then crook.getD ((h.fdiv 8).fmod 2).toNat [] :: leadsOf r d
  else ([plainL,otherL].getD ((h.fdiv 8).fmod 2).toNat []).getD (depthOf h d - 1).toNat [] :: leadsOf r (depthOf h d)):=rfl
section
variable {mg mb : Str→Option Value}
inductive J5_1 (σ : St) (script : List Int) (a : Addr) (rest : List (Int × Int)) (ρ₁ : List (Option V)) (σ₁ : St) : Prop
 | mk (done : _) (x : _) (y : _) (h0 : done ++ rest.map (heapOf script) = heapsOf script) (h1 : done.length + rest.length = 6) (h2 : ρ₁ = [some (VI script),some (.ref a),x,y]) (h3 : σ₁ = (a,.lst (done.map .int)) :: σ)
theorem heaps_fn (G : Gl Φ.h₀ mg mb) (hh : Φ.hd = none) (hl : 2 ≤ Φ.lvl) {script : List Int} (hz : script.length ≤ 100) {Q : QV} (q : Q (VI (heapsOf script)) σ) : FnBody prog w C Φ d_heaps [VI script] σ Q:=by
 refine FnBody.of ok_heaps hl [some (VI script),none,none,none] rfl fun L f cdv Ok=>?_
 haveI hh : (Φ.enter d_heaps L f cdv).hd = none:=hh
 haveI s0 : Sl (Φ.enter d_heaps L f cdv) 0 "script" none:=rfl
 haveI s1 : Sl (Φ.enter d_heaps L f cdv) 1 "heaps" none:=rfl
 haveI s2 : Sl (Φ.enter d_heaps L f cdv) 2 "k" none:=rfl
 haveI s3 : Sl (Φ.enter d_heaps L f cdv) 3 "start" none:=rfl
 refine EX.cons (EX1.assign Ok (i:=1) rfl (.inl rfl) rfl (EV.lstM (EA.nil ⟨sl 0 (by decide),fun a=>?_⟩)))
 refine EX.cons (EX1.for2 Ok hh (i:=2) (j:=3) rfl (.inl rfl) rfl (.inl rfl) (fun _=>rfl) (fun p : Int × Int=>(V.int p.1,V.int p.2)) ?_)
 repeat walk_at "e"
 refine EV.lstF ?_
 repeat walk_at "e"
 refine ⟨sl 6 (by decide),?_⟩
 walk_at "e"
 refine IB2.enumerate hh ?_
 refine ⟨starts,(J5_1 σ script a),rfl,⟨[],_,_,rfl,rfl,rfl,rfl⟩,?_,?_⟩
 ·rintro ⟨k,start⟩ rest _ _ hsuf ⟨done,x,y,hd,hdl,rfl,rfl⟩
  simp only [List.length_cons] at hdl
  refine EX.cons (EX1.expr rfl rfl ?_)
  walk_at "e"
  walk_at "e"
  refine ⟨.inl ⟨_,.head _,rfl⟩,?_⟩
  repeat walk_at "e"
  refine EV.compM Ok (by decide +kernel) rfl (fun _=>rfl) (i:=1) rfl V.int (fun x=>V.int (x.fmod 1000000)) ?_
  refine IE1.list hh ?_
  repeat walk_at "e"
  refine ⟨_,rfl,?_⟩
  repeat walk_at "e"
  refine ⟨_,rfl,?_⟩
  repeat walk_at "e"
  refine ⟨_,rfl,?_⟩
  refine ⟨script.map .int,.inl rfl,by decide,sl _ (by simp;lia),_,rfl,vpick script (some k) (some 60) (some 6),?_,?_,fun x hx L' D ys' OkC=>?_,?_⟩
  ·exact vpick_map V.int script _ _ _
  ·haveI : (vpick script (some k) (some 60) (some 6)).length ≤ script.length:=vpick_len _ _ _ _
   exact sl _ (by lia)
  ·refine EV.op (EV.name OkC (i:=1) rfl rfl ?_)
   refine EV.op (EV.int (EV.int (OP.powI (by decide) (by decide) (by decide) ?_)))
   exact OP.modI (by decide) ⟨rfl,rfl⟩
  walk_at "e"
  refine BJ.sum hh (ns:=(vpick script (some k) (some 60) (some 6)).map fun x=>x.fmod 1000000) (.inl (by simp [Function.comp_def])) ?_
  repeat walk_at "e"
  refine BJ.appendM V.int (xs:=done) (i:=0) rfl (by lia) ?_
  refine EX.nil ⟨_,_,_,?_,?_,rfl,rfl⟩
  ·refine rl hd ?_;simp [heapOf]
  ·simp;lia
 ·rintro _ _ ⟨done,x,y,hd,hdl,rfl,rfl⟩
  haveI hd : done = heapsOf script:=by simpa using hd
  subst hd
  refine EX.freeze (i:=0) (j:=1) rfl rfl ?_
  refine EX.cons (EX1.ret ?_)
  walk_at "e"
  exact q
theorem fmod_rng {a b : Int} (hb : 0 < b) : 0 ≤ a.fmod b∧a.fmod b < b:=⟨Int.fmod_nonneg_of_pos a hb,Int.fmod_lt_of_pos a hb⟩
inductive J5_2 (σ : St) (heaps : List Int) (a : Addr) (rest : List Int) (ρ₁ : List (Option V)) (σ₁ : St) : Prop
 | mk (done : _) (d : _) (x3 : _) (x4 : _) (x5 : _) (x6 : _) (x7 : _) (h0 : done ++ leadsOf rest d = leadsOf heaps 0) (h1 : done.length + rest.length = heaps.length) (h2 : ρ₁ = [some (VI heaps),some (.ref a),some (.int d),x3,x4,x5,x6,x7]) (h3 : σ₁ = (a,.lst (done.map .str)) :: σ)
theorem leads_fn (G : Gl Φ.h₀ mg mb) (hh : Φ.hd = none) (hl : 2 ≤ Φ.lvl) {heaps : List Int} (hz : heaps.length ≤ 100) {Q : QV} (q : Q (VS (leadsOf heaps 0)) σ) : FnBody prog w C Φ d_leads [VI heaps] σ Q:=by
 refine FnBody.of ok_leads hl [some (VI heaps),none,none,none,none,none,none,none] rfl fun L f cdv Ok=>?_
 haveI hh : (Φ.enter d_leads L f cdv).hd = none:=hh
 haveI s0 : Sl (Φ.enter d_leads L f cdv) 0 "heaps" none:=rfl
 haveI s1 : Sl (Φ.enter d_leads L f cdv) 1 "leads" none:=rfl
 haveI s2 : Sl (Φ.enter d_leads L f cdv) 2 "depth" none:=rfl
 haveI s3 : Sl (Φ.enter d_leads L f cdv) 3 "heap" none:=rfl
 haveI s4 : Sl (Φ.enter d_leads L f cdv) 4 "step" none:=rfl
 haveI s5 : Sl (Φ.enter d_leads L f cdv) 5 "turned" none:=rfl
 haveI s6 : Sl (Φ.enter d_leads L f cdv) 6 "plain" none:=rfl
 haveI s7 : Sl (Φ.enter d_leads L f cdv) 7 "other" none:=rfl
 refine EX.cons (EX1.assign Ok (i:=1) rfl (.inl rfl) rfl (EV.lstM (EA.nil ⟨sl 0 (by decide),fun a=>?_⟩)))
 refine EX.cons (EX1.assign Ok (i:=2) rfl (.inl rfl) rfl ?_)
 walk_at "e"
 refine EX.cons (EX1.for1 Ok (i:=3) rfl (.inl rfl) (fun _=>rfl) V.int ?_)
 refine IE1.list hh ?_
 walk_at "e"
 refine ⟨_,rfl,heaps,(J5_2 σ heaps a),rfl,⟨[],_,_,_,_,_,_,rfl,by simp,rfl,rfl⟩,?_,?_⟩
 ·rintro h rest _ _ hsuf ⟨done,d,x3,x4,x5,x6,x7,hd,hdl,rfl,rfl⟩
  simp only [List.length_cons] at hdl
  haveI hs:=fmod_rng (a:=h) (b:=8) (by decide)
  haveI ht:=fmod_rng (a:=h.fdiv 8) (b:=2) (by decide)
  refine EX.cons (EX1.assign Ok (i:=4) rfl (.inl rfl) rfl ?_)
  repeat walk_at "e"
  refine OP.modI (by decide) ?_
  refine EX.cons (EX1.assign Ok (i:=5) rfl (.inl rfl) rfl ?_)
  repeat walk_at "e"
  refine OP.divIs (by decide) (by decide) ?_
  repeat walk_at "e"
  refine OP.modI (by decide) ?_
  refine EX.cons (EX1.if_ (ET.co rfl ?_))
  repeat walk_at "e"
  rw [leadsOf_c] at hd
  cases h7 : decide (h.fmod 8 = 7) with
  | true =>
   replace hd:=h7 ▸ hd
   simp only [if_true] at hd ⊢
   refine EX.cons (EX1.expr rfl rfl ?_)
   walk_at "e"
   walk_at "e"
   refine ⟨.inl ⟨_,.head _,rfl⟩,?_⟩
   repeat walk_at "e"
   refine EV.lstF (EA.cons rfl (EV.str (l:=[32,32]) (by decide +kernel) (EA.cons rfl (EV.str (l:=[32,9]) (by decide +kernel) (EA.nil ⟨sl 2 (by decide),?_⟩)))))
   walk_at "e"
   refine ⟨⟨"list",rfl⟩,GI.mapI V.str crook [] (.inl rfl) ht.1 ht.2 (by decide) ?_⟩
   walk_at "e"
   refine BJ.appendM V.str (xs:=done) (i:=0) rfl (by lia) ?_
   refine EX.nil (EX.nil ⟨_,d,_,_,_,_,_,?_,?_,rfl,rfl⟩)
   ·refine rl hd ?_;simp
   ·simp;lia
  | false =>
   replace hd:=h7 ▸ hd
   haveI h7' : h.fmod 8 ≠ 7:=by simpa using h7
   refine EX.cons (EX1.assign Ok (i:=2) rfl (.inl rfl) rfl ?_)
   repeat walk_at "e"
   refine EV.lstF ?_
   repeat walk_at "e"
   refine ⟨_,rfl,?_⟩
   walk_at "e"
   repeat walk_at "e"
   refine ⟨_,rfl,?_⟩
   walk_at "e"
   refine ⟨sl 7 (by decide),?_⟩
   walk_at "e"
   refine ⟨⟨"list",rfl⟩,GI.mapI V.int steps 0 (.inl rfl) hs.1 (by have e7 : steps.length = 7:=rfl;lia) (by decide) ?_⟩
   repeat walk_at "e"
   refine BJ.min2 hh ?_
   walk_at "e"
   refine BJ.max2 hh ?_
   haveI hdp : max 1 (min 4 (d + steps.getD (h.fmod 8).toNat 0)) = depthOf h d:=rfl
   refine rr hdp ?_
   haveI hdr : 1 ≤ depthOf h d∧depthOf h d ≤ 4:=by unfold depthOf;lia
   refine EX.cons (EX1.assign Ok (i:=6) rfl (.inl rfl) rfl (EV.lstF (EA.cons rfl (EV.str (l:=[9]) (by decide +kernel) (EA.cons rfl (EV.str (l:=[9,32]) (by decide +kernel) (EA.cons rfl (EV.str (l:=[9,32,9]) (by decide +kernel) (EA.cons rfl (EV.str (l:=[9,32,9,32,32]) (by decide +kernel) (EA.nil ⟨sl 4 (by decide),?_⟩)))))))))))
   refine EX.cons (EX1.assign Ok (i:=7) rfl (.inl rfl) rfl (EV.lstF (EA.cons rfl (EV.str (l:=[9]) (by decide +kernel) (EA.cons rfl (EV.str (l:=[9,32]) (by decide +kernel) (EA.cons rfl (EV.str (l:=[32,9,9]) (by decide +kernel) (EA.cons rfl (EV.str (l:=[32,9,9,32,32]) (by decide +kernel) (EA.nil ⟨sl 4 (by decide),?_⟩)))))))))))
   refine EX.cons (EX1.expr rfl rfl ?_)
   walk_at "e"
   walk_at "e"
   refine ⟨.inl ⟨_,.head _,rfl⟩,?_⟩
   repeat walk_at "e"
   refine EV.lstF ?_
   repeat walk_at "e"
   refine ⟨sl 2 (by decide),?_⟩
   walk_at "e"
   refine ⟨⟨"list",rfl⟩,GI.mapI VS [plainL,otherL] [] (.inl rfl) ht.1 ht.2 (by decide) ?_⟩
   repeat walk_at "e"
   haveI hrow : ([plainL,otherL].getD ((h.fdiv 8).fmod 2).toNat []).length = 4:=by
    haveI : ((h.fdiv 8).fmod 2).toNat = 0 ∨ ((h.fdiv 8).fmod 2).toNat = 1:=by lia
    rcases this with e | e <;> rw [e] <;> rfl
   refine ⟨⟨"list",rfl⟩,GI.mapI V.str ([plainL,otherL].getD ((h.fdiv 8).fmod 2).toNat []) [] (.inl rfl) (by lia) (by refine rr hrow ?_;lia) (by refine rr hrow ?_;decide) ?_⟩
   walk_at "e"
   refine BJ.appendM V.str (xs:=done) (i:=0) rfl (by lia) ?_
   refine EX.nil (EX.nil ⟨_,depthOf h d,_,_,_,_,_,?_,?_,rfl,rfl⟩)
   ·refine rl hd ?_;simp
   ·simp;lia
 ·rintro _ _ ⟨done,d,x3,x4,x5,x6,x7,hd,hdl,rfl,rfl⟩
  haveI hd : done = leadsOf heaps 0:=(List.append_nil _).symm.trans hd
  subst hd
  refine EX.freeze (i:=0) (j:=1) rfl rfl ?_
  refine EX.cons (EX1.ret ?_)
  walk_at "e"
  exact q
end
noncomputable def methOf (cls : Str) : Stmt→Fn
 | .FunctionDef name args body _ _ _ scope _ _ _=>⟨name,cls ++ "." ++ name,args,body,scope⟩
 | _=>⟨"","",⟨[],[],none,[],[],none,[]⟩,[],⟨.module,[],false,false,[]⟩⟩
noncomputable def clsBody : Stmt→List Stmt
 | .ClassDef _ _ _ body _ _ _ _ _ _ _=>body
 | _=>[]
noncomputable def methAt (cls : Str) (i k : Nat) : Fn:=methOf cls ((clsBody (stmtAt i)).getD k (.Pass ⟨0,0,0,0⟩))
noncomputable def d_winit : Fn:=methAt "Whitespace" 14 1
noncomputable def d_wlong : Fn:=methAt "Whitespace" 14 2
noncomputable def d_windent : Fn:=methAt "Whitespace" 14 3
noncomputable def d_wequal : Fn:=methAt "Whitespace" 14 4
noncomputable def d_wwit : Fn:=methAt "Whitespace" 14 5
noncomputable def d_wless : Fn:=methAt "Whitespace" 14 6
theorem ok_winit : d_winit.ok ["self","ws"] = true:=by decide +kernel
theorem ok_wlong : d_wlong.ok ["self"] = true:=by decide +kernel
theorem ok_windent : d_windent.ok ["self","tabsize"] = true:=by decide +kernel
theorem ok_wequal : d_wequal.ok ["self","other"] = true:=by decide +kernel
theorem ok_wwit : d_wwit.ok ["self","other"] = true:=by decide +kernel
theorem ok_wless : d_wless.ok ["self","other"] = true:=by decide +kernel
inductive MethAt (K : Frag) (C : Addr) (h₀ : Heap) (name : Str) (d : Fn) : Prop
 | mk (f : _) (cdv : _) (h0 : findIn K (.ref C) name = some (some (.ref f))) (h1 : typeIn K (.ref f) = some (.type "function")) (h2 : FnAt h₀ f d cdv)
structure Wc (K : Frag) (C : Addr) (h₀ : Heap) (mg : Str→Option Value) : Prop where
 X : K.In h₀
 P : PlK K C
 mks : makesIn K C = true
 kp : keepIn K (.ref C) = true
 gW : mg "Whitespace" = some (.ref C)
 own : ∀ a∈(["raw","n","nt","norm","is_simple"] : List Str),findIn K (.ref C) a = some none
 rd : ∃ mc tS tT,readsIn K C mc = true∧findCls K (.ref C) mc "S" = some (.val (.str (mkS [32]) tS))∧findCls K (.ref C) mc "T" = some (.val (.str (mkS [9]) tT))
 init : MethAt K C h₀ "__init__" d_winit
 long : MethAt K C h₀ "longest_run_of_spaces" d_wlong
 indent : MethAt K C h₀ "indent_level" d_windent
 equal : MethAt K C h₀ "equal" d_wequal
 wit : MethAt K C h₀ "not_equal_witness" d_wwit
 less : MethAt K C h₀ "less" d_wless
noncomputable def padTo (c : List Int) (b : Int) : List Int:=if decide ((c.length : Int) ≤ b) then c ++ List.replicate (b - c.length + 1).toNat 0 else c
noncomputable def wScan : List Nat→List Int→Int→Int→Int→List Int × Int × Int × Int
 | [],c,b,n,nt=>(c,b,n,nt)
 | ch :: r,c,b,n,nt=>if decide (ch = 32) then wScan r c (b + 1) (n + 1) nt
  else if decide (ch = 9) then wScan r ((padTo c b).set b.toNat ((padTo c b).getD b.toNat 0 + 1)) 0 (n + 1) (nt + 1)
  else (c,b,n,nt)
theorem wScan_c {ch r c b n nt} : wScan (ch :: r) c b n nt = (if decide (ch = 32) then wScan r c (b + 1) (n + 1) nt
  else if decide (ch = 9) then wScan r ((padTo c b).set b.toNat ((padTo c b).getD b.toNat 0 + 1)) 0 (n + 1) (nt + 1)
  else (c,b,n,nt)):=rfl
noncomputable def wOf (raw : List Nat) : List Int × Int × Int × Int:=wScan raw [] 0 0 0
noncomputable def VW (raw : List Nat) : V:=.wsp raw (wOf raw).2.2.1 (wOf raw).2.2.2 (wOf raw).1 (wOf raw).2.1 (decide (((wOf raw).1.length : Int) ≤ 1))
section
variable {mg mb : Str→Option Value} {K : Frag}
theorem bind_winit : BindOk d_winit ["self","ws"]:=.n2 fun _ _ _ _ _ _ _=>rfl
theorem bind_wlong : BindOk d_wlong ["self"]:=.n1 fun _ _ _ _ _ _=>rfl
theorem bind_windent : BindOk d_windent ["self","tabsize"]:=.n2 fun _ _ _ _ _ _ _=>rfl
theorem bind_wequal : BindOk d_wequal ["self","other"]:=.n2 fun _ _ _ _ _ _ _=>rfl
theorem bind_wwit : BindOk d_wwit ["self","other"]:=.n2 fun _ _ _ _ _ _ _=>rfl
theorem bind_wless : BindOk d_wless ["self","other"]:=.n2 fun _ _ _ _ _ _ _=>rfl
theorem rep_one (v : V) : ∀ k,rep [v] k = List.replicate k v
 | 0=>rfl
 | k + 1=>by
  haveI:=rep_one v k
  simp only [rep,List.replicate_succ,List.flatten_cons] at this ⊢
  refine rr this ?_;rfl
theorem padTo_len {c : List Int} {b : Int} (hb : 0 ≤ b) : b < (padTo c b).length:=by
 unfold padTo
 split
 ·rename_i h
  haveI h:=of_decide_eq_true h
  simp;lia
 ·rename_i h
  haveI h : ¬ ((c.length : Int) ≤ b):=by simpa using h
  lia
theorem QFor1.rev {prog : Program} {w : World} {C : Addr} {Φ : Fc} {i : Nat} {α : Type} {emb : α→V} {body : List Stmt} {ρ : List (Option V)} {Q : QX} {vals : List V} {σ : St} (xs : List α) (J : List α→List (Option V)→St→Prop) (e : vals = xs.map emb) (h0 : J xs ρ σ) (fin : ∀ ρ₁ σ₁,J [] ρ₁ σ₁→Q .next ρ₁ σ₁)
  (turn : (∀ ρ₁ σ₁,J [] ρ₁ σ₁→Q .next ρ₁ σ₁)→∀ x rest ρ₁ σ₁,(x :: rest) <:+ xs→J (x :: rest) ρ₁ σ₁→EX prog w C Φ body (ρ₁.set i (some (emb x))) σ₁ (kLoop (J rest) Q)) : QFor1 prog w C Φ i emb body ρ Q vals σ:=⟨xs,J,e,h0,turn fin,fin⟩
theorem replicate_map (k : Nat) : List.replicate k (V.int 0) = (List.replicate k (0 : Int)).map V.int:=by simp
inductive J6_1 (C : Addr) (σ : St) (raw : List Nat) (x : Addr) (dx : Addr) (rest : List Nat) (ρ₁ : List (Option V)) (σ₁ : St) : Prop
 | mk (ca : _) (c : _) (b : _) (n : _) (nt : _) (x8 : _) (h0 : wScan rest c b n nt = wOf raw) (h1 : rest.length ≤ raw.length) (h2 : 0 ≤ b) (h3 : b + rest.length ≤ raw.length) (h4 : c.length + rest.length ≤ raw.length) (h5 : ρ₁ = [some (.ref x),some (.str raw),some (.str [32]),some (.str [9]),some (.ref ca),some (.int b),some (.int n),some (.int nt),x8]) (h6 : σ₁ = (ca,.lst (c.map .int)) :: (x,.ins C dx) :: (dx,.nsd [("raw",.str raw)]) :: σ)
theorem winit_fn (G : Gl Φ.h₀ mg mb) (W : Wc K C Φ.h₀ mg) (hh : Φ.hd = none) (hl : 2 ≤ Φ.lvl) {raw : List Nat} (hz : raw.length ≤ 1000) {x dx : Addr} {Q : QV}
  (q : Q .none ((x,.ins C dx) :: (dx,.nsd (wspGet raw (wOf raw).2.2.1 (wOf raw).2.2.2 (wOf raw).1 (wOf raw).2.1 (decide (((wOf raw).1.length : Int) ≤ 1)))) :: σ)) :
  FnBody prog w C Φ d_winit [.ref x,.str raw] ((x,.ins C dx) :: (dx,.nsd []) :: σ) Q:=by
 refine FnBody.of ok_winit hl [some (.ref x),some (.str raw),none,none,none,none,none,none,none] rfl fun L f cdv Ok=>?_
 haveI hh : (Φ.enter d_winit L f cdv).hd = none:=hh
 haveI G : Gl (Φ.enter d_winit L f cdv).h₀ mg mb:=G
 haveI W : Wc K C (Φ.enter d_winit L f cdv).h₀ mg:=W
 haveI s0 : Sl (Φ.enter d_winit L f cdv) 0 "self" none:=rfl
 haveI s1 : Sl (Φ.enter d_winit L f cdv) 1 "ws" none:=rfl
 haveI s2 : Sl (Φ.enter d_winit L f cdv) 2 "S" none:=rfl
 haveI s3 : Sl (Φ.enter d_winit L f cdv) 3 "T" none:=rfl
 haveI s4 : Sl (Φ.enter d_winit L f cdv) 4 "count" none:=rfl
 haveI s5 : Sl (Φ.enter d_winit L f cdv) 5 "b" none:=rfl
 haveI s6 : Sl (Φ.enter d_winit L f cdv) 6 "n" none:=rfl
 haveI s7 : Sl (Φ.enter d_winit L f cdv) 7 "nt" none:=rfl
 haveI s8 : Sl (Φ.enter d_winit L f cdv) 8 "ch" none:=rfl
 obtain ⟨mc,tS,tT,hrd,hS,hT⟩:=W.rd
 refine EX.cons (EX1.setattr W.X W.P (W.own _ (by decide +kernel)) rfl ?_)
 repeat walk_at "e"
 refine ⟨x,dx,[],1,rfl,.head _,rfl,rfl,by decide,?_⟩
 refine EX.cons (EX1.asgSwap2 Ok hh (i:=2) (j:=3) rfl rfl rfl rfl ?_)
 refine EV.tupF (EA.cons rfl (EV.clsA Ok W.X hrd G.tx rfl rfl W.gW hS (fun I=>.str _ _) rfl (EA.cons rfl (EV.clsA Ok W.X hrd G.tx rfl rfl W.gW hT (fun I=>.str _ _) rfl (EA.nil ⟨sl 2 (by decide),?_⟩)))))
 refine ⟨_,_,rfl,?_⟩
 refine EX.cons (EX1.assign Ok (i:=4) rfl (.inl rfl) rfl (EV.lstM (EA.nil ⟨sl 0 (by decide),fun ca=>?_⟩)))
 refine EX.cons (EX1.asg3 rfl rfl (EV.int (AS.name Ok (i:=5) rfl (.inl rfl) (AS.name Ok (i:=6) rfl (.inl rfl) (AS.name Ok (i:=7) rfl (.inl rfl) ?_)))))
 refine EX.cons (EX1.for1 Ok (i:=8) rfl (.inl rfl) (fun _=>rfl) (fun c : Nat=>V.str [c]) ?_)
 refine IE1.str hh (EV.attrN W.X W.P (W.own _ (by decide +kernel)) rfl ?_)
 walk_at "e"
 refine ⟨x,dx,[("raw",.str raw)],.str raw,rfl,.tail _ (.head _),.tail _ (.tail _ (.head _)),rfl,raw,rfl,?_⟩
 refine QFor1.rev raw (J6_1 C σ raw x dx) rfl ⟨ca,[],0,0,0,_,rfl,by lia,by lia,by lia,by simp,rfl,rfl⟩ ?_ fun fin=>?_
 ·rintro _ _ ⟨ca,c,b,n,nt,x8,hw,hrl,hb,hbr,hcr,rfl,rfl⟩
  haveI hw : (c,b,n,nt) = wOf raw:=hw
  replace q:=hw.symm ▸ q
  haveI hcl : c.length ≤ 1000:=by lia
  refine EX.cons (EX1.setattr W.X W.P (W.own _ (by decide +kernel)) rfl ?_)
  repeat walk_at "e"
  refine ⟨x,dx,_,2,rfl,.tail _ (.head _),rfl,rfl,by simp,?_⟩
  refine EX.cons (EX1.setattr W.X W.P (W.own _ (by decide +kernel)) rfl ?_)
  repeat walk_at "e"
  refine ⟨x,dx,_,2,rfl,.tail _ (.head _),rfl,rfl,by simp,?_⟩
  refine EX.cons (EX1.setattr W.X W.P (W.own _ (by decide +kernel)) rfl ?_)
  refine EV.tupF ?_
  repeat walk_at "e"
  refine BT.tuple (xs:=c.map V.int) (.inr ⟨ca,rfl,.head _⟩) (sl _ (by simp;lia)) ?_
  repeat walk_at "e"
  refine ⟨sl 2 (by decide),?_⟩
  walk_at "e"
  refine ⟨x,dx,_,2,rfl,.tail _ (.head _),rfl,rfl,by simp,?_⟩
  refine EX.cons (EX1.setattr W.X W.P (W.own _ (by decide +kernel)) rfl ?_)
  refine EV.co rfl ?_
  repeat walk_at "e"
  refine BJ.lenL (xs:=c.map V.int) (.inr ⟨ca,rfl,.head _⟩) (sl _ (by simp;lia)) ?_
  walk_at "e"
  refine CO.leI ?_
  walk_at "e"
  refine ⟨x,dx,_,2,rfl,.tail _ (.head _),rfl,rfl,by simp,?_⟩
  refine EX.drop (List.sublist_cons_self _ _) (EX.nil ?_)
  haveI cl : ((c.map V.int).length : Int) = c.length:=by simp
  refine rr cl ?_
  exact q
 ·rintro ch rest _ _ hsuf ⟨ca,c,b,n,nt,x8,hw,hrl,hb,hbr,hcr,rfl,rfl⟩
  simp only [List.length_cons] at hrl hbr hcr
  rw [wScan_c] at hw
  refine EX.cons (EX1.if_ (ET.co rfl ?_))
  repeat walk_at "e"
  haveI e32 : decide (([ch] : List Nat) = [32]) = decide (ch = 32):=by simp
  refine rr e32 ?_
  cases h32 : decide (ch = 32) with
  | true =>
   replace hw:=h32 ▸ hw
   simp only [if_true] at hw ⊢
   refine EX.cons (EX1.assign Ok (i:=6) rfl (.inl rfl) rfl ?_)
   repeat walk_at "e"
   refine EX.cons (EX1.assign Ok (i:=5) rfl (.inl rfl) rfl ?_)
   repeat walk_at "e"
   exact EX.nil (EX.nil ⟨ca,c,b + 1,n + 1,nt,_,hw,by lia,by lia,by lia,by lia,rfl,rfl⟩)
  | false =>
   replace hw:=h32 ▸ hw
   refine EX.cons (EX1.if_ (ET.co rfl ?_))
   repeat walk_at "e"
   haveI e9 : decide (([ch] : List Nat) = [9]) = decide (ch = 9):=by simp
   refine rr e9 ?_
   cases h9 : decide (ch = 9) with
   | true =>
    replace hw:=h9 ▸ hw
    refine EX.cons (EX1.assign Ok (i:=6) rfl (.inl rfl) rfl ?_)
    repeat walk_at "e"
    refine EX.cons (EX1.assign Ok (i:=7) rfl (.inl rfl) rfl ?_)
    repeat walk_at "e"
    haveI cl : ((c.map V.int).length : Int) = c.length:=by simp
    haveI hcl : c.length ≤ 1000:=by lia
    haveI hpl : (padTo c b).length + rest.length ≤ raw.length:=by
     unfold padTo
     split
     ·simp;lia
     ·lia
    haveI hpb:=padTo_len (c:=c) hb
    refine EX.cons (EX1.if_ (ET.co rfl ?_))
    repeat walk_at "e"
    refine BJ.lenL (xs:=c.map V.int) (.inr ⟨ca,rfl,.head _⟩) (sl _ (by simp;lia)) ?_
    refine CO.geI ?_
    refine rr cl ?_
    cases hp : decide ((c.length : Int) ≤ b) with
    | true =>
     haveI hp':=of_decide_eq_true hp
     haveI hpe : padTo c b = c ++ List.replicate (b - c.length + 1).toNat 0:=by unfold padTo;refine rr hp ?_;rfl
     refine EX.cons (EX1.assign Ok (i:=4) rfl (.inl rfl) rfl ?_)
     repeat walk_at "e"
     refine EV.lstF ?_
     repeat walk_at "e"
     refine ⟨sl 1 (by decide),?_⟩
     repeat walk_at "e"
     refine BJ.lenL (xs:=c.map V.int) (.inr ⟨ca,rfl,.head _⟩) (sl _ (by simp;lia)) ?_
     repeat walk_at "e"
     refine OP.mulL (xs:=[V.int 0]) (.inl rfl) (by refine rr cl ?_;lia) (by simp) (by refine rr cl ?_;simp;lia) (by refine rr cl ?_;lia) ?_
     rw [rep_one,cl,replicate_map]
     refine OP.addLM (xs:=c.map V.int) (.inr ⟨ca,rfl,.head _⟩) (.inl rfl) (sl _ (by simp;lia)) fun ca'=>?_
     refine rl (List.map_append ..) ?_;refine rl hpe ?_
     refine EX.nil ?_
     refine EX.drop (σ₀:=(ca',.lst ((padTo c b).map .int)) :: (x,.ins C dx) :: (dx,.nsd [("raw",.str raw)]) :: σ) (.cons_cons _ (List.sublist_cons_self _ _)) ?_
     refine EX.cons (EX1.asg rfl rfl rfl ?_)
     repeat walk_at "e"
     refine ⟨⟨"list",.inl ⟨_,.head _,rfl⟩⟩,GI.mapI V.int (padTo c b) 0 (.inr ⟨ca',rfl,.head _⟩) hb (by lia) (by lia) ?_⟩
     repeat walk_at "e"
     refine AS.sub (fun _=>rfl) ?_
     repeat walk_at "e"
     refine SI.list (xs:=(padTo c b).map V.int) (i:=0) rfl hb (by simpa using hpb) (by simp;lia) ?_
     refine EX.cons (EX1.assign Ok (i:=5) rfl (.inl rfl) rfl (EV.int ?_))
     haveI e2 : ((padTo c b).map V.int).set b.toNat (.int ((padTo c b).getD b.toNat 0 + 1)) = ((padTo c b).set b.toNat ((padTo c b).getD b.toNat 0 + 1)).map V.int:=by refine rr (List.map_set ..) ?_;rfl
     refine rr e2 ?_
     exact EX.nil (EX.nil (EX.nil ⟨ca',_,0,n + 1,nt + 1,_,hw,by lia,by lia,by lia,by refine rr (List.length_set ..) ?_;exact hpl,rfl,rfl⟩))
    | false =>
     haveI hpe : padTo c b = c:=by unfold padTo;refine rr hp ?_;rfl
     refine EX.nil ?_
     generalize ca = ca'
     haveI e1 : c.map V.int = (padTo c b).map V.int:=by refine rr hpe ?_;rfl
     refine rr e1 ?_
     refine EX.cons (EX1.asg rfl rfl rfl ?_)
     repeat walk_at "e"
     refine ⟨⟨"list",.inl ⟨_,.head _,rfl⟩⟩,GI.mapI V.int (padTo c b) 0 (.inr ⟨ca',rfl,.head _⟩) hb (by lia) (by lia) ?_⟩
     repeat walk_at "e"
     refine AS.sub (fun _=>rfl) ?_
     repeat walk_at "e"
     refine SI.list (xs:=(padTo c b).map V.int) (i:=0) rfl hb (by simpa using hpb) (by simp;lia) ?_
     refine EX.cons (EX1.assign Ok (i:=5) rfl (.inl rfl) rfl (EV.int ?_))
     haveI e2 : ((padTo c b).map V.int).set b.toNat (.int ((padTo c b).getD b.toNat 0 + 1)) = ((padTo c b).set b.toNat ((padTo c b).getD b.toNat 0 + 1)).map V.int:=by refine rr (List.map_set ..) ?_;rfl
     refine rr e2 ?_
     exact EX.nil (EX.nil (EX.nil ⟨ca',_,0,n + 1,nt + 1,_,hw,by lia,by lia,by lia,by refine rr (List.length_set ..) ?_;exact hpl,rfl,rfl⟩))
   | false =>
    replace hw:=h9 ▸ hw
    refine EX.cons (EX1.brk ?_)
    exact fin _ _ ⟨ca,c,b,n,nt,_,hw,Nat.zero_le _,by lia,by simp;lia,by simp;lia,rfl,rfl⟩
end
noncomputable def wc (raw : List Nat) : List Int:=(wOf raw).1
noncomputable def wb (raw : List Nat) : Int:=(wOf raw).2.1
noncomputable def wn (raw : List Nat) : Int:=(wOf raw).2.2.1
noncomputable def wnt (raw : List Nat) : Int:=(wOf raw).2.2.2
noncomputable def wsimple (raw : List Nat) : Bool:=decide (((wOf raw).1.length : Int) ≤ 1)
noncomputable def longest (raw : List Nat) : Int:=max ((wc raw).length - 1) (wb raw)
noncomputable def indSum (ts : Int) (c : List Int) : Int:=(rng ts c.length).foldl (fun il i=>il + i.fdiv ts * c.getD i.toNat 0) 0
noncomputable def indent (raw : List Nat) (ts : Int) : Int:=wb raw + ts * (indSum ts (wc raw) + wnt raw)
noncomputable def wsize (x y : List Nat) : Int:=max (longest x) (longest y) + 1
noncomputable def wless (x y : List Nat) : Bool:=if decide (wn y ≤ wn x) then false else if wsimple x && wsimple y then decide (wnt x ≤ wnt y)
 else (rng 2 (wsize x y + 1)).all fun ts=>!decide (indent y ts ≤ indent x ts)
noncomputable def wwit (x y : List Nat) : List (Int × Int × Int):=((rng 1 (wsize x y + 1)).filter fun ts=>!decide (indent x ts = indent y ts)).map fun ts=>(ts,indent x ts,indent y ts)
noncomputable def VWit (l : List (Int × Int × Int)) : List V:=l.map fun p=>.tup [.int p.1,.int p.2.1,.int p.2.2]
noncomputable def wequal (x y : List Nat) : Bool:=decide (wc x = wc y∧wb x = wb y)
theorem wScan_bound : ∀ (raw : List Nat) (c : List Int) (b n nt : Int) (m : Nat),0 ≤ b→b + raw.length ≤ m→c.length + raw.length ≤ m→0 ≤ nt→nt + raw.length ≤ m→(∀ z∈c,0 ≤ z∧z + raw.length ≤ m) →
  (wScan raw c b n nt).1.length ≤ m∧0 ≤ (wScan raw c b n nt).2.1∧(wScan raw c b n nt).2.1 ≤ m∧0 ≤ (wScan raw c b n nt).2.2.2∧(wScan raw c b n nt).2.2.2 ≤ m∧∀ z∈(wScan raw c b n nt).1,0 ≤ z∧z ≤ m
 | [],c,b,n,nt,m,h0,h1,h2,h3,h4,h5=>by
  exact ⟨by show c.length ≤ m;lia,h0,by show b ≤ m;lia,h3,by show nt ≤ m;lia,fun z hz=>⟨(h5 z hz).1,by have:=(h5 z hz).2;lia⟩⟩
 | ch :: r,c,b,n,nt,m,h0,h1,h2,h3,h4,h5=>by
  simp only [List.length_cons] at h1 h2 h4 h5
  rw [wScan_c]
  split
  ·exact wScan_bound r c (b + 1) (n + 1) nt m (by lia) (by lia) (by lia) h3 (by lia) fun z hz=>⟨(h5 z hz).1,by have:=(h5 z hz).2;lia⟩
  ·split
   ·have hp : ∀ z∈padTo c b,0 ≤ z∧z + (r.length + 1 : Nat) ≤ m:=by
     intro z hz
     unfold padTo at hz
     split at hz
     ·rcases List.mem_append.mp hz with hz | hz
      ·exact h5 z hz
      ·have:=(List.mem_replicate.mp hz).2
       subst this
       lia
     ·exact h5 z hz
    have hpl : (padTo c b).length + r.length ≤ m:=by
     unfold padTo
     split
     ·simp;lia
     ·lia
    have hpb:=padTo_len (c:=c) h0
    refine wScan_bound r _ 0 (n + 1) (nt + 1) m (by lia) (by lia) (by refine rr (List.length_set ..) ?_;exact hpl) (by lia) (by lia) fun z hz=>?_
    rcases List.mem_or_eq_of_mem_set hz with hz | rfl
    ·have:=hp z hz;lia
    ·have hlt : b.toNat < (padTo c b).length:=by lia
     have hm : (padTo c b).getD b.toNat 0∈padTo c b:=by simp [List.getD,hlt]
     have:=hp _ hm
     lia
   ·exact ⟨by simp only;lia,h0,by simp only;lia,h3,by simp only;lia,fun z hz=>⟨(h5 z hz).1,by have:=(h5 z hz).2;lia⟩⟩
theorem wOf_bound {raw : List Nat} {m : Nat} (h : raw.length ≤ m) : (wc raw).length ≤ m∧0 ≤ wb raw∧wb raw ≤ m∧0 ≤ wnt raw∧wnt raw ≤ m∧∀ z∈wc raw,0 ≤ z∧z ≤ m :=
 wScan_bound raw [] 0 0 0 m (by lia) (by lia) (by simpa using h) (by lia) (by lia) fun z hz=>nomatch hz
section
variable {mg mb : Str→Option Value} {K : Frag}
theorem BJ.lenT {xs : List V} (hz : xs.length ≤ sizeLine) {Q : QV} (q : Q (.int xs.length) σ) : BJ prog w C Φ ρ σ "len" [.tup xs] Q:=by
 intro A I s vals a R hv QQ E g
 obtain ⟨v,us,rfl,h1,h2⟩:=hv.cons_inv
 refine rr (h2.nil_inv ..) ?_
 obtain ⟨l,vs,n,rfl,hl,hvs⟩:=h1.tup_inv
 have e : vs.toArray.size = xs.length:=by simp [hvs.1]
 refine len_tuple (items:=vs.toArray) ⟨_,R.im _ _ hl,rfl,_,rfl⟩ (by refine rr e ?_;exact sizeLine_lt hz) ?_
 refine rr e ?_
 exact g.toks R (.int _ _) q
theorem EV.w_norm (W : Wc K C Φ.h₀ mg) {o : Expr} {pos : Pos} {Q : QV} (he : eval (.Attribute o "norm" pos) Φ.env = (do
   let ov ← eval o Φ.env
   standAt pos.atName
   let r ← holding [ov] (getAttr ov "norm" true)
   letTemporaryGo o ov r
   Pure.pure r)) (h : EV prog w C Φ o ρ σ fun ov σ₂=>∃ raw,ov = VW raw∧Q (VN (wc raw) (wb raw)) σ₂) : EV prog w C Φ (.Attribute o "norm" pos) ρ σ Q :=
 EV.attrW W.X W.P (W.own _ (by decide +kernel)) he (h.mono fun v σ' ⟨raw,e,q⟩=>⟨raw,_,_,_,_,_,_,e,rfl,q⟩)
theorem EV.w_n (W : Wc K C Φ.h₀ mg) {o : Expr} {pos : Pos} {Q : QV} (he : eval (.Attribute o "n" pos) Φ.env = (do
   let ov ← eval o Φ.env
   standAt pos.atName
   let r ← holding [ov] (getAttr ov "n" true)
   letTemporaryGo o ov r
   Pure.pure r)) (h : EV prog w C Φ o ρ σ fun ov σ₂=>∃ raw,ov = VW raw∧Q (.int (wn raw)) σ₂) : EV prog w C Φ (.Attribute o "n" pos) ρ σ Q :=
 EV.attrW W.X W.P (W.own _ (by decide +kernel)) he (h.mono fun v σ' ⟨raw,e,q⟩=>⟨raw,_,_,_,_,_,_,e,rfl,q⟩)
theorem EV.w_nt (W : Wc K C Φ.h₀ mg) {o : Expr} {pos : Pos} {Q : QV} (he : eval (.Attribute o "nt" pos) Φ.env = (do
   let ov ← eval o Φ.env
   standAt pos.atName
   let r ← holding [ov] (getAttr ov "nt" true)
   letTemporaryGo o ov r
   Pure.pure r)) (h : EV prog w C Φ o ρ σ fun ov σ₂=>∃ raw,ov = VW raw∧Q (.int (wnt raw)) σ₂) : EV prog w C Φ (.Attribute o "nt" pos) ρ σ Q :=
 EV.attrW W.X W.P (W.own _ (by decide +kernel)) he (h.mono fun v σ' ⟨raw,e,q⟩=>⟨raw,_,_,_,_,_,_,e,rfl,q⟩)
theorem EV.w_simple (W : Wc K C Φ.h₀ mg) {o : Expr} {pos : Pos} {Q : QV} (he : eval (.Attribute o "is_simple" pos) Φ.env = (do
   let ov ← eval o Φ.env
   standAt pos.atName
   let r ← holding [ov] (getAttr ov "is_simple" true)
   letTemporaryGo o ov r
   Pure.pure r)) (h : EV prog w C Φ o ρ σ fun ov σ₂=>∃ raw,ov = VW raw∧Q (.bool (wsimple raw)) σ₂) : EV prog w C Φ (.Attribute o "is_simple" pos) ρ σ Q :=
 EV.attrW W.X W.P (W.own _ (by decide +kernel)) he (h.mono fun v σ' ⟨raw,e,q⟩=>⟨raw,_,_,_,_,_,_,e,rfl,q⟩)
theorem EV.w_indent (G : Gl Φ.h₀ mg mb) (W : Wc K C Φ.h₀ mg) (hl : 2 ≤ Φ.lvl) {o e : Expr} {apos pos : Pos} {args : List Expr} {pl : Sem Bool} {Q : QV}
  (he : eval (.Call (.Attribute o "indent_level" apos) (e :: args) [] pos) Φ.env = (do
   let ov ← eval o Φ.env
   standAt apos.atName
   let (f,first) ← holding [ov] (getMethod ov "indent_level" pl)
   callWith pos f first (backTo pos (starEach (e :: args) Φ.env)) [])) (hs : starEach (e :: args) Φ.env = (false,eval e Φ.env) :: starEach args Φ.env)
  (h : EV prog w C Φ o ρ σ fun ov σ₁=>∃ raw,ov = VW raw∧EA prog w C Φ pos (e :: args) ρ σ₁ fun xs σ₂=>xs.length = 1∧FnBody prog w C Φ d_windent (VW raw :: xs) σ₂ Q) :
  EV prog w C Φ (.Call (.Attribute o "indent_level" apos) (e :: args) [] pos) ρ σ Q:=by
 obtain ⟨f,cdv,h1,h2,h3⟩:=W.indent
 refine EV.methW W.X W.P G.tx ok_windent hl h3 bind_windent h1 h2 he hs (h.mono fun v σ' ⟨raw,e,q⟩=>⟨⟨_,_,_,_,_,_,e,rfl⟩,?_⟩)
 subst e
 exact fun A I s a R QQ E g=>q A I s a R QQ E fun xs σ' I' s' vals ⟨hx,q'⟩=>g xs σ' I' s' vals ⟨by simpa using hx,q'⟩
theorem EV.w_less (G : Gl Φ.h₀ mg mb) (W : Wc K C Φ.h₀ mg) (hl : 2 ≤ Φ.lvl) {o e : Expr} {apos pos : Pos} {args : List Expr} {pl : Sem Bool} {Q : QV}
  (he : eval (.Call (.Attribute o "less" apos) (e :: args) [] pos) Φ.env = (do
   let ov ← eval o Φ.env
   standAt apos.atName
   let (f,first) ← holding [ov] (getMethod ov "less" pl)
   callWith pos f first (backTo pos (starEach (e :: args) Φ.env)) [])) (hs : starEach (e :: args) Φ.env = (false,eval e Φ.env) :: starEach args Φ.env)
  (h : EV prog w C Φ o ρ σ fun ov σ₁=>∃ raw,ov = VW raw∧EA prog w C Φ pos (e :: args) ρ σ₁ fun xs σ₂=>xs.length = 1∧FnBody prog w C Φ d_wless (VW raw :: xs) σ₂ Q) :
  EV prog w C Φ (.Call (.Attribute o "less" apos) (e :: args) [] pos) ρ σ Q:=by
 obtain ⟨f,cdv,h1,h2,h3⟩:=W.less
 refine EV.methW W.X W.P G.tx ok_wless hl h3 bind_wless h1 h2 he hs (h.mono fun v σ' ⟨raw,e,q⟩=>⟨⟨_,_,_,_,_,_,e,rfl⟩,?_⟩)
 subst e
 exact fun A I s a R QQ E g=>q A I s a R QQ E fun xs σ' I' s' vals ⟨hx,q'⟩=>g xs σ' I' s' vals ⟨by simpa using hx,q'⟩
theorem EV.w_equal (G : Gl Φ.h₀ mg mb) (W : Wc K C Φ.h₀ mg) (hl : 2 ≤ Φ.lvl) {o e : Expr} {apos pos : Pos} {args : List Expr} {pl : Sem Bool} {Q : QV}
  (he : eval (.Call (.Attribute o "equal" apos) (e :: args) [] pos) Φ.env = (do
   let ov ← eval o Φ.env
   standAt apos.atName
   let (f,first) ← holding [ov] (getMethod ov "equal" pl)
   callWith pos f first (backTo pos (starEach (e :: args) Φ.env)) [])) (hs : starEach (e :: args) Φ.env = (false,eval e Φ.env) :: starEach args Φ.env)
  (h : EV prog w C Φ o ρ σ fun ov σ₁=>∃ raw,ov = VW raw∧EA prog w C Φ pos (e :: args) ρ σ₁ fun xs σ₂=>xs.length = 1∧FnBody prog w C Φ d_wequal (VW raw :: xs) σ₂ Q) :
  EV prog w C Φ (.Call (.Attribute o "equal" apos) (e :: args) [] pos) ρ σ Q:=by
 obtain ⟨f,cdv,h1,h2,h3⟩:=W.equal
 refine EV.methW W.X W.P G.tx ok_wequal hl h3 bind_wequal h1 h2 he hs (h.mono fun v σ' ⟨raw,e,q⟩=>⟨⟨_,_,_,_,_,_,e,rfl⟩,?_⟩)
 subst e
 exact fun A I s a R QQ E g=>q A I s a R QQ E fun xs σ' I' s' vals ⟨hx,q'⟩=>g xs σ' I' s' vals ⟨by simpa using hx,q'⟩
theorem EV.w_wit (G : Gl Φ.h₀ mg mb) (W : Wc K C Φ.h₀ mg) (hl : 2 ≤ Φ.lvl) {o e : Expr} {apos pos : Pos} {args : List Expr} {pl : Sem Bool} {Q : QV}
  (he : eval (.Call (.Attribute o "not_equal_witness" apos) (e :: args) [] pos) Φ.env = (do
   let ov ← eval o Φ.env
   standAt apos.atName
   let (f,first) ← holding [ov] (getMethod ov "not_equal_witness" pl)
   callWith pos f first (backTo pos (starEach (e :: args) Φ.env)) [])) (hs : starEach (e :: args) Φ.env = (false,eval e Φ.env) :: starEach args Φ.env)
  (h : EV prog w C Φ o ρ σ fun ov σ₁=>∃ raw,ov = VW raw∧EA prog w C Φ pos (e :: args) ρ σ₁ fun xs σ₂=>xs.length = 1∧FnBody prog w C Φ d_wwit (VW raw :: xs) σ₂ Q) :
  EV prog w C Φ (.Call (.Attribute o "not_equal_witness" apos) (e :: args) [] pos) ρ σ Q:=by
 obtain ⟨f,cdv,h1,h2,h3⟩:=W.wit
 refine EV.methW W.X W.P G.tx ok_wwit hl h3 bind_wwit h1 h2 he hs (h.mono fun v σ' ⟨raw,e,q⟩=>⟨⟨_,_,_,_,_,_,e,rfl⟩,?_⟩)
 subst e
 exact fun A I s a R QQ E g=>q A I s a R QQ E fun xs σ' I' s' vals ⟨hx,q'⟩=>g xs σ' I' s' vals ⟨by simpa using hx,q'⟩
theorem EV.w_long (G : Gl Φ.h₀ mg mb) (W : Wc K C Φ.h₀ mg) (hl : 2 ≤ Φ.lvl) {o : Expr} {apos pos : Pos} {pl : Sem Bool} {Q : QV}
  (he : eval (.Call (.Attribute o "longest_run_of_spaces" apos) [] [] pos) Φ.env = (do
   let ov ← eval o Φ.env
   standAt apos.atName
   let (f,first) ← holding [ov] (getMethod ov "longest_run_of_spaces" pl)
   callWith pos f first (backTo pos (starEach [] Φ.env)) []))
  (h : EV prog w C Φ o ρ σ fun ov σ₁=>∃ raw,ov = VW raw∧FnBody prog w C Φ d_wlong [VW raw] σ₁ Q) :
  EV prog w C Φ (.Call (.Attribute o "longest_run_of_spaces" apos) [] [] pos) ρ σ Q:=by
 obtain ⟨f,cdv,h1,h2,h3⟩:=W.long
 refine EV.methW0 W.X W.P G.tx ok_wlong hl h3 bind_wlong h1 h2 he (h.mono fun v σ' ⟨raw,e,q⟩=>⟨⟨_,_,_,_,_,_,e,rfl⟩,rfl,?_⟩)
 subst e
 exact q
theorem wlong_fn (G : Gl Φ.h₀ mg mb) (W : Wc K C Φ.h₀ mg) (hh : Φ.hd = none) (hl : 2 ≤ Φ.lvl) {raw : List Nat} (hz : raw.length ≤ 1000) {Q : QV} (q : Q (.int (longest raw)) σ) : FnBody prog w C Φ d_wlong [VW raw] σ Q:=by
 refine FnBody.of ok_wlong hl [some (VW raw),none,none] rfl fun L f cdv Ok=>?_
 haveI hh : (Φ.enter d_wlong L f cdv).hd = none:=hh
 haveI G : Gl (Φ.enter d_wlong L f cdv).h₀ mg mb:=G
 haveI W : Wc K C (Φ.enter d_wlong L f cdv).h₀ mg:=W
 haveI s0 : Sl (Φ.enter d_wlong L f cdv) 0 "self" none:=rfl
 haveI s1 : Sl (Φ.enter d_wlong L f cdv) 1 "count" none:=rfl
 haveI s2 : Sl (Φ.enter d_wlong L f cdv) 2 "trailing" none:=rfl
 have hb:=wOf_bound hz
 refine EX.cons (EX1.asg rfl rfl rfl (EV.w_norm W rfl ?_))
 walk_at "e"
 refine ⟨raw,rfl,AS.tup hh rfl rfl ⟨_,rfl,rfl,ASs.cons (AS.name Ok (i:=1) rfl (.inl rfl) (ASs.cons (AS.name Ok (i:=2) rfl (.inl rfl) (ASs.nil ?_))))⟩⟩
 refine EX.cons (EX1.ret ?_)
 repeat walk_at "e"
 refine BJ.lenT (sl _ (by simp;lia)) ?_
 repeat walk_at "e"
 refine BJ.max2 hh ?_
 refine rr (List.length_map ..) ?_
 exact q
inductive J7_1 (σ : St) (raw : List Nat) (ts : Int) (rest : List Int) (ρ₁ : List (Option V)) (σ₁ : St) : Prop
 | mk (il : _) (x5 : _) (h0 : rest.foldl (fun il i=>il + i.fdiv ts * (wc raw).getD i.toNat 0) il = indSum ts (wc raw)) (h1 : ρ₁ = [some (VW raw),some (.int ts),some (.tup ((wc raw).map .int)),some (.int (wb raw)),some (.int il),x5]) (h2 : σ₁ = σ)
theorem windent_fn (G : Gl Φ.h₀ mg mb) (W : Wc K C Φ.h₀ mg) (hh : Φ.hd = none) (hl : 2 ≤ Φ.lvl) {raw : List Nat} {ts : Int} (h0 : 0 < ts) (h1 : ts ≤ 1002) (hz : raw.length ≤ 1000) {Q : QV} (q : Q (.int (indent raw ts)) σ) : FnBody prog w C Φ d_windent [VW raw,.int ts] σ Q:=by
 refine FnBody.of ok_windent hl [some (VW raw),some (.int ts),none,none,none,none] rfl fun L f cdv Ok=>?_
 haveI hh : (Φ.enter d_windent L f cdv).hd = none:=hh
 haveI G : Gl (Φ.enter d_windent L f cdv).h₀ mg mb:=G
 haveI W : Wc K C (Φ.enter d_windent L f cdv).h₀ mg:=W
 haveI s0 : Sl (Φ.enter d_windent L f cdv) 0 "self" none:=rfl
 haveI s1 : Sl (Φ.enter d_windent L f cdv) 1 "tabsize" none:=rfl
 haveI s2 : Sl (Φ.enter d_windent L f cdv) 2 "count" none:=rfl
 haveI s3 : Sl (Φ.enter d_windent L f cdv) 3 "trailing" none:=rfl
 haveI s4 : Sl (Φ.enter d_windent L f cdv) 4 "il" none:=rfl
 haveI s5 : Sl (Φ.enter d_windent L f cdv) 5 "i" none:=rfl
 have hb:=wOf_bound hz
 refine EX.cons (EX1.asg rfl rfl rfl (EV.w_norm W rfl ?_))
 walk_at "e"
 refine ⟨raw,rfl,AS.tup hh rfl rfl ⟨_,rfl,rfl,ASs.cons (AS.name Ok (i:=2) rfl (.inl rfl) (ASs.cons (AS.name Ok (i:=3) rfl (.inl rfl) (ASs.nil ?_))))⟩⟩
 refine EX.cons (EX1.assign Ok (i:=4) rfl (.inl rfl) rfl (EV.int ?_))
 refine EX.cons (EX1.for1 Ok (i:=5) rfl (.inl rfl) (fun _=>rfl) V.int ?_)
 repeat walk_at "e"
 refine BJ.lenT (sl _ (by simp;lia)) ?_
 refine rr (List.length_map ..) ?_
 repeat walk_at "e"
 refine IB1.range2 hh (a₀:=ts) (by lia) (by lia) ?_
 refine ⟨rng ts (wc raw).length,(J7_1 σ raw ts),rfl,⟨0,_,rfl,rfl,rfl⟩,?_,?_⟩
 ·rintro k rest _ _ hsuf ⟨il,x5,hf,rfl,rfl⟩
  have hk:=rng_mem (hsuf.subset (.head _))
  have hkn : k.toNat < (wc raw).length:=by lia
  have hm : (wc raw).getD k.toNat 0∈wc raw:=by simp [List.getD,hkn]
  have hbk:=hb.2.2.2.2.2 _ hm
  refine EX.cons (EX1.assign Ok (i:=4) rfl (.inl rfl) rfl ?_)
  repeat walk_at "e"
  refine OP.divIs (by lia) (by lia) ?_
  repeat walk_at "e"
  refine ⟨⟨"tuple",rfl⟩,GI.tupI (v:=.int ((wc raw).getD k.toNat 0)) (by lia) (by lia) (by simp [List.getD,hkn]) ?_⟩
  refine OP.mulIr (intBits_le_64 (by lia) (by lia)) ?_
  repeat walk_at "e"
  exact EX.nil ⟨_,_,hf,rfl,rfl⟩
 ·rintro _ _ ⟨il,x5,hf,rfl,rfl⟩
  refine EX.cons (EX1.ret ?_)
  repeat walk_at "e"
  refine EV.w_nt W rfl ?_
  walk_at "e"
  refine ⟨raw,rfl,?_⟩
  repeat walk_at "e"
  refine OP.mulI (.of_left (intBits_le_64 (by lia) (by lia))) ?_
  repeat walk_at "e"
  have hf : il = indSum ts (wc raw):=hf
  refine rr hf ?_
  exact q
theorem wequal_fn (G : Gl Φ.h₀ mg mb) (W : Wc K C Φ.h₀ mg) (hh : Φ.hd = none) (hl : 2 ≤ Φ.lvl) {x y : List Nat} {Q : QV} (q : Q (.bool (wequal x y)) σ) : FnBody prog w C Φ d_wequal [VW x,VW y] σ Q:=by
 refine FnBody.of ok_wequal hl [some (VW x),some (VW y)] rfl fun L f cdv Ok=>?_
 haveI hh : (Φ.enter d_wequal L f cdv).hd = none:=hh
 haveI W : Wc K C (Φ.enter d_wequal L f cdv).h₀ mg:=W
 haveI s0 : Sl (Φ.enter d_wequal L f cdv) 0 "self" none:=rfl
 haveI s1 : Sl (Φ.enter d_wequal L f cdv) 1 "other" none:=rfl
 refine EX.cons (EX1.ret (EV.co rfl (EV.w_norm W rfl ?_)))
 walk_at "e"
 refine ⟨x,rfl,EV.w_norm W rfl ?_⟩
 walk_at "e"
 exact ⟨y,rfl,CO.eqNorm q⟩
theorem longest_bound {raw : List Nat} (hz : raw.length ≤ 1000) : -1 ≤ longest raw∧longest raw ≤ 1000:=by
 have hb:=wOf_bound hz
 unfold longest
 lia
inductive J7_2 (σ : St) (x : List Nat) (y : List Nat) (a : Addr) (rest : List Int) (ρ₁ : List (Option V)) (σ₁ : St) : Prop
 | mk (done : _) (x4 : _) (h0 : done ++ ((rest.filter fun ts=>!decide (indent x ts = indent y ts)).map fun ts=>(ts,indent x ts,indent y ts)) = wwit x y) (h1 : done.length + rest.length ≤ 1001) (h2 : ρ₁ = [some (VW x),some (VW y),some (.int (wsize x y)),some (.ref a),x4]) (h3 : σ₁ = (a,.lst (VWit done)) :: σ)
theorem wwit_fn (G : Gl Φ.h₀ mg mb) (W : Wc K C Φ.h₀ mg) (hh : Φ.hd = none) (hl : 3 ≤ Φ.lvl) {x y : List Nat} (hx : x.length ≤ 1000) (hy : y.length ≤ 1000) {Q : QV} (q : Q (.lst (VWit (wwit x y))) σ) : FnBody prog w C Φ d_wwit [VW x,VW y] σ Q:=by
 refine FnBody.of ok_wwit (by lia) [some (VW x),some (VW y),none,none,none] rfl fun L f cdv Ok=>?_
 have hl2 : 2 ≤ (Φ.enter d_wwit L f cdv).lvl:=by show 2 ≤ Φ.lvl - 1;lia
 haveI hh : (Φ.enter d_wwit L f cdv).hd = none:=hh
 haveI G : Gl (Φ.enter d_wwit L f cdv).h₀ mg mb:=G
 haveI W : Wc K C (Φ.enter d_wwit L f cdv).h₀ mg:=W
 haveI s0 : Sl (Φ.enter d_wwit L f cdv) 0 "self" none:=rfl
 haveI s1 : Sl (Φ.enter d_wwit L f cdv) 1 "other" none:=rfl
 haveI s2 : Sl (Φ.enter d_wwit L f cdv) 2 "n" none:=rfl
 haveI s3 : Sl (Φ.enter d_wwit L f cdv) 3 "a" none:=rfl
 haveI s4 : Sl (Φ.enter d_wwit L f cdv) 4 "ts" none:=rfl
 have bx:=longest_bound hx
 have by':=longest_bound hy
 refine EX.cons (EX1.assign Ok (i:=2) rfl (.inl rfl) rfl ?_)
 repeat walk_at "e"
 refine EV.w_long G W hl2 rfl ?_
 walk_at "e"
 refine ⟨x,rfl,wlong_fn G W hh hl2 hx ?_⟩
 refine EA.cons rfl (EV.w_long G W hl2 rfl ?_)
 walk_at "e"
 refine ⟨y,rfl,wlong_fn G W hh hl2 hy ?_⟩
 repeat walk_at "e"
 refine BJ.max2 hh ?_
 repeat walk_at "e"
 have hsz : max (longest x) (longest y) + 1 = wsize x y:=rfl
 have hszb : 0 ≤ wsize x y∧wsize x y ≤ 1001:=by unfold wsize;lia
 refine rr hsz ?_
 refine EX.cons (EX1.assign Ok (i:=3) rfl (.inl rfl) rfl (EV.lstM (EA.nil ⟨sl 0 (by decide),fun a=>?_⟩)))
 refine EX.cons (EX1.for1 Ok (i:=4) rfl (.inl rfl) (fun _=>rfl) V.int ?_)
 repeat walk_at "e"
 refine IB1.range2 hh (a₀:=1) (by decide) (by lia) ?_
 refine ⟨rng 1 (wsize x y + 1),(J7_2 σ x y a),rfl,⟨[],_,rfl,by refine rr rng_len ?_;simp;lia,rfl,rfl⟩,?_,?_⟩
 ·rintro ts rest _ _ hsuf ⟨done,x4,hd,hdl,rfl,rfl⟩
  have hk:=rng_mem (hsuf.subset (.head _))
  simp only [List.length_cons] at hdl
  refine EX.cons (EX1.if_ (ET.co rfl ?_))
  refine EV.w_indent G W hl2 rfl rfl ?_
  walk_at "e"
  refine ⟨x,rfl,EA.cons rfl ?_⟩
  repeat walk_at "e"
  refine ⟨rfl,windent_fn G W hh hl2 (by lia) (by lia) hx ?_⟩
  refine EV.w_indent G W hl2 rfl rfl ?_
  walk_at "e"
  refine ⟨y,rfl,EA.cons rfl ?_⟩
  repeat walk_at "e"
  refine ⟨rfl,windent_fn G W hh hl2 (by lia) (by lia) hy ?_⟩
  refine CO.neI ?_
  replace hd:=(List.filter_cons ..) ▸ hd
  cases hne : !decide (indent x ts = indent y ts) with
  | true =>
   replace hd:=hne ▸ hd
   simp only [if_true,List.map_cons] at hd ⊢
   refine EX.cons (EX1.expr rfl rfl ?_)
   walk_at "e"
   walk_at "e"
   refine ⟨.inl ⟨_,.head _,rfl⟩,EA.cons rfl (EV.tupF ?_)⟩
   repeat walk_at "e"
   refine EV.w_indent G W hl2 rfl rfl ?_
   walk_at "e"
   refine ⟨x,rfl,EA.cons rfl ?_⟩
   repeat walk_at "e"
   refine ⟨rfl,windent_fn G W hh hl2 (by lia) (by lia) hx ?_⟩
   refine EA.cons rfl (EV.w_indent G W hl2 rfl rfl ?_)
   walk_at "e"
   refine ⟨y,rfl,EA.cons rfl ?_⟩
   repeat walk_at "e"
   refine ⟨rfl,windent_fn G W hh hl2 (by lia) (by lia) hy ?_⟩
   walk_at "e"
   refine ⟨sl 3 (by decide),?_⟩
   walk_at "e"
   refine BJ.append (i:=0) rfl (sl _ (by simp [VWit];lia)) ?_
   refine EX.nil (EX.nil ⟨done ++ [(ts,indent x ts,indent y ts)],_,?_,by simp;lia,rfl,?_⟩)
   ·refine rl hd ?_;simp
   ·simp [VWit]
  | false =>
   replace hd:=hne ▸ hd
   exact EX.nil (EX.nil ⟨done,_,hd,by lia,rfl,rfl⟩)
 ·rintro _ _ ⟨done,x4,hd,hdl,rfl,rfl⟩
  have hd : done = wwit x y:=by simpa using hd
  subst hd
  refine EX.freeze (i:=0) (j:=3) rfl rfl ?_
  refine EX.cons (EX1.ret ?_)
  walk_at "e"
  exact q
inductive J7_3 (σ : St) (x : List Nat) (y : List Nat) (rest : List Int) (ρ₁ : List (Option V)) (σ₁ : St) : Prop
 | mk (x3 : _) (h0 : (rest.all fun ts=>!decide (indent y ts ≤ indent x ts)) = ((rng 2 (wsize x y + 1)).all fun ts=>!decide (indent y ts ≤ indent x ts))) (h1 : ρ₁ = [some (VW x),some (VW y),some (.int (wsize x y)),x3]) (h2 : σ₁ = σ)
theorem wless_fn (G : Gl Φ.h₀ mg mb) (W : Wc K C Φ.h₀ mg) (hh : Φ.hd = none) (hl : 3 ≤ Φ.lvl) {x y : List Nat} (hx : x.length ≤ 1000) (hy : y.length ≤ 1000) {Q : QV} (q : Q (.bool (wless x y)) σ) : FnBody prog w C Φ d_wless [VW x,VW y] σ Q:=by
 refine FnBody.of ok_wless (by lia) [some (VW x),some (VW y),none,none] rfl fun L f cdv Ok=>?_
 have hl2 : 2 ≤ (Φ.enter d_wless L f cdv).lvl:=by show 2 ≤ Φ.lvl - 1;lia
 haveI hh : (Φ.enter d_wless L f cdv).hd = none:=hh
 haveI G : Gl (Φ.enter d_wless L f cdv).h₀ mg mb:=G
 haveI W : Wc K C (Φ.enter d_wless L f cdv).h₀ mg:=W
 haveI s0 : Sl (Φ.enter d_wless L f cdv) 0 "self" none:=rfl
 haveI s1 : Sl (Φ.enter d_wless L f cdv) 1 "other" none:=rfl
 haveI s2 : Sl (Φ.enter d_wless L f cdv) 2 "n" none:=rfl
 haveI s3 : Sl (Φ.enter d_wless L f cdv) 3 "ts" none:=rfl
 have bx:=longest_bound hx
 have by':=longest_bound hy
 rw [wless] at q
 refine EX.cons (EX1.if_ (ET.co rfl (EV.w_n W rfl ?_)))
 walk_at "e"
 refine ⟨x,rfl,EV.w_n W rfl ?_⟩
 walk_at "e"
 refine ⟨y,rfl,CO.geI ?_⟩
 cases hn : decide (wn y ≤ wn x) with
 | true =>
  replace q:=hn ▸ q
  refine EX.cons (EX1.ret ?_)
  walk_at "e"
  exact q
 | false =>
  replace q:=hn ▸ q
  refine EX.nil ?_
  have cont : (wsimple x && wsimple y) = false→EX prog w C (Φ.enter d_wless L f cdv) (d_wless.body.drop 2) [some (VW x),some (VW y),none,none] σ fun fl _ σ'=>match fl with
   | .ret v=>Q v σ'
   | _=>Q .none σ':=fun hs=>by
   replace q:=hs ▸ q
   refine EX.cons (EX1.assign Ok (i:=2) rfl (.inl rfl) rfl ?_)
   repeat walk_at "e"
   refine EV.w_long G W hl2 rfl ?_
   walk_at "e"
   refine ⟨x,rfl,wlong_fn G W hh hl2 hx ?_⟩
   refine EA.cons rfl (EV.w_long G W hl2 rfl ?_)
   walk_at "e"
   refine ⟨y,rfl,wlong_fn G W hh hl2 hy ?_⟩
   repeat walk_at "e"
   refine BJ.max2 hh ?_
   repeat walk_at "e"
   have hsz : max (longest x) (longest y) + 1 = wsize x y:=rfl
   have hszb : 0 ≤ wsize x y∧wsize x y ≤ 1001:=by unfold wsize;lia
   refine rr hsz ?_
   refine EX.cons (EX1.for1 Ok (i:=3) rfl (.inl rfl) (fun _=>rfl) V.int ?_)
   repeat walk_at "e"
   refine IB1.range2 hh (a₀:=2) (by decide) (by lia) ?_
   refine ⟨rng 2 (wsize x y + 1),(J7_3 σ x y),rfl,⟨_,rfl,rfl,rfl⟩,?_,?_⟩
   ·rintro ts rest _ _ hsuf ⟨x3,ha,rfl,rfl⟩
    have hk:=rng_mem (hsuf.subset (.head _))
    refine EX.cons (EX1.if_ (ET.co rfl ?_))
    refine EV.w_indent G W hl2 rfl rfl ?_
    walk_at "e"
    refine ⟨x,rfl,EA.cons rfl ?_⟩
    repeat walk_at "e"
    refine ⟨rfl,windent_fn G W hh hl2 (by lia) (by lia) hx ?_⟩
    refine EV.w_indent G W hl2 rfl rfl ?_
    walk_at "e"
    refine ⟨y,rfl,EA.cons rfl ?_⟩
    repeat walk_at "e"
    refine ⟨rfl,windent_fn G W hh hl2 (by lia) (by lia) hy ?_⟩
    refine CO.geI ?_
    replace ha:=(List.all_cons ..) ▸ ha
    cases hge : decide (indent y ts ≤ indent x ts) with
    | true =>
     replace ha:=hge ▸ ha
     refine EX.cons (EX1.ret ?_)
     walk_at "e"
     have ha : false = ((rng 2 (wsize x y + 1)).all fun ts=>!decide (indent y ts ≤ indent x ts)):=ha
     replace q:=ha.symm ▸ q
     exact q
    | false =>
     replace ha:=hge ▸ ha
     exact EX.nil (EX.nil ⟨_,ha,rfl,rfl⟩)
   ·rintro _ _ ⟨x3,ha,rfl,rfl⟩
    refine EX.cons (EX1.ret ?_)
    walk_at "e"
    have ha : true = ((rng 2 (wsize x y + 1)).all fun ts=>!decide (indent y ts ≤ indent x ts)):=ha
    replace q:=ha.symm ▸ q
    exact q
  refine EX.cons (EX1.if_ (ET.and_ (ET.bool (fun _ _=>rfl) (EV.w_simple W rfl ?_))))
  walk_at "e"
  refine ⟨x,rfl,_,rfl,?_⟩
  cases hsx : wsimple x with
  | false=>exact EX.nil (cont (by refine rr hsx ?_;rfl))
  | true =>
   refine ET.bool (fun _ _=>rfl) (EV.w_simple W rfl ?_)
   walk_at "e"
   refine ⟨y,rfl,_,rfl,?_⟩
   cases hsy : wsimple y with
   | false=>exact EX.nil (cont (by refine rr hsx ?_;refine rr hsy ?_;rfl))
   | true =>
    replace q:=hsx ▸ q;replace q:=hsy ▸ q
    refine EX.cons (EX1.ret (EV.co rfl (EV.w_nt W rfl ?_)))
    walk_at "e"
    refine ⟨x,rfl,EV.w_nt W rfl ?_⟩
    walk_at "e"
    exact ⟨y,rfl,CO.leI q⟩
end
structure Rx (h₀ : Heap) (mg : Str→Option Value) : Prop where
 eol : ∃ p,mg "_twin_re_2" = some (.ref p)∧PatAt h₀ p ec 0
 dot : ∃ p,mg "_twin_re_1" = some (.ref p)∧PatAt h₀ p qc 1
 ip : ∃ p,mg "IPV4_RE" = some (.ref p)∧PatAt h₀ p ipc 0
 crlf : ∃ t,mg "CRLF" = some (.str (mkS [13,10]) t)
section
variable {mg mb : Str→Option Value}
theorem eols_fn (G : Gl Φ.h₀ mg mb) (X : Rx Φ.h₀ mg) (hh : Φ.hd = none) (hl : 3 ≤ Φ.lvl) {x : List Nat} (hx : x.length ≤ 10000) {Q : QV} (q : Q (.str (eolsOf x)) σ) : FnBody prog w C Φ d_eols [.str x] σ Q:=by
 refine FnBody.of ok_eols (by lia) [some (.str x)] rfl fun L f cdv Ok=>?_
 haveI hl2 : 2 ≤ (Φ.enter d_eols L f cdv).lvl:=by show 2 ≤ Φ.lvl - 1;lia
 haveI G : Gl (Φ.enter d_eols L f cdv).h₀ mg mb:=G
 haveI s0 : Sl (Φ.enter d_eols L f cdv) 0 "data" none:=rfl
 obtain ⟨p,hp,hP⟩:=X.eol
 obtain ⟨t,ht⟩:=X.crlf
 refine EX.cons (EX1.ret (EV.methP "re.Pattern.sub" slot_sub type_sub rfl rfl rfl (EV.glob Ok G.tx (v:=.ref p) rfl (by decide +kernel) hp (fun I _=>.ref p) ?_)))
 refine ⟨p,_,_,rfl,hP,EA.cons rfl (EV.glob Ok G.tx (v:=.str [13,10]) rfl (by decide +kernel) ht (fun I _=>.str _ _) (EA.cons rfl ?_))⟩
 walk_at "e"
 walk_at "e"
 exact BJ.subStr hl2 hP hx q
end
noncomputable def without (x : List Nat) (b e : Nat) : List Nat:=strSlice x none (some b) ++ strSlice x (some e) none
section
variable {mg mb : Str→Option Value}
theorem quote_fn (G : Gl Φ.h₀ mg mb) (X : Rx Φ.h₀ mg) (hh : Φ.hd = none) (hl : 3 ≤ Φ.lvl) {x : List Nat} (hx : x.length ≤ 10000) (hsm : Small x) {Q : QV} (q : Q (VB (dotsOf x)) σ) : FnBody prog w C Φ d_quote [VB x] σ Q:=by
 refine FnBody.of ok_quote (by lia) [some (VB x)] rfl fun L f cdv Ok=>?_
 haveI hl2 : 2 ≤ (Φ.enter d_quote L f cdv).lvl:=by show 2 ≤ Φ.lvl - 1;lia
 haveI G : Gl (Φ.enter d_quote L f cdv).h₀ mg mb:=G
 haveI s0 : Sl (Φ.enter d_quote L f cdv) 0 "bindata" none:=rfl
 obtain ⟨p,hp,hP⟩:=X.dot
 refine EX.cons (EX1.ret (EV.methP "re.Pattern.sub" slot_sub type_sub rfl rfl rfl (EV.glob Ok G.tx (v:=.ref p) rfl (by decide +kernel) hp (fun I _=>.ref p) ?_)))
 refine ⟨p,_,_,rfl,hP,EA.cons rfl (EV.byt (EA.cons rfl ?_))⟩
 walk_at "e"
 walk_at "e"
 exact BJ.subByt hl2 hP hx hsm q
theorem unm_fn (G : Gl Φ.h₀ mg mb) (hh : Φ.hd = none) (hl : 3 ≤ Φ.lvl) {x : List Nat} {b e : Nat} (h1 : (strSlice x none (some b)).length ≤ 10000) (h2 : (strSlice x (some e) none).length ≤ 10000) {Q : QV} (q : Q (.str (without x b e)) σ) : FnBody prog w C Φ d_unm [.mat x b e] σ Q:=by
 refine FnBody.of ok_unm (by lia) [some (.mat x b e),none,none] rfl fun L f cdv Ok=>?_
 haveI hl2 : 2 ≤ (Φ.enter d_unm L f cdv).lvl:=by show 2 ≤ Φ.lvl - 1;lia
 haveI hh : (Φ.enter d_unm L f cdv).hd = none:=hh
 haveI G : Gl (Φ.enter d_unm L f cdv).h₀ mg mb:=G
 haveI s0 : Sl (Φ.enter d_unm L f cdv) 0 "match" none:=rfl
 haveI s1 : Sl (Φ.enter d_unm L f cdv) 1 "start" none:=rfl
 haveI s2 : Sl (Φ.enter d_unm L f cdv) 2 "end" none:=rfl
 refine EX.cons (EX1.asg rfl rfl rfl (EV.methMat "re.Match.span" slot_span type_span rfl rfl rfl ?_))
 walk_at "e"
 refine ⟨x,b,e,rfl,EA.cons rfl (EV.int (EA.nil (BJ.span ?_)))⟩
 refine AS.tup hh rfl rfl ⟨_,rfl,rfl,ASs.cons (AS.name Ok (i:=1) rfl (.inl rfl) (ASs.cons (AS.name Ok (i:=2) rfl (.inl rfl) (ASs.nil ?_))))⟩
 refine EX.cons (EX1.ret (EV.op (EV.sliceS (EV.m_string rfl ?_))))
 walk_at "e"
 refine ⟨x,b,e,rfl,?_⟩
 walk_at "e"
 walk_at "e"
 walk_at "e"
 refine ⟨_,rfl,x,rfl,by lia,?_⟩
 refine EV.sliceS (EV.m_string rfl ?_)
 walk_at "e"
 refine ⟨x,b,e,rfl,?_⟩
 walk_at "e"
 walk_at "e"
 refine ⟨_,rfl,?_⟩
 walk_at "e"
 refine ⟨x,rfl,by lia,?_⟩
 exact OP.addS (sl _ (by lia)) q
theorem hdn_fn (G : Gl Φ.h₀ mg mb) (X : Rx Φ.h₀ mg) (hh : Φ.hd = none) (hl : 3 ≤ Φ.lvl) {x : List Nat} (hx : x.length ≤ 10000) {r : Option (Nat × Nat)} (hr : ipRes x = some r) {Q : QV} (q : Q (.bool (!r.isSome)) σ) : FnBody prog w C Φ d_hdn [.str x] σ Q:=by
 refine FnBody.of ok_hdn (by lia) [some (.str x)] rfl fun L f cdv Ok=>?_
 haveI hh : (Φ.enter d_hdn L f cdv).hd = none:=hh
 haveI G : Gl (Φ.enter d_hdn L f cdv).h₀ mg mb:=G
 haveI s0 : Sl (Φ.enter d_hdn L f cdv) 0 "text" none:=rfl
 obtain ⟨p,hp,hP⟩:=X.ip
 refine EX.cons (EX1.if_ (ET.mat (fun _ _=>rfl) (EV.methP "re.Pattern.search" slot_search type_search rfl rfl rfl (EV.glob Ok G.tx (v:=.ref p) rfl (by decide +kernel) hp (fun I _=>.ref p) ?_))))
 refine ⟨p,_,_,rfl,hP,EA.cons rfl ?_⟩
 walk_at "e"
 walk_at "e"
 refine BJ.search (Φ:=Φ.enter d_hdn L f cdv) hP hx hr ?_
 refine ⟨x,r,rfl,?_⟩
 cases r with
 | none =>
  refine EX.nil (EX.cons (EX1.ret ?_))
  walk_at "e"
  exact q
 | some r =>
  refine EX.cons (EX1.ret ?_)
  walk_at "e"
  exact q
end
noncomputable def sAt : List Nat:=[97,116,32,116,97,98,32,115,105,122,101]
noncomputable def fmtOf (l : List (Int × Int × Int)) : List Nat:=((if decide (1 < (l.length : Int)) then sAt ++ [115] else sAt) ++ [32]) ++ glue [44,32] (l.map fun p=>[48 + p.1.toNat])
noncomputable def tabO (ps : Array Value) : Obj:={ cls:=.none,data:=.fields ps }
noncomputable def TabX (o : Obj) : Prop:=∃ ps,o = tabO ps
inductive CodeBut (h : Heap) (c P : Addr) : Prop
 | mk (o : _) (vs : _) (file : _) (tf : _) (flags : _) (tg : _) (inF : _) (text : _) (tt : _) (h0 : h.get? c = some o) (h1 : o.cls = .type "code") (h2 : o.data = .fields vs) (h3 : vs.getD 11 .none = .ref P) (h4 : vs.getD 18 .none = .str file tf) (h5 : vs.getD 7 .none = .int flags tg) (h6 : vs.getD 9 .none = .bool inF) (h7 : vs.getD 10 .none = .int text tt) (h8 : c ≠ P)
theorem CodeBut.code {h h' : Heap} {c P : Addr} {ps : Array Value} (x : CodeBut h c P) (k : ∀ b o,h.get? b = some o→h'.get? b = some o) (ht : TriplesOk ps.toList) (hP : h'.get? P = some (tabO ps)) : h'.IsCode c P ps∧h'.TableAt c P ps:=by
 obtain ⟨o,vs,file,tf,flags,tg,inF,text,tt,h1,h2,h3,h4,h5,h6,h7,h8,h9⟩:=x
 refine ⟨⟨o,vs,file,tf,flags,tg,inF,text,tt,_,k _ _ h1,h3,h4,h5,h6,h7,h8,hP,rfl,ht,h9⟩,⟨o,vs,k _ _ h1,h2,h3,?_⟩,hP⟩
 have : 11 < vs.size:=by
  rcases Nat.lt_or_ge 11 vs.size with q | q
  ·exact q
  ·replace h4:=(Array.getD_eq_getD_getElem? ..) ▸ h4;replace h4:=(Array.getElem?_eq_none q ..) ▸ h4
   cases h4
 replace h4:=(Array.getD_eq_getD_getElem? ..) ▸ h4;replace h4:=(Array.getElem?_eq_getElem this ..) ▸ h4
 refine rr (Array.getElem?_eq_getElem this ..) ?_
 exact congrArg some h4
noncomputable def fmtPos : Pos:=⟨98,13,98,39⟩
structure Fm (h₀ : Heap) (mg : Str→Option Value) (f P : Addr) (ps : Array Value) : Prop where
 is : ∃ c bm ob,FnAt h₀ f d_fmt (.ref c)∧BMod h₀ mainGlobals mg bm ob∧CodeBut h₀ c P
 ok : TriplesOk ps.toList
 new : codeAmong fmtPos ps.toList = none
theorem keeps_of {s s' : Shared} (hg : s'.gens = s.gens) (hd : s'.drawn = s.drawn) (ho : s'.os = s.os) (hk : ∀ b o,s.heap.get? b = some o→s'.heap.get? b = some o) : Keeps s s':=by
 obtain ⟨h,g,d,t,os⟩:=s'
 dsimp only at hg hd ho hk
 subst hg hd ho
 exact ⟨h,t,rfl,hk⟩
section
variable {mg mb : Str→Option Value}
noncomputable def genFc (Φ : Fc) (scope : Scope) (K : Addr) (code : Value) (env : Env) (fr : Option (List Env)) (g : Array GenState) (d : Drawn) : Fc :=
 { env:=genEnv scope [] K code builtinsNs env,slots:=[(Str.ofString "tup",none)],h₀:=Φ.h₀,frames:=fr,hd:=none,lvl:=1,gs:=fun g' d'=>g' = g∧d' = d }
noncomputable def fmtGen : Expr:=match d_fmt.body with
 | .Assign _ e _ :: _=>e
 | _=>.Constant .none 0 ⟨0,0,0,0⟩
noncomputable def fmtScope : Scope:=match fmtGen with
 | .GeneratorExp _ _ s _=>s
 | _=>d_fmt.scope
noncomputable def fmtElt : Expr:=match fmtGen with
 | .GeneratorExp e _ _ _=>e
 | _=>fmtGen
theorem fmt_elt (G : Gl Φ.h₀ mg mb) {I : Im} {K : Addr} {code : Value} {env : Env} (hg : env.globals = mainGlobals) {A : Around} (hA : A.handled = none) (hD : A.depth ≤ 580) (hU : A.units ≤ 4950) {s : Shared} {m : Str→Option Value} (hn : s.heap.Ns K m)
  {p : Int × Int × Int} (hp : 0 ≤ p.1∧p.1 < 10) {v : Value} (hv : VR C I (.tup [.int p.1,.int p.2.1,.int p.2.2]) v) (hm : m "tup" = some v) (im : ∀ b o,I b = some o→s.heap.get? b = some o) (base : ∀ b o,Φ.h₀.get? b = some o→I b = some o) (hIK : I K = none) {E : Value→Shared→Prop} :
  wpAny (model prog w) A (eval fmtElt (genEnv fmtScope [] K code builtinsNs env)) (fun y s₃=>(∃ t,y = .str ⟨[48 + p.1.toNat].toArray⟩ t)∧Keeps s s₃) E s:=by
 have Ok : (genFc Φ fmtScope K code env A.frames s.gens s.drawn).Ok:=by
  refine ⟨rfl,by show [K].Nodup;simp,by show [Str.ofString "tup"].Nodup;simp,fun x h=>?_,fun x c h=>?_,fun x h=>?_,hg,Nat.le_refl _⟩
  ·obtain ⟨rfl,_⟩:=Prod.mk.inj (List.mem_singleton.mp h)
   rfl
  ·obtain ⟨_,q⟩:=Prod.mk.inj (List.mem_singleton.mp h)
   exact snm q
  ·obtain rfl:=List.mem_singleton.mp h
   exact ⟨by decide +kernel,by decide +kernel⟩
 haveI G : Gl (genFc Φ fmtScope K code env A.frames s.gens s.drawn).h₀ mg mb:=G
 have a : AOk (genFc Φ fmtScope K code env A.frames s.gens s.drawn) A:=⟨hA,rfl,by show A.depth + 20 * 1 ≤ 600;lia,by show A.units + 50 * 1 ≤ 5000;lia⟩
 have R : Rel w.params C (genFc Φ fmtScope K code env A.frames s.gens s.drawn) I [some (.tup [.int p.1,.int p.2.1,.int p.2.2])] [] s:=by
  refine ⟨im,base,(fun b c h=>nomatch h),(fun b h=>nomatch h),List.nodup_nil,fun b hb=>?_,⟨m,hn,fun i x v' hi hv'=>?_⟩,fun i x c hi=>?_,⟨rfl,rfl⟩⟩
  ·obtain rfl:=List.mem_singleton.mp (show b∈[K] from hb)
   exact hIK
  ·cases i with
   | zero =>
    cases hi
    cases hv'
    exact ⟨v,hm,hv⟩
   | succ i=>exact nsm hi
  ·cases i with
   | zero=>cases hi
   | succ i=>exact nsm hi
 have s0 : (genFc Φ fmtScope K code env A.frames s.gens s.drawn).slots[0]? = some (Str.ofString "tup",none):=rfl
 have key : EV prog w C (genFc Φ fmtScope K code env A.frames s.gens s.drawn) fmtElt [some (.tup [.int p.1,.int p.2.1,.int p.2.2])] [] fun v σ'=>v = .str [48 + p.1.toNat]:=by
  refine EV.bT .str Ok rfl G.tx G.nb rfl rfl rfl (EA.cons rfl (EV.sub ?_))
  refine EV.name Ok s0 rfl (EV.int ⟨⟨"tuple",rfl⟩,?_⟩)
  refine GI.tupI (Int.le_refl _) (by decide) rfl (EA.nil ?_)
  exact BT.str1 hp.1 hp.2 rfl
 refine key A I s a R _ E fun v' σ' I' s' val e hval R' k=>?_
 subst e
 obtain ⟨_,rfl⟩:=hval.inv
 exact ⟨⟨_,rfl⟩,keeps_of R'.gens.1 R'.gens.2 k.os fun b o e=>k.keep b o e (fun h=>nomatch h) (fun h=>nomatch h)⟩
theorem mkS_app (a b : List Nat) : (⟨a.toArray⟩ : Str) ++ (⟨b.toArray⟩ : Str) = ⟨(a ++ b).toArray⟩:=str_app ..
theorem sum_ones {α : Type} : ∀ l : List α,(l.map fun _=>1).sum = l.length
 | []=>rfl
 | _ :: r=>by simp only [List.map_cons,List.sum_cons,List.length_cons,sum_ones r];lia
noncomputable def Fc.withGs (Φ : Fc) (g : Array GenState) (d : Drawn) : Fc:={ Φ with gs:=fun g' d'=>g' = g∧d' = d }
theorem Rel.loosen {P : Params} {I : Im} {s s' : Shared} (R : Rel P C Φ I ρ σ s) {i : Nat} {a : Addr} {p p' : Obj→Prop} (hi : σ[i]? = some (a,.raw p)) (hs : ∀ b o,b ≠ a→s.heap.get? b = some o→s'.heap.get? b = some o) {o : Obj} (ho : s'.heap.get? a = some o) (hp : p' o)
  (hg : Φ.gs s'.gens s'.drawn) (hos : s'.os = s.os) : Rel P C Φ I ρ (σ.set i (a,.raw p')) s'∧Kp [] I σ I (σ.set i (a,.raw p')) s s':=by
 obtain ⟨z,k⟩:=R.set2 hi (c':=.raw p') (tk:=s'.toks) hs ho hp
 exact ⟨⟨z.im,z.base,z.cell,z.apart,z.nodup,z.ownI,z.ns,z.cells,hg⟩,⟨k.keep,k.alive,k.new,k.im,hos⟩⟩
set_option tactic.hygienic true in
theorem fmt_call (G : Gl Φ.h₀ mg mb) {f P : Addr} {ps : Array Value} (X : Fm Φ.h₀ mg f P ps) (hh : Φ.hd = none) (hl : 3 ≤ Φ.lvl) (hgs : Φ.gs = fun g _=>AllBare g) {l : List (Int × Int × Int)} (hz : l.length ≤ 1000) (hsm : ∀ p∈l,0 ≤ p.1∧p.1 < 10)
  {i : Nat} (hi : σ[i]? = some (P,.raw (· = tabO ps))) {Q : QV} (q : Q (.str (fmtOf l)) (σ.set i (P,.raw TabX))) {A : Around} {I : Im} {s : Shared} {vals : List Value} (a : AOk Φ A) (R : Rel w.params C Φ I ρ σ s) (hv : VRs C I [.lst (VWit l)] vals)
  {QQ : Value→Shared→Prop} {E : Value→Shared→Prop} (g : Got w C Φ ρ I σ s Q QQ) : wpAny (model prog w) A (call (.ref f) vals) QQ E s:=by
 obtain ⟨c,bm,ob,hf,M,hcb⟩:=X.is
 refine wpAny_call (enter_fn ok_fmt (by lia) G.tx hf bind_fmt a R hv rfl fun s₁ a' R' K₀ hfresh k₁=>?_)
 have Ok:=Fn.enterOk (Φ:=Φ) ok_fmt (by lia) s.heap.objs.size f (.ref c)
 generalize hL : s.heap.objs.size = L at a' R' K₀ hfresh Ok ⊢
 generalize hcdv : (Value.ref c) = cdv at a' R' K₀ hfresh Ok ⊢
 haveI s0 : Sl (Φ.enter d_fmt L f cdv) 0 "w" none:=rfl
 haveI s1 : Sl (Φ.enter d_fmt L f cdv) 1 "firsts" none:=rfl
 haveI s2 : Sl (Φ.enter d_fmt L f cdv) 2 "prefix" none:=rfl
 have hown : ∀ b,b∈(Φ.enter d_fmt L f cdv).own→b = L:=fun b hb=>List.mem_singleton.mp (show b∈[L] from hb)
 obtain ⟨m,hn,hm⟩:=R'.ns
 obtain ⟨val,hval,hvr⟩:=hm 0 _ _ s0 rfl
 obtain ⟨l',vs,n,rfl,hIl,hvs⟩:=hvr.lst_inv
 have hlist : s₁.heap.IsList l' vs.toArray:=isList_of (R'.im _ _ hIl)
 obtain ⟨oP,hoP,hPt⟩:=R'.cell P _ (List.mem_of_getElem? hi)
 obtain rfl : oP = tabO ps:=hPt
 have hPk : P∈keys σ:=List.mem_map.mpr ⟨_,List.mem_of_getElem? hi,rfl⟩
 have hIP : I P = none:=R.apartI P hPk
 have hIL : I L = none:=R'.ownI L (.head _)
 have hcode:=hcb.code (h':=s₁.heap) (ps:=ps) R'.h₀ X.ok hoP
 have hlim : s₁.heap.NoLimit:=G.tx.nl.keeps R'.h₀
 have hLlt : L < s₁.heap.objs.size:=hn.lt
 have hcs : cStatics < L:=by
  obtain ⟨_,hn0,_⟩:=G.tx.nl.keeps R.h₀
  refine rl hL ?_;exact hn0.lt
 have old : ∀ b o,s.heap.get? b = some o→b < L:=fun b o e=>hL ▸ Heap.lt_size e
 have hPL : P < L:=by
  obtain ⟨o,ho⟩:=R.key_alive hPk
  exact old _ _ ho
 have Ilt : ∀ b o,I b = some o→b < L:=fun b o e=>old b o (R.im b o e)
 have hh' : (A.deeper (Φ.enter d_fmt L f cdv).env).handled = none:=a'.hd.trans hh
 have hdp : (A.deeper (Φ.enter d_fmt L f cdv).env).depth ≤ 560:=by
  have h1:=a'.dp
  have h2 : (Φ.enter d_fmt L f cdv).lvl = Φ.lvl - 1:=rfl
  lia
 have hun : (A.deeper (Φ.enter d_fmt L f cdv).env).units ≤ 4900:=by
  have h1:=a'.un
  have h2 : (Φ.enter d_fmt L f cdv).lvl = Φ.lvl - 1:=rfl
  lia
 refine wpAny_execs_cons (wpAny_Assign_Name (gen_list (L:=L) (P:=P) (c:=c) (ps:=ps) (items:=vs.toArray) (l:=l') (cl:=[]) (pz:=fun _=>true) (F:=fun i y=>∃ p t,l[i]? = some p∧y = .str (mkS [48 + p.1.toNat]) t)
  hcdv.symm hcode.1 hcode.2 X.new (M.keeps R'.h₀) hh' rfl rfl (by decide +kernel) (by decide +kernel) (by decide +kernel) rfl a'.depth (fun _=>rfl) (fun QQ E q=>wpAny_Name (wpAny_loadName_local Ok.kind (Ok.loc _ (List.mem_of_getElem? s0)) hn hval q) (by decide +kernel)) hlist hlim
  (Nat.ne_of_lt (Ilt _ _ hIl)) (Nat.ne_of_lt hcs) hLlt (fun K code href hK hkeep=>⟨fun A' E' i v s₂ m₂ hA hD hU hP hn₂ hm₂ hkp=>wpAny_pure ⟨rfl,keeps_of rfl rfl rfl fun _ _ e=>e⟩,fun A' E' i v s₂ m₂ hA hD hU hP _ hn₂ hm₂ hkp=>?_⟩) fun a₁ K g₁ h₅ tk gs hK hKa hg1 hbare keep hoP' hsz W st=>?_) rfl)
 ·replace hP:=(List.getElem?_toArray ..) ▸ hP
  obtain ⟨x,hx,hxv⟩:=hvs.get' hP
  unfold VWit at hx
  replace hx:=(List.getElem?_map ..) ▸ hx
  obtain ⟨p,hp,rfl⟩:=Option.map_eq_some_iff.mp hx
  refine wpAny_mono (fmt_elt (C:=C) (I:=I) G rfl hA (by lia) (by lia) hn₂ (hsm p (List.mem_of_getElem? hp)) hxv hm₂ (fun b o e=>?_) R'.base ?_) (fun y s₃ h₃=>?_) fun _ _ e=>e
  ·have h1:=Ilt b o e
   refine hkp b (mem_bar.mpr ⟨Nat.lt_trans h1 (Nat.lt_trans hLlt hK),Nat.ne_of_lt h1⟩) (fun hb=>?_) o (hkeep b o (fun z=>?_) (R'.im b o e))
   ·replace h1:=(List.mem_singleton.mp hb ..) ▸ h1
    exact Nat.lt_irrefl _ (Nat.lt_trans h1 hLlt)
   ·replace e:=z ▸ e;replace e:=hIP ▸ e;exact nsm e
  ·show I K = none
   cases z : I K with
   | none=>rfl
   | some o=>exact absurd (Nat.lt_trans (Ilt K o z) (Nat.lt_trans hLlt hK)) (Nat.lt_irrefl _)
  ·obtain ⟨⟨t,e⟩,k⟩:=h₃
   exact ⟨⟨p,t,hp,e⟩,k⟩
 have Ok₂ : ((Φ.enter d_fmt L f cdv).withGs (s₁.gens.push gs) s₁.drawn).Ok:=⟨Ok.kind,Ok.nd,Ok.names,Ok.loc,Ok.cel,Ok.debug,Ok.globals,Ok.lv⟩
 have a₂ : AOk ((Φ.enter d_fmt L f cdv).withGs (s₁.gens.push gs) s₁.drawn) (A.deeper (Φ.enter d_fmt L f cdv).env):=⟨a'.hd,a'.fr,a'.dp,a'.un⟩
 have t0 : ((Φ.enter d_fmt L f cdv).withGs (s₁.gens.push gs) s₁.drawn).slots[0]? = some (Str.ofString "w",none):=s0
 have t1 : ((Φ.enter d_fmt L f cdv).withGs (s₁.gens.push gs) s₁.drawn).slots[1]? = some (Str.ofString "firsts",none):=s1
 have t2 : ((Φ.enter d_fmt L f cdv).withGs (s₁.gens.push gs) s₁.drawn).slots[2]? = some (Str.ofString "prefix",none):=s2
 have G₂ : Gl ((Φ.enter d_fmt L f cdv).withGs (s₁.gens.push gs) s₁.drawn).h₀ mg mb:=G
 have R₅ : Rel w.params C ((Φ.enter d_fmt L f cdv).withGs (s₁.gens.push gs) s₁.drawn) I [some (.lst (VWit l)),none,none] [] { s₁ with gens:=s₁.gens.push gs,toks:=tk,heap:=h₅ }:=by
  refine ⟨fun b o e=>keep b o (fun z=>by replace e:=z ▸ e;replace e:=hIP ▸ e;exact nsm e) (R'.im b o e),R'.base,(fun b c h=>nomatch h),(fun b h=>nomatch h),List.nodup_nil,R'.ownI,⟨m,hn.at' fun o e=>keep _ o (Nat.ne_of_gt hPL) e,hm⟩,fun i x c hi=>?_,⟨rfl,rfl⟩⟩
  exact nomatch (show c∈([] : List Addr) from filterMap_idx (l:=(Φ.enter d_fmt L f cdv).slots) hi)
 have hlen : (VWit l).length = l.length:=by simp [VWit]
 generalize hs₅ : ({ s₁ with gens:=s₁.gens.push gs,toks:=tk,heap:=h₅ } : Shared) = s₅ at R₅ st
 have e5g : s₅.gens = s₁.gens.push gs:=by refine rl hs₅ ?_;rfl
 have e5d : s₅.drawn = s₁.drawn:=by refine rl hs₅ ?_;rfl
 have e5o : s₅.os = s₁.os:=by refine rl hs₅ ?_;rfl
 have e5h : s₅.heap = h₅:=by refine rl hs₅ ?_;rfl
 refine wpAny_with_toks (Nat.le_refl s₅.toks) (store_slot Ok₂ (s:=s₅) (i:=1) t1 (.inl rfl) R₅ (.ref a₁) fun s₆ R₆ k₆ _ ht₆=>?_)
 refine wpAny_execs_cons (wpAny_with_toks ht₆ ((EX1.assign Ok₂ (i:=2) t2 (.inl rfl) rfl (EV.str (l:=sAt) (by decide +kernel) ⟨rfl,rfl,rfl⟩) : EX1 prog w C ((Φ.enter d_fmt L f cdv).withGs (s₁.gens.push gs) s₁.drawn) _ [some (.lst (VWit l)),some (.ref a₁),none] [] fun f ρ' σ'=>f = .next∧ρ' = [some (.lst (VWit l)),some (.ref a₁),some (.str sAt)]∧σ' = []) _ I s₆ a₂ R₆ _ _ ?_))
 rintro fx ρ' σ' I₇ s₇ fl ⟨rfl,rfl,rfl⟩ hfl R₇ k₇ ht₇
 cases hfl
 refine wpAny_execs_cons (wpAny_with_toks ht₇ ((EX1.if_ (ET.co rfl (EV.bB .len Ok₂ rfl G₂.tx G₂.nb rfl rfl rfl (EA.cons rfl (EV.name Ok₂ t0 rfl (EA.nil (BJ.lenL (.inl rfl) (by refine rr hlen ?_;exact sl _ (by lia)) (EV.int (CO.gtI ?_)))))))) : EX1 prog w C ((Φ.enter d_fmt L f cdv).withGs (s₁.gens.push gs) s₁.drawn) _ [some (.lst (VWit l)),some (.ref a₁),some (.str sAt)] [] fun f ρ' σ'=>f = .next∧ρ' = [some (.lst (VWit l)),some (.ref a₁),some (.str (if decide (1 < (l.length : Int)) then sAt ++ [115] else sAt))]∧σ' = []) _ I₇ s₇ a₂ R₇ _ _ ?_))
 ·refine rr hlen ?_
  cases decide (1 < (l.length : Int)) with
  | true =>
   try simp only [if_true]
   refine EX.cons (EX1.assign Ok₂ (i:=2) t2 (.inl rfl) rfl (EV.op (EV.name Ok₂ t2 rfl (EV.str (l:=[115]) (by decide +kernel) (OP.addS (sl _ (by decide)) (EX.nil ⟨rfl,rfl,rfl⟩))))))
  | false =>
   try simp only [Bool.false_eq_true,if_false]
   exact EX.nil ⟨rfl,rfl,rfl⟩
 rintro fx ρ' σ' I₈ s₈ fl ⟨rfl,rfl,rfl⟩ hfl R₈ k₈ ht₈
 cases hfl
 generalize hpre : (if decide (1 < (l.length : Int)) then sAt ++ [115] else sAt) = pre at R₈
 have hprel : pre.length ≤ 12:=by
  refine rl hpre ?_;split <;> decide
 refine wpAny_execs_cons (wpAny_Return_some (wpAny_BinOp (wpAny_with_toks ht₈ ((EV.op (EV.name Ok₂ t2 rfl (EV.str (l:=[32]) (by decide +kernel) (OP.addS (sl _ (by simp;lia)) ⟨rfl,rfl⟩))) : EV prog w C ((Φ.enter d_fmt L f cdv).withGs (s₁.gens.push gs) s₁.drawn) _ [some (.lst (VWit l)),some (.ref a₁),some (.str pre)] [] fun v σ'=>v = .str (pre ++ [32])∧σ' = []) _ I₈ s₈ a₂ R₈ _ _ ?_))))
 rintro v σ' I₉ s₉ val ⟨rfl,rfl⟩ hval R₉ k₉ ht₉
 obtain ⟨_,rfl⟩:=hval.inv
 rename_i tkv
 refine MethodCall_ (wpAny_with_toks ht₉ ((EV.str (l:=[44,32]) (by decide +kernel) ⟨rfl,rfl⟩ : EV prog w C ((Φ.enter d_fmt L f cdv).withGs (s₁.gens.push gs) s₁.drawn) _ [some (.lst (VWit l)),some (.ref a₁),some (.str pre)] [] fun v σ'=>v = .str [44,32]∧σ' = []) _ I₉ s₉ a₂ R₉ _ _ ?_)) rfl
 rintro v σ' I₁₀ s₁₀ val ⟨rfl,rfl⟩ hval R₁₀ k₁₀ ht₁₀
 obtain ⟨_,rfl⟩:=hval.inv
 rename_i tks
 refine getMethod_builtin (T:="str") (typeIs_str _ _ _) PySem.F.plainAttrs_str PySem.F.slot_str_join PySem.F.type_str_join (fun a e=>nomatch e) ?_
 refine Calls.callWith_builtin rfl (Calls.evalArgs_plain (wpAny_with_toks ht₁₀ ((EA.cons rfl (EV.name Ok₂ t1 rfl (EA.nil ⟨rfl,rfl⟩)) : EA prog w C ((Φ.enter d_fmt L f cdv).withGs (s₁.gens.push gs) s₁.drawn) _ [Expr.Name "firsts" _] [some (.lst (VWit l)),some (.ref a₁),some (.str pre)] [] fun xs σ'=>xs = [.ref a₁]∧σ' = []) _ I₁₀ s₁₀ a₂ R₁₀ _ _ ?_)))
 rintro xs σ' I₁₁ s₁₁ valss ⟨rfl,rfl⟩ hvals R₁₁ k₁₁ ht₁₁
 obtain ⟨u,us,rfl,hu,hus⟩:=hvals.cons_inv
 obtain rfl:=hus.nil_inv
 obtain ⟨_,rfl⟩:=hu.inv
 have keepAll : ∀ b o,b ≠ L→s₅.heap.get? b = some o→s₁₁.heap.get? b = some o:=fun b o hb e=>by
  have n0 : b ∉ keys ([] : St):=fun h=>nomatch h
  have n1 : b ∉ ([] : List Addr):=fun h=>nomatch h
  have n2 : b ∉ ((Φ.enter d_fmt L f cdv).withGs (s₁.gens.push gs) s₁.drawn).own:=fun h=>hb (hown b h)
  have h6:=k₆.keep b o e n0 (fun h=>hb (List.mem_singleton.mp h))
  exact k₁₁.keep b o (k₁₀.keep b o (k₉.keep b o (k₈.keep b o (k₇.keep b o h6 n0 n2) n0 n2) n0 n1) n0 n1) n0 n1
 have e11g : s₁₁.gens = s₁.gens.push gs:=R₁₁.gens.1
 have e11d : s₁₁.drawn = s₁.drawn:=R₁₁.gens.2
 have e11o : s₁₁.os = s₁.os:=(k₁₁.os.trans (k₁₀.os.trans (k₉.os.trans (k₈.os.trans (k₇.os.trans k₆.os))))).trans e5o
 have hvl : vs.toArray.size = l.length:=by simp [hvs.1,hlen]
 rw [hvl] at W st
 have st₁₁ : GenAt prog w (A.deeper (Φ.enter d_fmt L f cdv).env).in4 a₁ g₁ K (bar K L) [s₁.heap.objs.size] (fun _=>true) l.length (fun i y=>∃ p t,l[i]? = some p∧y = .str (mkS [48 + p.1.toNat]) t) 0 s₁₁:=by
  have z:=W.frame 0 s₅ s₁₁.heap s₁₁.toks st ht₁₁ fun b hb o e=>keepAll b o (fun q=>?_) e
  ·have e : ({ s₅ with heap:=s₁₁.heap,toks:=s₁₁.toks } : Shared) = s₁₁:=by
    obtain ⟨hx,gx,dx,tx,ox⟩:=s₁₁
    obtain ⟨hy,gy,dy,ty,oy⟩:=s₅
    dsimp only at e11g e11d e11o e5g e5d e5o ⊢
    subst e11g e11d e11o e5g e5d e5o
    rfl
   replace z:=e ▸ z
   exact z
  ·subst q
   rcases List.mem_cons.mp hb with z | z
   ·exact Nat.lt_irrefl _ (z ▸ Nat.lt_trans hLlt (Nat.lt_trans hK hKa))
   ·rcases List.mem_cons.mp z with z | z
    ·exact Nat.lt_irrefl _ (z ▸ Nat.lt_trans hLlt hK)
    ·exact (mem_bar.mp z).2 rfl
 have ha₁ : a₁ < s₁₁.heap.objs.size:=by
  obtain ⟨o,nm,qn,ho,_⟩:=st₁₁.1
  exact Heap.lt_size ho
 have hmap : (List.range l.length).map (fun i=>mkS ((l.map fun p=>[48 + p.1.toNat]).getD i [])) = (l.map fun p=>[48 + p.1.toNat]).map mkS:=by
  apply List.ext_getElem
  ·simp
  ·intro i h1 h2
   have hi : i < l.length:=by simpa using h1
   simp [hi]
 refine gen_join (fun i=>mkS ((l.map fun p=>[48 + p.1.toNat]).getD i [])) W st₁₁ hKa ha₁ (fun i y ⟨p,t,hp,e⟩=>⟨t,by refine rr e ?_;congr 1;simp [hp]⟩) ?_ hz fun s' t' k hm=>?_
 ·refine rr hmap ?_
  refine joinOk_of ?_
  simp only [List.map_map,List.length_map,Function.comp_def,str_len]
  have h1 : (l.map fun x=>([48 + x.1.toNat] : List Nat).length).sum = l.length:=sum_ones l
  simp only [List.length_cons,List.length_nil] at h1 ⊢
  lia
 refine rr hmap ?_;refine rr join_glue ?_
 refine PyProof.Rows.add_str (fun t'' tk''=>?_) ?_
 ·rw [mkS_app]
  have hfin : pre ++ [32] ++ glue [44,32] (l.map fun p=>[48 + p.1.toNat]) = fmtOf l:=by unfold fmtOf;refine rr hpre ?_;rfl
  refine rr hfin ?_
  have keepEnd : ∀ b o,b ≠ P→s.heap.get? b = some o→s'.heap.get? b = some o:=fun b o hb e=>by
   have h1:=old b o e
   refine hm.heap b o (fun z=>?_) (keepAll b o (Nat.ne_of_lt h1) (by refine rr e5h ?_;exact keep b o hb (k₁ b o e)))
   rcases List.mem_cons.mp z with z | z
   ·exact Nat.lt_irrefl _ (z ▸ Nat.lt_trans h1 (Nat.lt_trans hLlt hK))
   ·exact Nat.lt_irrefl _ ((List.mem_singleton.mp z) ▸ Nat.lt_trans h1 hLlt)
  obtain ⟨psP,hoP'⟩:=hoP'
  have hPend : s'.heap.get? P = some (tabO psP):=by
   refine hm.heap P (tabO psP) (fun z=>?_) (keepAll P (tabO psP) (Nat.ne_of_lt hPL) (by refine rr e5h ?_;exact hoP'))
   rcases List.mem_cons.mp z with z | z
   ·exact Nat.lt_irrefl _ (z ▸ Nat.lt_trans hPL (Nat.lt_trans hLlt hK))
   ·exact Nat.lt_irrefl _ ((List.mem_singleton.mp z) ▸ Nat.lt_trans hPL hLlt)
  have hbare' : AllBare s'.gens:=by
   have h1 : AllBare s₁.gens:=by
    have:=R'.gens
    have e : (Φ.enter d_fmt L f cdv).gs = Φ.gs:=rfl
    replace this:=e ▸ this;replace this:=hgs ▸ this
    exact this
   exact AllBare.movedS (s:=s₁₁) (by refine rr e11g ?_;exact h1.push hbare) hm
  obtain ⟨Rend,Kend⟩:=R.loosen (s':={ s' with toks:=tk'' }) hi (p':=TabX) keepEnd hPend ⟨psP,rfl⟩ (by refine rr hgs ?_;exact hbare') ((hm.os.trans e11o).trans K₀.os)
  exact g _ _ I _ _ q (.str _ _) Rend Kend
 ·have : (glue [44,32] (l.map fun p=>[48 + p.1.toNat])).length ≤ 3 * l.length:=by
   have : ∀ (l : List (Int × Int × Int)),(glue [44,32] (l.map fun p=>[48 + p.1.toNat])).length ≤ 3 * l.length:=fun l=>by
    induction l with
    | nil=>simp [glue]
    | cons x r ih =>
     cases r with
     | nil=>simp [glue]
     | cons y r=>simp only [List.map_cons,glue,List.length_append,List.length_cons,List.length_nil] at ih ⊢;lia
   exact this l
  have h2 : sizeLine = 2 ^ 24:=sizeLine_eq
  simp [str_len]
  lia
end
noncomputable def d_ninit : Fn:=methAt "NannyNag" 13 0
noncomputable def d_ngetn : Fn:=methAt "NannyNag" 13 1
noncomputable def d_ngetm : Fn:=methAt "NannyNag" 13 2
noncomputable def d_ngetl : Fn:=methAt "NannyNag" 13 3
theorem ok_ninit : d_ninit.ok ["self","lineno","msg","line"] = true:=by decide +kernel
theorem ok_ngetn : d_ngetn.ok ["self"] = true:=by decide +kernel
theorem ok_ngetm : d_ngetm.ok ["self"] = true:=by decide +kernel
theorem ok_ngetl : d_ngetl.ok ["self"] = true:=by decide +kernel
inductive NagM (mN : Str→Option Value) (h₀ : Heap) (name : Str) (d : Fn) : Prop
 | mk (f : _) (cdv : _) (of : _) (h0 : mN name = some (.ref f)) (h1 : FnAt h₀ f d cdv) (h2 : h₀.get? f = some of) (h3 : of.cls = .type "function")
structure Ng (K : Frag) (N : Addr) (h₀ : Heap) (mg mN : Str→Option Value) : Prop where
 X : K.In h₀
 kp : keepIn K (.ref N) = true
 gN : mg "NannyNag" = some (.ref N)
 nag : NagC h₀ N mN
 no : ∀ a∈(["__setattr__","__getattribute__","__getattr__","lineno","msg","line"] : List Str),mN a = none
 init : NagM mN h₀ "__init__" d_ninit
 getn : NagM mN h₀ "get_lineno" d_ngetn
 getm : NagM mN h₀ "get_msg" d_ngetm
 getl : NagM mN h₀ "get_line" d_ngetl
theorem ex_lineno : typeLookup (.type "Exception") "lineno" = Pure.pure none:=by rw [typeLookup_type,builtinLookup_eq_fast];kernel_rfl
theorem ex_msg : typeLookup (.type "Exception") "msg" = Pure.pure none:=by rw [typeLookup_type,builtinLookup_eq_fast];kernel_rfl
theorem ex_line : typeLookup (.type "Exception") "line" = Pure.pure none:=by rw [typeLookup_type,builtinLookup_eq_fast];kernel_rfl
theorem ex_getn : typeLookup (.type "Exception") "get_lineno" = Pure.pure none:=by rw [typeLookup_type,builtinLookup_eq_fast];kernel_rfl
theorem ex_getm : typeLookup (.type "Exception") "get_msg" = Pure.pure none:=by rw [typeLookup_type,builtinLookup_eq_fast];kernel_rfl
theorem ex_getl : typeLookup (.type "Exception") "get_line" = Pure.pure none:=by rw [typeLookup_type,builtinLookup_eq_fast];kernel_rfl
noncomputable def nagOf (n : Int) (m l : List Nat) : List (Str × V):=[("line",.str l),("msg",.str m),("lineno",.int n)]
section
variable {N : Addr} {mg mb mN : Str→Option Value} {K : Frag}
theorem bind_ninit : BindOk d_ninit ["self","lineno","msg","line"]:=.n4 fun _ _ _ _ _ _ _ _ _=>rfl
theorem bind_ngetn : BindOk d_ngetn ["self"]:=.n1 fun _ _ _ _ _ _=>rfl
theorem bind_ngetm : BindOk d_ngetm ["self"]:=.n1 fun _ _ _ _ _ _=>rfl
theorem bind_ngetl : BindOk d_ngetl ["self"]:=.n1 fun _ _ _ _ _ _=>rfl
theorem ninit_fn (B : Ng K N Φ.h₀ mg mN) (hh : Φ.hd = none) (hl : 2 ≤ Φ.lvl) {n : Int} {m l : List Nat} {x : Addr} {Q : QV}
  (q : ∀ dd,Q .none ((dd,.raw (NagT C (nagOf n m l))) :: (x,.raw (ExcO N (some dd))) :: σ)) : FnBody prog w C Φ d_ninit [.ref x,.int n,.str m,.str l] ((x,.raw (ExcO N none)) :: σ) Q:=by
 refine FnBody.of ok_ninit hl [some (.ref x),some (.int n),some (.str m),some (.str l)] rfl fun L f cdv Ok=>?_
 haveI hh : (Φ.enter d_ninit L f cdv).hd = none:=hh
 haveI B : Ng K N (Φ.enter d_ninit L f cdv).h₀ mg mN:=B
 haveI s0 : Sl (Φ.enter d_ninit L f cdv) 0 "self" none:=rfl
 haveI s1 : Sl (Φ.enter d_ninit L f cdv) 1 "lineno" none:=rfl
 haveI s2 : Sl (Φ.enter d_ninit L f cdv) 2 "msg" none:=rfl
 haveI s3 : Sl (Φ.enter d_ninit L f cdv) 3 "line" none:=rfl
 refine EX.cons (EX1.asg rfl rfl rfl (EV.tupF ?_))
 repeat walk_at "e"
 refine ⟨sl 3 (by decide),AS.tup hh rfl rfl ⟨_,rfl,rfl,?_⟩⟩
 refine ASs.cons (AS.excFirst B.nag (B.no _ (by decide +kernel)) (.int _) (B.no _ (by decide +kernel)) ex_lineno ?_)
 walk_at "e"
 refine ⟨x,0,rfl,rfl,fun dd=>?_⟩
 refine ASs.cons (AS.excNext B.nag (B.no _ (by decide +kernel)) (.str _) (B.no _ (by decide +kernel)) ex_msg ?_)
 walk_at "e"
 refine ⟨x,dd,0,1,_,rfl,rfl,rfl,by decide,by simp,?_⟩
 refine ASs.cons (AS.excNext B.nag (B.no _ (by decide +kernel)) (.str _) (B.no _ (by decide +kernel)) ex_line ?_)
 walk_at "e"
 refine ⟨x,dd,0,1,_,rfl,rfl,rfl,by decide,by simp,?_⟩
 exact ASs.nil (EX.nil (q dd))
theorem ngetn_fn (B : Ng K N Φ.h₀ mg mN) (hl : 2 ≤ Φ.lvl) {n : Int} {m l : List Nat} {x dd : Addr} {Q : QV} (hx : (x,.raw (ExcP N dd))∈σ) (hd : (dd,.raw (NagT C (nagOf n m l)))∈σ) (q : Q (.int n) σ) : FnBody prog w C Φ d_ngetn [.ref x] σ Q:=by
 refine FnBody.of ok_ngetn hl [some (.ref x)] rfl fun L f cdv Ok=>?_
 haveI B : Ng K N (Φ.enter d_ngetn L f cdv).h₀ mg mN:=B
 haveI s0 : Sl (Φ.enter d_ngetn L f cdv) 0 "self" none:=rfl
 refine EX.cons (EX1.ret (EV.attrExc B.nag (B.no _ (by decide +kernel)) (B.no _ (by decide +kernel)) (B.no _ (by decide +kernel)) ex_lineno rfl ?_))
 walk_at "e"
 exact ⟨x,dd,_,.int n,rfl,hx,hd,rfl,.int _,q⟩
theorem ngetm_fn (B : Ng K N Φ.h₀ mg mN) (hl : 2 ≤ Φ.lvl) {n : Int} {m l : List Nat} {x dd : Addr} {Q : QV} (hx : (x,.raw (ExcP N dd))∈σ) (hd : (dd,.raw (NagT C (nagOf n m l)))∈σ) (q : Q (.str m) σ) : FnBody prog w C Φ d_ngetm [.ref x] σ Q:=by
 refine FnBody.of ok_ngetm hl [some (.ref x)] rfl fun L f cdv Ok=>?_
 haveI B : Ng K N (Φ.enter d_ngetm L f cdv).h₀ mg mN:=B
 haveI s0 : Sl (Φ.enter d_ngetm L f cdv) 0 "self" none:=rfl
 refine EX.cons (EX1.ret (EV.attrExc B.nag (B.no _ (by decide +kernel)) (B.no _ (by decide +kernel)) (B.no _ (by decide +kernel)) ex_msg rfl ?_))
 walk_at "e"
 exact ⟨x,dd,_,.str m,rfl,hx,hd,rfl,.str _,q⟩
theorem ngetl_fn (B : Ng K N Φ.h₀ mg mN) (hl : 2 ≤ Φ.lvl) {n : Int} {m l : List Nat} {x dd : Addr} {Q : QV} (hx : (x,.raw (ExcP N dd))∈σ) (hd : (dd,.raw (NagT C (nagOf n m l)))∈σ) (q : Q (.str l) σ) : FnBody prog w C Φ d_ngetl [.ref x] σ Q:=by
 refine FnBody.of ok_ngetl hl [some (.ref x)] rfl fun L f cdv Ok=>?_
 haveI B : Ng K N (Φ.enter d_ngetl L f cdv).h₀ mg mN:=B
 haveI s0 : Sl (Φ.enter d_ngetl L f cdv) 0 "self" none:=rfl
 refine EX.cons (EX1.ret (EV.attrExc B.nag (B.no _ (by decide +kernel)) (B.no _ (by decide +kernel)) (B.no _ (by decide +kernel)) ex_line rfl ?_))
 walk_at "e"
 exact ⟨x,dd,_,.str l,rfl,hx,hd,rfl,.str _,q⟩
end
noncomputable abbrev Ent:=List Nat × List Nat × Int
noncomputable def popTo (row : List Nat) : List Ent→Option (Ent × List Ent)
 | []=>none
 | e :: r=>if wless row e.1 then popTo row r else some (e,r)
theorem popTo_c {row e r} : popTo row (e :: r) = (if wless row e.1 then popTo row r else some (e,r)):=rfl
noncomputable def nextPath (p : List Nat) (n : Int) : List Nat:=p ++ [46] ++ [48 + (n + 1).toNat]
noncomputable def readGo (row : List Nat) : List Ent→Option (List Ent × List Nat)
 | []=>none
 | (rw,p,n) :: r=>if decide (0 ≤ n) && decide (n < 9) && decide (p.length ≤ 100) then some ((row,nextPath p n,0) :: (rw,p,n + 1) :: r,nextPath p n) else none
noncomputable def sNag : List Nat:=[105,110,100,101,110,116,32,110,111,116,32,101,113,117,97,108,32,101,46,103,46,32]
noncomputable def readLoop : List (Int × List Nat)→List Ent→List (List Nat)→Option (List (List Nat) × Option (Int × List Nat × List Nat))
 | [],_,f=>some (f,none)
 | (k,row) :: rs,pl,f =>
  match pl with
  | []=>none
  | top :: r =>
   if wless top.1 row then
    match readGo row (top :: r) with
    | none=>none
    | some (pl',path)=>readLoop rs pl' (f ++ [path ++ [10]])
   else match popTo row (top :: r) with
    | none=>none
    | some (last,rest) =>
     if wequal last.1 row then
      match readGo row rest with
      | none=>none
      | some (pl',path)=>readLoop rs pl' (f ++ [path ++ [10]])
     else if decide (wsize last.1 row ≤ 8) then some (f,some (k,sNag ++ fmtOf (wwit last.1 row),row)) else none
theorem readLoop_c {k row rs top r f} : readLoop ((k,row) :: rs) (top :: r) f = (
   if wless top.1 row then
    match readGo row (top :: r) with
    | none=>none
    | some (pl',path)=>readLoop rs pl' (f ++ [path ++ [10]])
   else match popTo row (top :: r) with
    | none=>none
    | some (last,rest) =>
     if wequal last.1 row then
      match readGo row rest with
      | none=>none
      | some (pl',path)=>readLoop rs pl' (f ++ [path ++ [10]])
     else if decide (wsize last.1 row ≤ 8) then some (f,some (k,sNag ++ fmtOf (wwit last.1 row),row)) else none):=rfl
theorem get_app {α : Type} (A : List α) (x : α) (r : List α) : (A ++ x :: r)[A.length]? = some x:=by simp
theorem set_app {α : Type} (A : List α) (x y : α) (r : List α) : (A ++ x :: r).set A.length y = A ++ y :: r:=by
 induction A with
 | nil=>rfl
 | cons a A ih=>simp only [List.cons_append,List.length_cons,List.set_cons_succ,ih]
theorem get_app' {α : Type} (A : List α) (x : α) (r : List α) {n : Nat} (h : A.length = n) : (A ++ x :: r)[n]? = some x:=h ▸ get_app A x r
theorem set_app' {α : Type} (A : List α) (x y : α) (r : List α) {n : Nat} (h : A.length = n) : (A ++ x :: r).set n y = A ++ y :: r:=h ▸ set_app A x y r
theorem set_two {α : Type} (A : List α) (x y z z' : α) (r : List α) {n : Nat} (h : A.length = n) : (x :: (A ++ y :: z :: r)).set (n + 2) z' = x :: (A ++ y :: z' :: r):=by
 refine rr (List.set_cons_succ ..) ?_;refine rl h ?_;refine rr (List.set_append_right _ _ (by lia) ..) ?_
 simp
theorem set_pa {α : Type} (A : List α) (x x' y y' : α) (r : List α) {n : Nat} (h : A.length = n) : (x :: x' :: (A ++ y :: r)).set (n + 2) y' = x :: x' :: (A ++ y' :: r):=by
 rw [List.set_cons_succ,List.set_cons_succ,← h,set_app]
theorem wwit_small {x y : List Nat} (h : wsize x y ≤ 8) : (wwit x y).length ≤ 1000∧∀ p∈wwit x y,0 ≤ p.1∧p.1 < 10:=by
 constructor
 ·haveI h1 : (wwit x y).length ≤ (rng 1 (wsize x y + 1)).length:=by
   unfold wwit
   refine rr (List.length_map ..) ?_
   exact List.length_filter_le _ _
  replace h1:=rng_len ▸ h1
  lia
 ·intro p hp
  obtain ⟨ts,hts,rfl⟩:=List.mem_map.mp hp
  haveI:=rng_mem (List.mem_filter.mp hts).1
  lia
theorem fmtOf_len (l : List (Int × Int × Int)) : (fmtOf l).length ≤ 13 + 3 * l.length:=by
 haveI h : ∀ (l : List (Int × Int × Int)),(glue [44,32] (l.map fun p=>[48 + p.1.toNat])).length ≤ 3 * l.length:=fun l=>by
  induction l with
  | nil=>simp [glue]
  | cons x r ih =>
   cases r with
   | nil=>simp [glue]
   | cons y r=>simp only [List.map_cons,glue,List.length_append,List.length_cons,List.length_nil] at ih ⊢;lia
 haveI h2 : (if decide (1 < (l.length : Int)) then sAt ++ [115] else sAt).length ≤ 12:=by split <;> decide
 haveI:=h l
 unfold fmtOf
 simp only [List.length_append,List.length_cons,List.length_nil]
 lia
noncomputable def ent (e : Addr × Ent) : Addr × Cell:=(e.1,.lst [VW e.2.1,.str e.2.2.1,.int e.2.2.2])
noncomputable def PS (pa fa P : Addr) (σr : St) (es : List (Addr × Ent)) (found : List (List Nat)) (p : Obj→Prop) : St :=
 es.map ent ++ (pa,.lst (es.reverse.map fun e=>.ref e.1)) :: (fa,.lst (found.map .str)) :: (P,.raw p) :: σr
section
variable {N : Addr} {mg mb mN : Str→Option Value} {K : Frag} {outer : List Env} {QE : List (Str × V)→St→Prop}
theorem EX1E.mono {st : Stmt} {Q Q' : QX} (h : EX1E prog w C N Φ outer st ρ σ Q QE) (k : ∀ f ρ' σ',Q f ρ' σ'→Q' f ρ' σ') : EX1E prog w C N Φ outer st ρ σ Q' QE :=
 fun A I s a R F QQ E g hE=>h A I s a R F QQ E (fun f ρ' σ' I' s' fl q=>g f ρ' σ' I' s' fl (k _ _ _ q)) hE
theorem EXE.cons2 {st : Stmt} {rest : List Stmt} {Q : QX} (Mid : List (Option V)→St→Prop) (h : EX1E prog w C N Φ outer st ρ σ (fun f ρ' σ'=>f = .next∧Mid ρ' σ') QE) (k : ∀ ρ' σ',Mid ρ' σ'→EXE prog w C N Φ outer rest ρ' σ' Q QE) :
  EXE prog w C N Φ outer (st :: rest) ρ σ Q QE:=EXE.cons (h.mono fun f ρ' σ' z0=>by obtain ⟨e,q⟩:=z0;subst e;exact k _ _ q)
theorem EXE.reorder {ss : List Stmt} {Q : QX} {σ' : St} (p : σ.Perm σ') (h : EXE prog w C N Φ outer ss ρ σ' Q QE) : EXE prog w C N Φ outer ss ρ σ Q QE:=by
 intro A I s a R F QQ E g hE
 haveI hk : (keys σ).Perm (keys σ'):=p.map _
 refine h A I s a (R.perm p) ⟨F.fr,F.me,fun env he=>?_⟩ QQ E (fun f ρ' σ'' I' s' fl q hf R' k=>g f ρ' σ'' I' s' fl q hf R' (k.permL p.symm)) fun b e s' x=>hE b e s' ?_
 ·obtain ⟨h1,L,o,hf,ho,hd,hI,hkk,hw⟩:=F.out env he
  exact ⟨h1,L,o,hf,ho,hd,hI,fun z=>hkk (hk.mem_iff.mpr z),hw⟩
 ·obtain ⟨I₁,ρ₁,σ₁,s₁,dd,l,q,R₁,k₁,r1,r⟩:=x
  exact ⟨I₁,ρ₁,σ₁,s₁,dd,l,q,R₁,k₁.permL p.symm,r1,r⟩
theorem EV.white (Ok : Φ.Ok) (G : Gl Φ.h₀ mg mb) (W : Wc K C Φ.h₀ mg) (hh : Φ.hd = none) (hl : 3 ≤ Φ.lvl) {p pos : Pos} {e : Expr} {args : List Expr} {Q : QV} (hx : Φ.env.kindOf "Whitespace" = some .globalImplicit)
  (he : starEach (e :: args) Φ.env = (false,eval e Φ.env) :: starEach args Φ.env) (hpl : (backTo pos (starEach args Φ.env)).any (·.1) = false)
  (h : EA prog w C Φ pos (e :: args) ρ σ fun xs σ₁=>∃ raw,xs = [.str raw]∧raw.length ≤ 1000∧Q (VW raw) σ₁) : EV prog w C Φ (.Call (.Name "Whitespace" p) (e :: args) [] pos) ρ σ Q:=by
 obtain ⟨f,cdv,h1,h2,h3⟩:=W.init
 refine EV.freezeW (EV.callC Ok G.tx W.X W.mks W.kp ok_winit hl h3 bind_winit h1 h2 hx (by decide +kernel) W.gW he hpl ?_)
 intro A I s a R QQ E g
 refine h A I s a R QQ E fun xs σ' I' s' vals ⟨raw,e,hz,q⟩=>g xs σ' I' s' vals ⟨by refine rr e ?_;rfl,fun x dx=>?_⟩
 subst e
 refine winit_fn (Φ:=Φ.low) G W hh (by show 2 ≤ Φ.lvl - 1;lia) hz ⟨rfl,?_⟩
 exact ⟨x,dx,_,_,_,_,_,_,_,rfl,rfl,q⟩
theorem EV.topP (Ok : Φ.Ok) {x : Str} {i k : Nat} {p1 p2 p3 p4 : Pos} {pa : Addr} {rs : List V} {r : V} {Q : QV} (hi : Φ.slots[i]? = some (x,none)) (hv : ρ[i]? = some (some (.ref pa))) (hm : (pa,.lst (rs ++ [r]))∈σ) (hz : rs.length ≤ 1000) (q : Q r σ) :
  EV prog w C Φ (.Subscript (.Name x p1) (.UnaryOp .USub (.Constant (.int 1) k p2) p3) p4) ρ σ Q:=by
 refine EV.sub (EV.name Ok hi hv (EV.neg (EV.int ⟨1,rfl,⟨"list",.inl ⟨_,hm,rfl⟩⟩,?_⟩)))
 refine GI.listN (.inr ⟨pa,rfl,hm⟩) (by decide) (by simp;lia) (by decide) ?_ q
 haveI : (-1 + ((rs ++ [r]).length : Int)).toNat = rs.length:=by simp;lia
 refine rr this ?_
 simp
noncomputable def enumN (rows : List (List Nat)) : List (Int × List Nat):=(List.range rows.length).map fun (k : Nat)=>((k : Int),rows.getD k [])
theorem enum_str {rows : List (List Nat)} : enum (rows.map .str) = (enumN rows).map fun p=>(.int p.1,.str p.2):=by
 unfold enum enumN
 refine rr (List.map_map ..) ?_;refine rr (List.length_map ..) ?_
 refine List.map_congr_left fun k hk=>?_
 haveI hk:=List.mem_range.mp hk
 simp [hk]
theorem enumN_mem {rows : List (List Nat)} {p : Int × List Nat} (h : p∈enumN rows) : p.2∈rows:=by
 obtain ⟨k,hk,rfl⟩:=List.mem_map.mp h
 haveI hk:=List.mem_range.mp hk
 simp [hk]
theorem enumN_len {rows : List (List Nat)} : (enumN rows).length = rows.length:=by simp [enumN]
theorem PS_cons {pa fa P : Addr} {σr : St} {e : Addr × Ent} {r : List (Addr × Ent)} {found : List (List Nat)} {p : Obj→Prop} :
  PS pa fa P σr (e :: r) found p = ent e :: (r.map ent ++ (pa,.lst ((r.reverse.map fun e=>.ref e.1) ++ [.ref e.1])) :: (fa,.lst (found.map .str)) :: (P,.raw p) :: σr):=by simp [PS]
inductive J12_1 (P : Addr) (ps : Array Value) (rows : List (List Nat)) (fa : Addr) (σr : St) (res : List (List Nat) × Option (Int × List Nat × List Nat)) (pa : Addr) (rest : List (Int × List Nat)) (ρ₁ : List (Option V)) (σ₁ : St) : Prop
 | mk (es : _) (found : _) (x3 : _) (x4 : _) (x5 : _) (x6 : _) (x7 : _) (x8 : _) (h0 : readLoop rest (es.map (·.2)) found = some res) (h1 : (∀ e∈es,e.2.1.length ≤ 1000)) (h2 : es.length + rest.length ≤ 101) (h3 : found.length + rest.length ≤ 101) (h4 : ρ₁ = [some (.lst (rows.map .str)),some (.ref fa),some (.ref pa),x3,x4,x5,x6,x7,x8]) (h5 : σ₁ = PS pa fa P σr es found (· = tabO ps))
inductive J12_2 (P : Addr) (ps : Array Value) (rows : List (List Nat)) (fa : Addr) (σr : St) (res : List (List Nat) × Option (Int × List Nat × List Nat)) (pa : Addr) (k : Int) (row : List Nat) (rest : List (Int × List Nat)) (found : List (List Nat)) (x8 : Option V) (r₀ : List (Addr × Ent)) (ρ' : List (Option V)) (σ' : St) : Prop
 | mk (e : _) (r : _) (x6 : _) (x7 : _) (h0 : ρ' = [some (.lst (rows.map .str)),some (.ref fa),some (.ref pa),some (.int k),some (.str row),some (VW row),x6,x7,x8]) (h1 : σ' = PS pa fa P σr (e :: r) found (· = tabO ps)) (h2 : (match readGo row ((e :: r).map (·.2)) with | none=>none | some (pl',path)=>readLoop rest pl' (found ++ [path ++ [10]])) = some res) (h3 : (∀ e'∈e :: r,e'.2.1.length ≤ 1000)) (h4 : (e :: r).length ≤ r₀.length + 1)
inductive J12_3 (P : Addr) (ps : Array Value) (rows : List (List Nat)) (fa : Addr) (σr : St) (pa : Addr) (k : Int) (row : List Nat) (found : List (List Nat)) (x6 : Option V) (x7 : Option V) (x8 : Option V) (r₀ : List (Addr × Ent)) (last : Ent) (rest' : List Ent) (n : Nat) (ρ' : List (Option V)) (σ' : St) : Prop
 | mk (es : _) (h0 : es.length = n) (h1 : popTo row (es.map (·.2)) = some (last,rest')) (h2 : (∀ e∈es,e.2.1.length ≤ 1000)) (h3 : es.length ≤ r₀.length + 1) (h4 : ρ' = [some (.lst (rows.map .str)),some (.ref fa),some (.ref pa),some (.int k),some (.str row),some (VW row),x6,x7,x8]) (h5 : σ' = PS pa fa P σr es found (· = tabO ps))
theorem read_fn (G : Gl Φ.h₀ mg mb) (W : Wc K C Φ.h₀ mg) (B : Ng K N Φ.h₀ mg mN) {f P : Addr} {ps : Array Value} (hfm : mg "format_witnesses" = some (.ref f)) (X : Fm Φ.h₀ mg f P ps) (hh : Φ.hd = none) (hl : 4 ≤ Φ.lvl) (hgs : Φ.gs = fun g _=>AllBare g)
  {rows : List (List Nat)} (hrows : ∀ r∈rows,r.length ≤ 1000) (hz : rows.length ≤ 100) {fa : Addr} {σr : St} {res : List (List Nat) × Option (Int × List Nat × List Nat)} (hres : readLoop (enumN rows) [([],[48],0)] [] = some res) {Q : QV}
  (q : ∀ f,res = (f,none)→Q .none ((fa,.lst (f.map .str)) :: (P,.raw (· = tabO ps)) :: σr)) (qe : ∀ f k m l,res = (f,some (k,m,l))→QE (nagOf k m l) ((fa,.lst (f.map .str)) :: (P,.raw TabX) :: σr)) :
  FnBodyE prog w C N Φ d_read [.lst (rows.map .str),.ref fa] ((fa,.lst []) :: (P,.raw (· = tabO ps)) :: σr) Q QE:=by
 refine FnBodyE.of ok_read (by lia) [some (.lst (rows.map .str)),some (.ref fa),none,none,none,none,none,none,none] rfl fun L f' cdv Ok=>?_
 haveI hl3 : 3 ≤ (Φ.enter d_read L f' cdv).lvl:=by show 3 ≤ Φ.lvl - 1;lia
 haveI hl2 : 2 ≤ (Φ.enter d_read L f' cdv).lvl:=by lia
 haveI hh : (Φ.enter d_read L f' cdv).hd = none:=hh
 haveI hgs : (Φ.enter d_read L f' cdv).gs = fun g _=>AllBare g:=hgs
 haveI G : Gl (Φ.enter d_read L f' cdv).h₀ mg mb:=G
 haveI W : Wc K C (Φ.enter d_read L f' cdv).h₀ mg:=W
 haveI B : Ng K N (Φ.enter d_read L f' cdv).h₀ mg mN:=B
 haveI X : Fm (Φ.enter d_read L f' cdv).h₀ mg f P ps:=X
 haveI s0 : Sl (Φ.enter d_read L f' cdv) 0 "rows" none:=rfl
 haveI s1 : Sl (Φ.enter d_read L f' cdv) 1 "found" none:=rfl
 haveI s2 : Sl (Φ.enter d_read L f' cdv) 2 "pile" none:=rfl
 haveI s3 : Sl (Φ.enter d_read L f' cdv) 3 "place" none:=rfl
 haveI s4 : Sl (Φ.enter d_read L f' cdv) 4 "row" none:=rfl
 haveI s5 : Sl (Φ.enter d_read L f' cdv) 5 "white" none:=rfl
 haveI s6 : Sl (Φ.enter d_read L f' cdv) 6 "last" none:=rfl
 haveI s7 : Sl (Φ.enter d_read L f' cdv) 7 "words" none:=rfl
 haveI s8 : Sl (Φ.enter d_read L f' cdv) 8 "path" none:=rfl
 refine EXE.cons (EX1E.of (EX1.assign Ok (i:=2) rfl (.inl rfl) rfl (EV.lstM (EA.cons rfl (EV.lstM (EA.cons rfl (EV.white Ok G W hh hl3 rfl rfl rfl ?_)))))))
 refine EA.cons rfl (EV.str (l:=[]) (by decide +kernel) (EA.nil ⟨[],rfl,by decide,?_⟩))
 refine EA.cons rfl (EV.str (l:=[48]) (by decide +kernel) (EA.cons rfl (EV.int (EA.nil ⟨sl 3 (by decide),fun a₀=>?_⟩))))
 refine EA.nil ⟨sl 1 (by decide),fun pa=>?_⟩
 refine EXE.reorder (σ':=PS pa fa P σr [(a₀,[],[48],0)] [] (· = tabO ps)) (List.Perm.swap ..) ?_
 refine EXE.cons (EX1E.for2 Ok hh (i:=3) (j:=4) rfl (.inl rfl) rfl (.inl rfl) (fun _=>rfl) (fun p : Int × List Nat=>(V.int p.1,V.str p.2)) ?_)
 walk_at "e"
 walk_at "e"
 walk_at "e"
 walk_at "e"
 refine IB2.enumerate hh ?_
 refine ⟨enumN rows,(J12_1 P ps rows fa σr res pa),enum_str,
  ⟨[(a₀,[],[48],0)],[],_,_,_,_,_,_,hres,by simp,by refine rr enumN_len ?_;simp;lia,by refine rr enumN_len ?_;simp;lia,rfl,rfl⟩,?_,?_⟩
 ·rintro ⟨k,row⟩ rest _ _ hsuf ⟨es,found,x3,x4,x5,x6,x7,x8,hd,hes,hel,hfl,rfl,rfl⟩
  haveI hrow : row.length ≤ 1000:=hrows _ (enumN_mem (hsuf.subset (.head _)))
  simp only [List.length_cons] at hel hfl
  cases es with
  | nil=>exact nsm hd
  | cons e₀ r₀ =>
  replace hd:=(List.map_cons ..) ▸ hd;rw [readLoop_c] at hd
  simp only [List.length_cons] at hel
  refine EXE.cons (EX1E.of (EX1.assign Ok (i:=5) rfl (.inl rfl) rfl (EV.white Ok G W hh hl3 rfl rfl rfl ?_)))
  walk_at "e"
  walk_at "e"
  walk_at "e"
  refine ⟨row,rfl,hrow,?_⟩
  refine EXE.cons2 (J12_2 P ps rows fa σr res pa k row rest found x8 r₀) ?_ ?_
  ·refine EX1E.if_ (ET.not_ (ET.bool (fun _ _=>rfl) (EV.w_less G W hl2 rfl rfl (EV.sub ?_))))
   refine rr (PS_cons ..) ?_
   refine EV.topP Ok s2 rfl (List.mem_cons_of_mem _ (List.mem_append_right _ (.head _))) (by simp;lia) ?_
   refine EV.int ⟨⟨"list",.inl ⟨_,.head _,rfl⟩⟩,GI.listI (.inr ⟨e₀.1,rfl,.head _⟩) (by decide) (by decide) rfl ⟨_,rfl,?_⟩⟩
   walk_at "e"
   walk_at "e"
   walk_at "e"
   refine ⟨rfl,wless_fn G W hh hl3 (hes _ (.head _)) hrow ⟨_,rfl,?_⟩⟩
   cases hw : wless e₀.2.1 row with
   | true =>
    replace hd:=hw ▸ hd
    simp only [Bool.not_true,Bool.false_eq_true,if_false,if_true] at hd ⊢
    exact EXE.nil ⟨rfl,e₀,r₀,_,_,rfl,PS_cons.symm,hd,hes,Nat.le_refl _⟩
   | false =>
    replace hd:=hw ▸ hd
    simp only [Bool.not_false,if_true,Bool.false_eq_true,if_false] at hd ⊢
    cases hpo : popTo row (e₀.2 :: r₀.map (·.2)) with
    | none=>replace hd:=hpo ▸ hd;exact nsm hd
    | some lr =>
    obtain ⟨last,rest'⟩:=lr
    replace hd:=hpo ▸ hd
    dsimp only at hd
    refine rl (PS_cons ..) ?_
    refine EXE.cons (EX1E.of (EX1.while_ (n:=r₀.length + 1) (J12_3 P ps rows fa σr pa k row found x6 x7 x8 r₀ last rest') ⟨e₀ :: r₀,rfl,hpo,hes,Nat.le_refl _,rfl,rfl⟩ ?_))
    rintro n _ _ ⟨es,rfl,hp,hes',hln,rfl,rfl⟩
    cases es with
    | nil=>exact nsm hp
    | cons e r =>
    replace hp:=(List.map_cons ..) ▸ hp;rw [popTo_c] at hp
    simp only [List.length_cons] at hln
    refine ET.bool (fun _ _=>rfl) (EV.w_less G W hl2 rfl rfl ?_)
    walk_at "e"
    refine ⟨row,rfl,?_⟩
    refine EA.cons rfl (EV.sub ?_)
    refine rr (PS_cons ..) ?_
    refine EV.topP Ok s2 rfl (List.mem_cons_of_mem _ (List.mem_append_right _ (.head _))) (by simp;lia) ?_
    refine EV.int ⟨⟨"list",.inl ⟨_,.head _,rfl⟩⟩,GI.listI (.inr ⟨e.1,rfl,.head _⟩) (by decide) (by decide) rfl (EA.nil ⟨rfl,?_⟩)⟩
    refine wless_fn G W hh hl3 hrow (hes' _ (.head _)) ⟨_,rfl,?_⟩
    cases hw' : wless row e.2.1 with
    | true =>
     replace hp:=hw' ▸ hp
     simp only [if_true] at hp ⊢
     refine EX.cons (EX1.expr rfl rfl (EV.meth0 .pop rfl ?_))
     walk_at "e"
     refine ⟨.inl ⟨_,List.mem_cons_of_mem _ (List.mem_append_right _ (.head _)),rfl⟩,?_⟩
     refine BJ.pop (i:=r.length + 1) (x:=.ref e.1) (xs:=r.reverse.map fun e=>.ref e.1) (get_app' (ent e :: r.map ent) _ _ (by simp)) (Nat.lt_of_le_of_lt (by simp;lia : _ ≤ 200) (by refine rr sizeLine_eq ?_;decide)) ?_
     refine rr (List.set_cons_succ ..) ?_;refine rr (set_app' (r.map ent) _ _ _ (by simp) ..) ?_
     refine EX.drop (σ₀:=PS pa fa P σr r found (· = tabO ps)) (List.sublist_cons_self _ _) (EX.nil ?_)
     exact ⟨r.length,by simp,r,rfl,hp,fun e' h=>hes' e' (.tail _ h),by lia,rfl,rfl⟩
    | false =>
     replace hp:=hw' ▸ hp
     simp only [Bool.false_eq_true,if_false,Option.some.injEq,Prod.mk.injEq] at hp ⊢
     obtain ⟨rfl,rfl⟩:=hp
     refine EXE.cons (EX1E.of (EX1.assign Ok (i:=6) rfl (.inl rfl) rfl (EV.sub (EV.meth0 .pop rfl ?_))))
     walk_at "e"
     refine ⟨.inl ⟨_,List.mem_cons_of_mem _ (List.mem_append_right _ (.head _)),rfl⟩,?_⟩
     refine BJ.pop (i:=r.length + 1) (x:=.ref e.1) (xs:=r.reverse.map fun e=>.ref e.1) (get_app' (ent e :: r.map ent) _ _ (by simp)) (Nat.lt_of_le_of_lt (by simp;lia : _ ≤ 200) (by refine rr sizeLine_eq ?_;decide)) ?_
     refine rr (List.set_cons_succ ..) ?_;refine rr (set_app' (r.map ent) _ _ _ (by simp) ..) ?_
     refine EV.int ⟨⟨"list",.inl ⟨_,.head _,rfl⟩⟩,GI.listI (.inr ⟨e.1,rfl,.head _⟩) (by decide) (by decide) rfl ?_⟩
     refine EXE.drop (σ₀:=PS pa fa P σr r found (· = tabO ps)) (List.sublist_cons_self _ _) ?_
     refine EXE.cons (EX1E.if_ (ET.not_ (ET.bool (fun _ _=>rfl) (EV.w_equal G W hl2 rfl rfl ?_))))
     walk_at "e"
     refine ⟨e.2.1,rfl,?_⟩
     walk_at "e"
     walk_at "e"
     walk_at "e"
     refine ⟨rfl,wequal_fn G W hh hl2 ⟨_,rfl,?_⟩⟩
     cases heq : wequal e.2.1 row with
     | true =>
      replace hd:=heq ▸ hd
      simp only [Bool.not_true,Bool.false_eq_true,if_false,if_true] at hd ⊢
      cases r with
      | nil=>simp [readGo] at hd
      | cons e' r'=>exact EXE.nil (EXE.nil ⟨rfl,e',r',_,_,rfl,rfl,hd,fun z h=>hes' z (.tail _ h),by simp at hln ⊢;lia⟩)
     | false =>
      replace hd:=heq ▸ hd
      simp only [Bool.not_false,if_true,Bool.false_eq_true,if_false] at hd ⊢
      by_cases hsz : wsize e.2.1 row ≤ 8
      ·simp only [hsz,decide_true,if_true,Option.some.injEq] at hd
       obtain ⟨hw1,hw2⟩:=wwit_small hsz
       obtain ⟨c,bm,ob,hfAt,_,_⟩:=X.is
       refine EXE.cons (EX1E.of (EX1.assign Ok (i:=7) rfl (.inl rfl) rfl (EV.callJ Ok G.tx hfAt rfl (by decide +kernel) hfm rfl (EA.cons rfl (EV.w_wit G W hl2 rfl rfl ?_)))))
       walk_at "e"
       refine ⟨e.2.1,rfl,?_⟩
       walk_at "e"
       walk_at "e"
       walk_at "e"
       refine ⟨rfl,wwit_fn G W hh hl3 (hes' _ (.head _)) hrow (EA.nil fun A I s vals QQ E a R hv g=>fmt_call G X hh hl3 hgs hw1 hw2 (i:=r.length + 2) ?_ ?_ a R hv g)⟩
       ·unfold PS
        refine rr (List.getElem?_append_right (by simp) ..) ?_
        simp
       ·haveI hset : (PS pa fa P σr r found (· = tabO ps)).set (r.length + 2) (P,.raw TabX) = PS pa fa P σr r found TabX:=by
         unfold PS
         refine rr (List.set_append_right _ _ (by simp) ..) ?_
         simp
        refine rr hset ?_
        refine EXE.drop (σ₀:=(fa,.lst (found.map .str)) :: (P,.raw TabX) :: σr) ?_ ?_
        ·exact (List.sublist_cons_self _ _).trans (List.sublist_append_right _ _)
        obtain ⟨fi,cdi,oi,hi1,hi2,hi3,hi4⟩:=B.init
        refine EXE.cons (EX1E.raise hh B.nag (EV.perm (EV.callExc Ok G.tx B.X B.kp B.nag ok_ninit hl3 hi2 hi3 hi4 hi1 bind_ninit rfl (by decide +kernel) B.gN rfl rfl (by decide) ?_)))
        walk_at "e"
        walk_at "e"
        walk_at "e"
        refine EV.op (EV.str (l:=sNag) (by decide +kernel) ?_)
        walk_at "e"
        refine OP.addS ?_ ?_
        ·haveI:=fmtOf_len (wwit e.2.1 row)
         haveI h22 : sNag.length = 22:=rfl
         exact sl _ (by lia)
        walk_at "e"
        walk_at "e"
        walk_at "e"
        refine ⟨rfl,fun x=>?_⟩
        refine ninit_fn (Φ:=(Φ.enter d_read L f' cdv).low) B hh (by show 2 ≤ Φ.lvl - 1 - 1;lia) fun dd=>⟨rfl,_,List.Perm.swap ..,x,dd,_,_,rfl,rfl,?_⟩
        exact qe found k _ row hd.symm
      ·simp only [hsz,decide_false,Bool.false_eq_true,if_false] at hd
       exact nsm hd
  ·rintro _ _ ⟨e,r,x6,x7,rfl,rfl,hgo,hes',hln⟩
   simp only [List.length_cons] at hln
   obtain ⟨ea,rw',p,n⟩:=e
   replace hgo:=(List.map_cons ..) ▸ hgo;rw [readGo] at hgo
   by_cases hok : (decide (0 ≤ n) && decide (n < 9) && decide (p.length ≤ 100)) = true
   ·replace hgo:=(if_pos hok ..) ▸ hgo
    dsimp only at hgo
    simp only [Bool.and_eq_true,decide_eq_true_eq] at hok
    obtain ⟨⟨hn0,hn9⟩,hp⟩:=hok
    refine rr (PS_cons ..) ?_
    refine EXE.cons (EX1E.of (EX1.augSub (fun _ _ _=>rfl) ?_))
    refine EV.topP Ok s2 rfl (List.mem_cons_of_mem _ (List.mem_append_right _ (.head _))) (by simp;lia) ?_
    refine EV.int (GI.listI (.inr ⟨ea,rfl,.head _⟩) (by decide) (by decide) rfl (EV.int (IP.addI ?_)))
    refine SI.list (i:=0) rfl (by decide) (by show (2 : Int) < (3 : Nat);decide) (by show 3 ≤ 1000000;decide) ?_
    refine rr (List.set_cons_zero ..) ?_
    refine EXE.cons (EX1E.of (EX1.assign Ok (i:=8) rfl (.inl rfl) rfl (EV.op (EV.op (EV.sub ?_)))))
    refine EV.topP Ok s2 rfl (List.mem_cons_of_mem _ (List.mem_append_right _ (.head _))) (by simp;lia) ?_
    refine EV.int ⟨⟨"list",.inl ⟨_,.head _,rfl⟩⟩,GI.listI (.inr ⟨ea,rfl,.head _⟩) (by decide) (by decide) rfl ?_⟩
    refine EV.str (l:=[46]) (by decide +kernel) (OP.addS (sl _ (by simp;lia)) ?_)
    walk_at "e"
    refine EA.cons rfl (EV.sub ?_)
    refine EV.topP Ok s2 rfl (List.mem_cons_of_mem _ (List.mem_append_right _ (.head _))) (by simp;lia) ?_
    refine EV.int ⟨⟨"list",.inl ⟨_,.head _,rfl⟩⟩,GI.listI (.inr ⟨ea,rfl,.head _⟩) (by decide) (by decide) rfl ?_⟩
    refine EA.nil (BT.str1 (by show 0 ≤ n + 1;lia) (by show n + 1 < 10;lia) (OP.addS (sl _ (by simp;lia)) ?_))
    haveI hpl : (nextPath p n).length ≤ 102:=by unfold nextPath;simp;lia
    refine EXE.cons (EX1E.of (EX1.expr rfl rfl ?_))
    walk_at "e"
    walk_at "e"
    refine ⟨.inl ⟨_,List.mem_cons_of_mem _ (List.mem_append_right _ (.tail _ (.head _))),rfl⟩,?_⟩
    refine EA.cons rfl (EV.op ?_)
    walk_at "e"
    refine EV.str (l:=[10]) (by decide +kernel) (OP.addS (sl _ (by simp;lia)) (EA.nil ?_))
    refine BJ.appendM V.str (xs:=found) (i:=r.length + 2) ?_ (by lia) ?_
    ·refine rr (List.getElem?_cons_succ ..) ?_;refine rr (List.getElem?_append_right (by simp) ..) ?_
     simp
    refine rr (set_two (r.map ent) _ _ _ _ _ (by simp) ..) ?_
    refine EXE.cons (EX1E.of (EX1.expr rfl rfl ?_))
    walk_at "e"
    walk_at "e"
    refine ⟨.inl ⟨_,List.mem_cons_of_mem _ (List.mem_append_right _ (.head _)),rfl⟩,?_⟩
    refine EA.cons rfl (EV.lstM ?_)
    walk_at "e"
    walk_at "e"
    walk_at "e"
    walk_at "e"
    walk_at "e"
    walk_at "e"
    walk_at "e"
    refine ⟨sl 3 (by decide),fun a'=>EA.nil ?_⟩
    refine BJ.append (i:=r.length + 2) (xs:=(r.reverse.map fun e=>V.ref e.1) ++ [.ref ea]) ?_ (sl _ (by simp;lia)) ?_
    ·refine rr (List.getElem?_cons_succ ..) ?_;refine rr (List.getElem?_cons_succ ..) ?_;refine rr (List.getElem?_append_right (by simp) ..) ?_
     simp
    refine rr (set_pa (r.map ent) _ _ _ _ _ (by simp) ..) ?_
    refine EXE.nil ⟨(a',row,nextPath p n,0) :: (ea,rw',p,n + 1) :: r,found ++ [nextPath p n ++ [10]],_,_,_,_,_,_,hgo,?_,by simp;lia,by simp;lia,rfl,?_⟩
    ·intro z hz
     rcases List.mem_cons.mp hz with rfl | hz
     ·exact hrow
     ·rcases List.mem_cons.mp hz with rfl | hz
      ·exact hes' (ea,rw',p,n) (.head _)
      ·exact hes' z (.tail _ hz)
    ·simp [PS,ent,nextPath]
   ·replace hgo:=(if_neg hok ..) ▸ hgo
    exact nsm hgo
 ·rintro _ _ ⟨es,found,x3,x4,x5,x6,x7,x8,hd,hes,hel,hfl,rfl,rfl⟩
  replace hd:=si hd
  refine EXE.drop (σ₀:=(fa,.lst (found.map .str)) :: (P,.raw (· = tabO ps)) :: σr) ?_ (EXE.nil (q found hd.symm))
  exact (List.sublist_cons_self _ _).trans (List.sublist_append_right _ _)
end
noncomputable abbrev Tbl:=List (List Nat × List (List Nat))
noncomputable def addChild (p c : List Nat) : Tbl→Option Tbl
 | []=>none
 | e :: r=>if decide (e.1 = p) then some ((e.1,e.2 ++ [c]) :: r) else (addChild p c r).map (e :: ·)
theorem addChild_c {p c e r} : addChild p c (e :: r) = (if decide (e.1 = p) then some ((e.1,e.2 ++ [c]) :: r) else (addChild p c r).map (e :: ·)):=rfl
noncomputable def newsTbl : List (List Nat)→Tbl→Option Tbl
 | [],t=>some t
 | a :: r,t=>if (t.any fun e=>e.1 == a) then none else if decide (a.length ≤ 1000) then
   match ipRes a with
   | none=>none
   | some none=>newsTbl r (t ++ [(a,[])])
   | some (some (b,e))=>if decide ((without a b e).length ≤ 1000) && decide ((strSlice a none (some b)).length ≤ 10000) && decide ((strSlice a (some e) none).length ≤ 10000) then
     match addChild (without a b e) a (t ++ [(a,[])]) with
     | none=>none
     | some t'=>newsTbl r t'
    else none
  else none
theorem newsTbl_c {a r t} : newsTbl (a :: r) t = (if (t.any fun e=>e.1 == a) then none else if decide (a.length ≤ 1000) then
   match ipRes a with
   | none=>none
   | some none=>newsTbl r (t ++ [(a,[])])
   | some (some (b,e))=>if decide ((without a b e).length ≤ 1000) && decide ((strSlice a none (some b)).length ≤ 10000) && decide ((strSlice a (some e) none).length ≤ 10000) then
     match addChild (without a b e) a (t ++ [(a,[])]) with
     | none=>none
     | some t'=>newsTbl r t'
    else none
  else none):=rfl
theorem addChild_split {α : Type} {p c : List Nat} : ∀ {es : List (α × List Nat × List (List Nat))} {t : Tbl},addChild p c (es.map (·.2)) = some t →
  ∃ A e B,es = A ++ e :: B∧e.2.1 = p∧(∀ x∈A,x.2.1 ≠ p)∧t = (A ++ (e.1,e.2.1,e.2.2 ++ [c]) :: B).map (·.2)
 | [],t,h=>nsm h
 | e :: r,t,h=>by
  replace h:=(List.map_cons ..) ▸ h;rw [addChild_c] at h
  by_cases z : e.2.1 = p
  ·rw [if_pos (by simpa using z)] at h
   obtain rfl:=si h
   exact ⟨[],e,r,rfl,z,(fun x hx=>nomatch hx),rfl⟩
  ·rw [if_neg (by simpa using z)] at h
   obtain ⟨t',h',rfl⟩:=Option.map_eq_some_iff.mp h
   obtain ⟨A,x,B,rfl,e2,e3,e4⟩:=addChild_split h'
   refine ⟨e :: A,x,B,rfl,e2,fun y hy=>?_,by refine rr e4 ?_;rfl⟩
   rcases List.mem_cons.mp hy with rfl | hy
   ·exact z
   ·exact e3 y hy
noncomputable abbrev Tent:=Addr × List Nat × List (List Nat)
noncomputable def tent (e : Tent) : Addr × Cell:=(e.1,.lst (e.2.2.map .str))
noncomputable def tkey (e : Tent) : List Nat × V:=(e.2.1,.ref e.1)
noncomputable def NS (da : Addr) (σr : St) (es : List Tent) : St:=es.reverse.map tent ++ (da,.dct (es.map tkey)) :: σr
theorem dval_split {A B : List Tent} {e : Tent} (h : ∀ x∈A,x.2.1 ≠ e.2.1) : dval ((A ++ e :: B).map tkey) e.2.1 = some (.ref e.1):=by
 induction A with
 | nil=>simp [dval,tkey]
 | cons a r ih =>
  haveI h1 : e.2.1 ≠ a.2.1:=fun z=>h a (.head _) z.symm
  haveI:=ih fun x hx=>h x (.tail _ hx)
  unfold dval at this ⊢
  rw [List.cons_append,List.map_cons,List.lookup_cons]
  rw [show (e.2.1 == (tkey a).1) = false from by simp [tkey,h1]]
  exact this
theorem dput_new {es : List Tent} {a : Addr} {k : List Nat} {ch : List (List Nat)} (h : (es.any fun e=>e.2.1 == k) = false) : dput (es.map tkey) k (.ref a) = (es ++ [(a,k,ch)]).map tkey:=by
 haveI h' : ((es.map tkey).any fun p=>p.1 == k) = false:=by refine rr (List.any_map ..) ?_;exact h
 unfold dput
 refine rr h' ?_
 simp [tkey]
theorem NS_split {da : Addr} {σr : St} {A B : List Tent} {e : Tent} : NS da σr (A ++ e :: B) = B.reverse.map tent ++ tent e :: (A.reverse.map tent ++ (da,.dct ((A ++ e :: B).map tkey)) :: σr):=by
 unfold NS
 simp
theorem NS_snoc {da : Addr} {σr : St} {es : List Tent} {e : Tent} : NS da σr (es ++ [e]) = tent e :: (es.reverse.map tent ++ (da,.dct ((es ++ [e]).map tkey)) :: σr):=by
 unfold NS
 simp
theorem NS_dict {da : Addr} {σr : St} {es : List Tent} : (da,Cell.dct (es.map tkey))∈NS da σr es:=List.mem_append_right _ (.head _)
noncomputable def newsStmt (k : Nat) : Stmt:=d_news.body.getD k (.Pass ⟨0,0,0,0⟩)
section
variable {mg mb : Str→Option Value}
inductive J13_1 (known : List (List Nat)) (t : Tbl) (da : Addr) (σr : St) (fo : V) (rest : List (List Nat)) (ρ₁ : List (Option V)) (σ₁ : St) : Prop
 | mk (es : _) (x3 : _) (h0 : newsTbl rest (es.map (·.2)) = some t) (h1 : es.length + rest.length ≤ 100) (h2 : (∀ e∈es,e.2.2.length ≤ es.length)) (h3 : ρ₁ = [some fo,some (.lst (known.map .str)),some (.ref da),x3,none,none,none,none,none,none,none]) (h4 : σ₁ = NS da σr es)
theorem news_one {L f : Addr} {cdv : Value} (Ok : (Φ.enter d_news L f cdv).Ok) (G : Gl Φ.h₀ mg mb) (X : Rx Φ.h₀ mg) (hh : Φ.hd = none) (hl : 4 ≤ Φ.lvl) (hsm : ∃ o,Φ.h₀.get? sysModules = some o) {known : List (List Nat)} (hz : known.length ≤ 100) {t : Tbl} (ht : newsTbl known [] = some t) {da : Addr} {σr : St} {fo : V}
  {Q : QX} (q : ∀ es x3,es.map (·.2) = t→es.length ≤ 100→Q .next [some fo,some (.lst (known.map .str)),some (.ref da),x3,none,none,none,none,none,none,none] (NS da σr es)) :
  EX1 prog w C (Φ.enter d_news L f cdv) (newsStmt 2) [some fo,some (.lst (known.map .str)),some (.ref da),none,none,none,none,none,none,none,none] (NS da σr []) Q:=by
 haveI hl2 : 2 ≤ (Φ.enter d_news L f cdv).lvl:=by show 2 ≤ Φ.lvl - 1;lia
 haveI hl3 : 3 ≤ (Φ.enter d_news L f cdv).lvl:=by show 3 ≤ Φ.lvl - 1;lia
 haveI hh : (Φ.enter d_news L f cdv).hd = none:=hh
 haveI G : Gl (Φ.enter d_news L f cdv).h₀ mg mb:=G
 haveI X : Rx (Φ.enter d_news L f cdv).h₀ mg:=X
 haveI hsm : ∃ o,(Φ.enter d_news L f cdv).h₀.get? sysModules = some o:=hsm
 haveI s0 : Sl (Φ.enter d_news L f cdv) 0 "found" none:=rfl
 haveI s1 : Sl (Φ.enter d_news L f cdv) 1 "known" none:=rfl
 haveI s2 : Sl (Φ.enter d_news L f cdv) 2 "below" (some (L + 1)):=rfl
 haveI s3 : Sl (Φ.enter d_news L f cdv) 3 "address" none:=rfl
 haveI s4 : Sl (Φ.enter d_news L f cdv) 4 "needs" (some (L + 1 + 1)):=rfl
 haveI s5 : Sl (Φ.enter d_news L f cdv) 5 "told" none:=rfl
 haveI s6 : Sl (Φ.enter d_news L f cdv) 6 "mail" none:=rfl
 haveI s7 : Sl (Φ.enter d_news L f cdv) 7 "turn" none:=rfl
 haveI s8 : Sl (Φ.enter d_news L f cdv) 8 "fresh" none:=rfl
 haveI s9 : Sl (Φ.enter d_news L f cdv) 9 "pairs" none:=rfl
 haveI s10 : Sl (Φ.enter d_news L f cdv) 10 "row" none:=rfl
 refine EX1.for1 Ok (i:=3) rfl (.inl rfl) (fun _=>rfl) V.str ?_
 refine IE1.list hh ?_
 walk_at "e"
 refine ⟨_,rfl,known,(J13_1 known t da σr fo),rfl,⟨[],_,ht,by simpa using hz,(fun e he=>nomatch he),rfl,rfl⟩,?_,?_⟩
 ·rintro address rest _ _ hsuf ⟨es,x3,hd,hel,hch,rfl,rfl⟩
  simp only [List.length_cons] at hel
  rw [newsTbl_c] at hd
  haveI hany : ((es.map (·.2)).any fun e=>e.1 == address) = es.any fun e=>e.2.1 == address:=by refine rr (List.any_map ..) ?_;rfl
  replace hd:=hany ▸ hd
  cases han : es.any fun e=>e.2.1 == address with
  | true=>replace hd:=han ▸ hd;simp at hd
  | false =>
  replace hd:=han ▸ hd
  simp only [Bool.false_eq_true,if_false] at hd
  by_cases hal : address.length ≤ 1000
  ·rw [if_pos (by simpa using hal)] at hd
   refine EX.cons (EX1.asg rfl rfl rfl (EV.lstM (EA.nil ⟨sl 0 (by decide),fun a=>?_⟩)))
   refine AS.sub (fun _=>rfl) ?_
   walk_at "e"
   walk_at "e"
   refine SI.dct (i:=es.length + 1) (es:=es.map tkey) (by unfold NS;refine rr (List.getElem?_cons_succ ..) ?_;exact get_app' _ _ _ (by simp)) (by simp;lia) ?_
   haveI hset : ((a,Cell.lst []) :: NS da σr es).set (es.length + 1) (da,.dct (dput (es.map tkey) address (.ref a))) = NS da σr (es ++ [(a,address,[])]):=by
    refine rr (dput_new (ch:=[]) han ..) ?_;refine rr (NS_snoc ..) ?_
    unfold NS
    refine rr (List.set_cons_succ ..) ?_;refine rr (set_app' _ _ _ _ (by simp) ..) ?_
    rfl
   refine rr hset ?_
   haveI hch0 : ∀ e∈es ++ [(a,address,[])],e.2.2.length ≤ es.length:=fun e he=>by
    rcases List.mem_append.mp he with he | he
    ·exact hch e he
    ·refine rr (List.mem_singleton.mp he ..) ?_;simp
   haveI hch' : ∀ e∈es ++ [(a,address,[])],e.2.2.length ≤ (es ++ [(a,address,[])]).length:=fun e he=>by
    haveI:=hch0 e he
    simp;lia
   cases hip : ipRes address with
   | none=>replace hd:=hip ▸ hd;exact nsm hd
   | some r =>
   replace hd:=hip ▸ hd
   refine EX.cons (EX1.if_ (ET.not_ (ET.bool (fun _ _=>rfl) (EV.f_hdn Ok G hl2 rfl rfl ?_))))
   walk_at "e"
   walk_at "e"
   walk_at "e"
   refine ⟨rfl,hdn_fn G X hh hl3 (by lia) hip ⟨_,rfl,?_⟩⟩
   cases r with
   | none =>
    simp only [Option.isSome_none,Bool.not_false,Bool.not_true,Bool.false_eq_true,if_false] at hd ⊢
    refine EX.nil (EX.nil ⟨es ++ [(a,address,[])],_,?_,by simp;lia,hch',rfl,rfl⟩)
    refine rr (List.map_append ..) ?_
    exact hd
   | some be =>
    obtain ⟨b,e⟩:=be
    simp only [Option.isSome_some,Bool.not_true,Bool.not_false,if_true] at hd ⊢
    by_cases hsz : (decide ((without address b e).length ≤ 1000) && decide ((strSlice address none (some b)).length ≤ 10000) && decide ((strSlice address (some e) none).length ≤ 10000)) = true
    ·replace hd:=(if_pos hsz ..) ▸ hd
     simp only [Bool.and_eq_true,decide_eq_true_eq] at hsz
     cases hac : addChild (without address b e) address ((es ++ [((a,address,[]) : Tent)]).map fun x=>x.2) with
     | none=>replace hac:=(List.map_append ..) ▸ hac;have hac' : addChild (without address b e) address (es.map (·.2) ++ [(address,[])]) = none:=hac;replace hd:=hac' ▸ hd;exact nsm hd
     | some t' =>
      haveI hac' : addChild (without address b e) address (es.map (·.2) ++ [(address,[])]) = some t':=by replace hac:=(List.map_append ..) ▸ hac;exact hac
      replace hd:=hac' ▸ hd
      dsimp only at hd
      obtain ⟨A,e₁,B,hes,he1,he2,rfl⟩:=addChild_split hac
      haveI hlenAB : A.length + B.length + 1 = es.length + 1:=by
       haveI:=congrArg List.length hes
       simp at this
       lia
      haveI hlt1 : e₁.2.2.length < A.length + B.length + 1:=by
       haveI:=hch0 e₁ (by refine rr hes ?_;exact List.mem_append_right _ (.head _))
       lia
      rw [hes] at hch' ⊢
      refine EX.cons (EX1.expr rfl rfl (EV.meth .append rfl rfl rfl (EV.meth .setdefault rfl rfl rfl ?_)))
      walk_at "e"
      refine ⟨.inr ⟨_,NS_dict,rfl⟩,EA.cons rfl (EV.f_unm Ok G hl2 rfl rfl (EA.cons rfl ?_))⟩
      obtain ⟨p,hp,hP⟩:=X.ip
      refine EV.methP "re.Pattern.search" slot_search type_search rfl rfl rfl (EV.glob Ok G.tx (v:=.ref p) rfl (by decide +kernel) hp (fun I _=>.ref p) ?_)
      refine ⟨p,_,_,rfl,hP,EA.cons rfl ?_⟩
      walk_at "e"
      walk_at "e"
      refine BJ.search hP (by lia) hip ?_
      refine EA.nil ⟨rfl,unm_fn G hh hl3 hsz.1.2 hsz.2 ?_⟩
      refine EA.cons rfl (EV.lstM (EA.nil ⟨sl 0 (by decide),fun ga=>EA.nil ?_⟩))
      refine BJ.setdefault (es:=(A ++ e₁ :: B).map tkey) (v:=.ref e₁.1) (List.mem_cons_of_mem _ NS_dict) (by have z:=dval_split (A:=A) (B:=B) (e:=e₁) (fun x hx=>by refine rr he1 ?_;exact he2 x hx);replace z:=he1 ▸ z;exact z) (by simp;lia) hsm ?_
      refine ⟨.inl ⟨e₁.2.2.map .str,List.mem_cons_of_mem _ (by refine rr (NS_split ..) ?_;exact List.mem_append_right _ (.head _)),rfl⟩,EA.cons rfl ?_⟩
      walk_at "e"
      walk_at "e"
      refine BJ.append (i:=B.length + 1) (xs:=e₁.2.2.map .str) (by refine rr (List.getElem?_cons_succ ..) ?_;refine rr (NS_split ..) ?_;exact get_app' _ _ _ (by simp)) ?_ ?_
      ·haveI:=hch' e₁ (List.mem_append_right _ (.head _))
       refine sl _ ?_
       simp at this ⊢
       lia
      ·haveI hset2 : ((ga,Cell.lst []) :: NS da σr (A ++ e₁ :: B)).set (B.length + 1) (e₁.1,.lst (e₁.2.2.map .str ++ [.str address])) = (ga,Cell.lst []) :: NS da σr (A ++ (e₁.1,e₁.2.1,e₁.2.2 ++ [address]) :: B):=by
        refine rr (List.set_cons_succ ..) ?_;refine rr (NS_split ..) ?_;refine rr (set_app' _ _ _ _ (by simp) ..) ?_;refine rr (NS_split ..) ?_
        simp [tent,tkey]
       refine rr hset2 ?_
       refine EX.drop (List.sublist_cons_self _ _) (EX.nil (EX.nil ⟨A ++ (e₁.1,e₁.2.1,e₁.2.2 ++ [address]) :: B,_,hd,by simp;lia,fun e he=>?_,rfl,rfl⟩))
       haveI hl0 : (A ++ (e₁.1,e₁.2.1,e₁.2.2 ++ [address]) :: B).length = A.length + B.length + 1:=by simp;lia
       refine rr hl0 ?_
       haveI hl1 : (A ++ e₁ :: B).length = A.length + B.length + 1:=by simp;lia
       replace hch':=hl1 ▸ hch'
       haveI hbig : ∀ x∈A ++ e₁ :: B,x.2.2.length ≤ A.length + B.length + 1:=hch'
       rcases List.mem_append.mp he with he | he
       ·exact hbig e (List.mem_append_left _ he)
       ·rcases List.mem_cons.mp he with rfl | he
        ·show (e₁.2.2 ++ [address]).length ≤ _
         simp
         lia
        ·exact hbig e (List.mem_append_right _ (.tail _ he))
    ·replace hd:=(if_neg hsz ..) ▸ hd
     exact nsm hd
  ·rw [if_neg (by simpa using hal)] at hd
   exact nsm hd
 ·rintro _ _ ⟨es,x3,hd,hel,hch,rfl,rfl⟩
  replace hd:=si hd
  exact q es x3 hd (by simpa using hel)
end
noncomputable abbrev Nds:=List (List Nat × Int)
noncomputable def nkey (p : List Nat × Int) : List Nat × V:=(p.1,.int p.2)
noncomputable def putCh (a : List Nat) (ch : List (List Nat)) : Tbl→Tbl
 | []=>[]
 | e :: r=>if decide (e.1 = a) then (e.1,ch) :: r else e :: putCh a ch r
theorem putCh_c {a ch e r} : putCh a ch (e :: r) = (if decide (e.1 = a) then (e.1,ch) :: r else e :: putCh a ch r):=rfl
noncomputable def needOf (n : Nds) (ch : List (List Nat)) : Int:=maxOf (0 :: (enumN ch).map fun p=>p.1 + 1 + (n.lookup p.2).getD 0)
noncomputable def news2 : List (List Nat)→Tbl→Nds→Option (Tbl × Nds)
 | [],t,n=>some (t,n)
 | a :: r,t,n =>
  match t.lookup a with
  | none=>none
  | some ch =>
   if (ch.all fun o=>(n.lookup o).isSome) && decide (ch.length < 64) && (!(n.any fun e=>e.1 == a)) && decide ((t.map (·.1)).Nodup) then
    match sortO ltP (0,[]) (ch.map fun o=>(-((n.lookup o).getD 0),o)) with
    | none=>none
    | some sp =>
     if ((sp.map (·.2)).all fun o=>(n.lookup o).isSome) && decide (sp.length < 64) then
      news2 r (putCh a (sp.map (·.2)) t) (n ++ [(a,needOf n (sp.map (·.2)))])
     else none
   else none
theorem news2_c {a r t n} : news2 (a :: r) t n = (match t.lookup a with
  | none=>none
  | some ch =>
   if (ch.all fun o=>(n.lookup o).isSome) && decide (ch.length < 64) && (!(n.any fun e=>e.1 == a)) && decide ((t.map (·.1)).Nodup) then
    match sortO ltP (0,[]) (ch.map fun o=>(-((n.lookup o).getD 0),o)) with
    | none=>none
    | some sp =>
     if ((sp.map (·.2)).all fun o=>(n.lookup o).isSome) && decide (sp.length < 64) then
      news2 r (putCh a (sp.map (·.2)) t) (n ++ [(a,needOf n (sp.map (·.2)))])
     else none
   else none):=rfl
theorem lookup_split : ∀ {es : List Tent} {a : List Nat} {ch : List (List Nat)},(es.map (·.2)).lookup a = some ch→∃ A e B,es = A ++ e :: B∧e.2.1 = a∧e.2.2 = ch∧∀ x∈A,x.2.1 ≠ a
 | [],a,ch,h=>by simp at h
 | e :: r,a,ch,h=>by
  replace h:=(List.map_cons ..) ▸ h;rw [List.lookup_cons] at h
  by_cases z : a = e.2.1
  ·rw [show (a == e.2.1) = true from by simp [z]] at h
   obtain rfl:=si h
   exact ⟨[],e,r,rfl,z.symm,rfl,fun x hx=>nomatch hx⟩
  ·rw [show (a == e.2.1) = false from by simp [z]] at h
   obtain ⟨A,x,B,rfl,e1,e2,e3⟩:=lookup_split h
   refine ⟨e :: A,x,B,rfl,e1,e2,fun y hy=>?_⟩
   rcases List.mem_cons.mp hy with rfl | hy
   ·exact fun q=>z q.symm
   ·exact e3 y hy
theorem putCh_split {A B : List Tent} {e : Tent} {ch : List (List Nat)} {D : Addr} (h : ∀ x∈A,x.2.1 ≠ e.2.1) : putCh e.2.1 ch ((A ++ e :: B).map (·.2)) = (A ++ (D,e.2.1,ch) :: B).map (·.2):=by
 induction A with
 | nil=>exact if_pos (decide_eq_true rfl)
 | cons a r ih =>
  haveI h1 : ¬ a.2.1 = e.2.1:=h a (.head _)
  rw [List.cons_append,List.map_cons,List.cons_append,List.map_cons,putCh_c]
  rw [if_neg (by simpa using h1),ih fun x hx=>h x (.tail _ hx)]
theorem map_same {l : List Tent} {k : List Nat} {v : V} (h : ∀ x∈l,x.2.1 ≠ k) : (l.map tkey).map (fun p=>if p.1 = k then (p.1,v) else p) = l.map tkey:=by
 refine rr (List.map_map ..) ?_
 refine List.map_congr_left fun x hx=>?_
 show (if (tkey x).1 = k then _ else _) = _
 refine rr (if_neg (show ¬ (tkey x).1 = k from h x hx) ..) ?_;rfl
theorem dput_old {A B : List Tent} {e : Tent} {D : Addr} {ch : List (List Nat)} (hn : ((A ++ e :: B).map (·.2.1)).Nodup) : dput ((A ++ e :: B).map tkey) e.2.1 (.ref D) = (A ++ (D,e.2.1,ch) :: B).map tkey:=by
 replace hn:=(List.map_append ..) ▸ hn;replace hn:=(List.map_cons ..) ▸ hn
 obtain ⟨_,h2,h3⟩:=List.nodup_append.mp hn
 haveI hA : ∀ x∈A,x.2.1 ≠ e.2.1:=fun x hx=>h3 _ (List.mem_map_of_mem hx) _ (.head _)
 haveI hB : ∀ x∈B,x.2.1 ≠ e.2.1:=fun x hx q=>(List.nodup_cons.mp h2).1 (q ▸ List.mem_map_of_mem (f:=fun x : Tent=>x.2.1) hx)
 unfold dput
 haveI : (((A ++ e :: B).map tkey).any fun p=>p.1 == e.2.1) = true:=by simp [tkey]
 refine rr (if_pos this ..) ?_;refine rr (List.map_append ..) ?_;refine rr (List.map_cons ..) ?_;refine rr (List.map_append ..) ?_;refine rr (List.map_cons ..) ?_;refine rr (map_same hA ..) ?_;refine rr (map_same hB ..) ?_;refine rr (List.map_append ..) ?_;refine rr (List.map_cons ..) ?_
 simp [tkey]
theorem dval_int {n : Nds} {k : List Nat} {i : Int} (h : n.lookup k = some i) : dval (n.map nkey) k = some (.int i):=by
 unfold dval
 induction n with
 | nil=>exact nsm h
 | cons p r ih =>
  refine rr (List.map_cons ..) ?_;refine rr (List.lookup_cons ..) ?_
  rw [List.lookup_cons] at h
  cases z : k == p.1 with
  | true=>replace h:=z ▸ h;obtain rfl:=si h;refine rr (show (k == (nkey p).1) = true from z ..) ?_;rfl
  | false=>replace h:=z ▸ h;refine rr (show (k == (nkey p).1) = false from z ..) ?_;exact ih h
theorem dput_int {n : Nds} {k : List Nat} {i : Int} (h : (n.any fun e=>e.1 == k) = false) : dput (n.map nkey) k (.int i) = (n ++ [(k,i)]).map nkey:=by
 haveI h' : ((n.map nkey).any fun p=>p.1 == k) = false:=by refine rr (List.any_map ..) ?_;exact h
 unfold dput
 refine rr h' ?_
 simp [nkey]
theorem set_one {α : Type} (A : List α) (x y z : α) (r : List α) {n : Nat} (h : A.length = n) : (x :: (A ++ y :: r)).set (n + 1) z = x :: (A ++ z :: r):=by
 refine rr (List.set_cons_succ ..) ?_;refine rr (set_app' _ _ _ _ h ..) ?_;rfl
theorem erase_app {α : Type} (A : List α) (x : α) (r : List α) : (A ++ x :: r).eraseIdx A.length = A ++ r:=by
 induction A with
 | nil=>rfl
 | cons a A ih=>simp only [List.cons_append,List.length_cons,List.eraseIdx_cons_succ,ih]
theorem erase_app' {α : Type} (A : List α) (x : α) (r : List α) {n : Nat} (h : A.length = n) : (A ++ x :: r).eraseIdx n = A ++ r:=h ▸ erase_app A x r
noncomputable def nd0 (na : Addr) (n : Nds) : Addr × Cell:=(na,.dct (n.map nkey))
section
variable {mg mb : Str→Option Value}
theorem EV.compC2 (Ok : Φ.Ok) (hh : Φ.hd = none) {elt iter : Expr} {ifs : List Expr} {scope : Scope} {pos : Pos} (hs : scopeC scope = true) (hc : capOk Φ.slots scope.names = true) (hfs : ∀ x,foldedSetIterable iter Φ.env x = Pure.pure x) {Q : QV}
  {x y : Str} {px py pt : Pos} {kt : Nat} {i j : Nat} (hi : (slotsC Φ.slots scope.names)[i]? = some (x,none)) (hj : (slotsC Φ.slots scope.names)[j]? = some (y,none)) {α : Type} (emb : α→V × V) (p : α→Bool) (f : α→V)
  (h : IE2 prog w C Φ iter ρ σ (QCF2 prog w C Φ ρ scope ifs elt i j emb p f (kAllD (kNewC Q)))) :
  EV prog w C Φ (.ListComp elt [⟨.Tuple [.Name x px,.Name y py] kt pt,iter,ifs,0⟩] scope pos) ρ σ Q :=
 EV.comp Ok hs hc hfs (nd:=[]) (ITC.pure2 Ok hh hs hc hi hj emb p f (Q:=kNewC Q) h)
inductive J14_1 (known : List (List Nat)) (t' : Tbl) (n' : Nds) (da : Addr) (na : Addr) (σr : St) (fo : V) (rest : List (List Nat)) (ρ₁ : List (Option V)) (σ₁ : St) : Prop
 | mk (es : _) (n : _) (x3 : _) (h0 : news2 rest (es.map (·.2)) n = some (t',n')) (h1 : es.length ≤ 100) (h2 : n.length + rest.length ≤ 100) (h3 : ρ₁ = [some fo,some (.lst (known.map .str)),some (.ref da),x3,some (.ref na),none,none,none,none,none,none]) (h4 : σ₁ = NS da (nd0 na n :: σr) es)
theorem news_two {L f : Addr} {cdv : Value} (Ok : (Φ.enter d_news L f cdv).Ok) (G : Gl Φ.h₀ mg mb) (hh : Φ.hd = none) (hl : 4 ≤ Φ.lvl) {known : List (List Nat)} (hz : known.length ≤ 100) {t t' : Tbl} {n' : Nds} {es₀ : List Tent} (hes₀ : es₀.map (·.2) = t) (hel : es₀.length ≤ 100) (ht : news2 (vpick known none none (some (-1))) t [] = some (t',n')) {da na : Addr} {σr : St} (hfree : ∀ p∈σr,CFree p.2) {fo : V} {x3 : Option V}
  {Q : QX} (q : ∀ es x3,es.map (·.2) = t'→es.length ≤ 100→Q .next [some fo,some (.lst (known.map .str)),some (.ref da),x3,some (.ref na),none,none,none,none,none,none] (NS da (nd0 na n' :: σr) es)) :
  EX1 prog w C (Φ.enter d_news L f cdv) (newsStmt 4) [some fo,some (.lst (known.map .str)),some (.ref da),x3,some (.ref na),none,none,none,none,none,none] (NS da (nd0 na [] :: σr) es₀) Q:=by
 haveI hl2 : 2 ≤ (Φ.enter d_news L f cdv).lvl:=by show 2 ≤ Φ.lvl - 1;lia
 haveI hl3 : 3 ≤ (Φ.enter d_news L f cdv).lvl:=by show 3 ≤ Φ.lvl - 1;lia
 haveI hh : (Φ.enter d_news L f cdv).hd = none:=hh
 haveI G : Gl (Φ.enter d_news L f cdv).h₀ mg mb:=G
 haveI s0 : Sl (Φ.enter d_news L f cdv) 0 "found" none:=rfl
 haveI s1 : Sl (Φ.enter d_news L f cdv) 1 "known" none:=rfl
 haveI s2 : Sl (Φ.enter d_news L f cdv) 2 "below" (some (L + 1)):=rfl
 haveI s3 : Sl (Φ.enter d_news L f cdv) 3 "address" none:=rfl
 haveI s4 : Sl (Φ.enter d_news L f cdv) 4 "needs" (some (L + 1 + 1)):=rfl
 haveI s5 : Sl (Φ.enter d_news L f cdv) 5 "told" none:=rfl
 haveI s6 : Sl (Φ.enter d_news L f cdv) 6 "mail" none:=rfl
 haveI s7 : Sl (Φ.enter d_news L f cdv) 7 "turn" none:=rfl
 haveI s8 : Sl (Φ.enter d_news L f cdv) 8 "fresh" none:=rfl
 haveI s9 : Sl (Φ.enter d_news L f cdv) 9 "pairs" none:=rfl
 haveI s10 : Sl (Φ.enter d_news L f cdv) 10 "row" none:=rfl
 refine EX1.for1 Ok (i:=3) rfl (.inl rfl) (fun _=>rfl) V.str ?_
 refine IE1.list hh ?_
 walk_at "e"
 walk_at "e"
 walk_at "e"
 walk_at "e"
 walk_at "e"
 refine EV.neg (EV.int ⟨_,rfl,_,rfl,known.map .str,.inl rfl,by decide,sl _ (by simp;lia),?_⟩)
 refine ⟨_,rfl,vpick known none none (some (-1)),(J14_1 known t' n' da na σr fo),vpick_map V.str known _ _ _,⟨es₀,[],_,hes₀ ▸ ht,hel,by have:=vpick_len known none none (some (-1));simp;lia,rfl,rfl⟩,?_,?_⟩
 ·rintro address rest _ _ hsuf ⟨es,n,x3,hd,hel,hnl,rfl,rfl⟩
  simp only [List.length_cons] at hnl
  rw [news2_c] at hd
  cases hlk : (es.map (·.2)).lookup address with
  | none=>replace hd:=hlk ▸ hd;exact nsm hd
  | some ch =>
  replace hd:=hlk ▸ hd
  dsimp only at hd
  by_cases hck : ((ch.all fun o=>(n.lookup o).isSome) && decide (ch.length < 64) && (!(n.any fun e=>e.1 == address)) && decide (((es.map (·.2)).map (·.1)).Nodup)) = true
  ·replace hd:=(if_pos hck ..) ▸ hd
   simp only [Bool.and_eq_true,decide_eq_true_eq,Bool.not_eq_true'] at hck
   obtain ⟨⟨⟨hall,hc64⟩,hnn⟩,hnd⟩:=hck
   cases hso : sortO ltP (0,[]) (ch.map fun o=>(-((n.lookup o).getD 0),o)) with
   | none=>replace hd:=hso ▸ hd;exact nsm hd
   | some sp =>
   replace hd:=hso ▸ hd
   dsimp only at hd
   by_cases hck2 : (((sp.map (·.2)).all fun o=>(n.lookup o).isSome) && decide (sp.length < 64)) = true
   ·replace hd:=(if_pos hck2 ..) ▸ hd
    simp only [Bool.and_eq_true,decide_eq_true_eq] at hck2
    obtain ⟨hall2,hs64⟩:=hck2
    obtain ⟨A,e,B,rfl,rfl,rfl,hA⟩:=lookup_split hlk
    haveI get : ∀ {l : List (List Nat)},(l.all fun o=>(n.lookup o).isSome) = true→∀ o∈l,n.lookup o = some ((n.lookup o).getD 0):=fun h o ho=>by
     haveI:=List.all_eq_true.mp h o ho
     cases z : n.lookup o with
     | none=>replace this:=z ▸ this;exact ftm this
     | some i=>rfl
    haveI hnd' : ((A ++ e :: B).map (·.2.1)).Nodup:=by replace hnd:=(List.map_map ..) ▸ hnd;exact hnd
    haveI hABl : A.length + B.length + 1 ≤ 100:=by simp at hel;lia
    refine EX.cons (EX1.asg rfl rfl rfl (EV.compC2 Ok hh (by decide +kernel) rfl (fun _=>rfl) (i:=1) (j:=2) rfl rfl (fun p : Int × List Nat=>(V.int p.1,V.str p.2)) (fun _=>true) (fun p=>V.str p.2) ?_))
    refine IE2.pairs hh ?_
    walk_at "e"
    refine EA.cons rfl (EV.compF Ok (by decide +kernel) rfl (fun _=>rfl) (i:=1) rfl V.str (fun _=>true) (fun o=>VP (-((n.lookup o).getD 0),o)) ?_)
    refine IE1.list hh (EV.freeze (EV.sub ?_))
    walk_at "e"
    walk_at "e"
    refine ⟨⟨"dict",.inr ⟨_,NS_dict,rfl⟩⟩,GI.dct NS_dict (dval_split hA) ?_⟩
    refine ⟨e.1,e.2.2.map .str,B.length,rfl,by refine rr (NS_split ..) ?_;exact get_app' _ _ _ (by simp),_,rfl,e.2.2,rfl,sl _ (by lia),fun o ho L' D ys OkC=>⟨rfl,?_⟩,?_⟩
    ·refine rr (NS_split ..) ?_;refine rr (erase_app' _ _ _ (by simp) ..) ?_
     refine EV.tupF (EA.cons rfl (EV.neg (EV.sub (EV.name OkC (i:=2) rfl rfl (EV.name OkC (i:=1) rfl rfl ⟨⟨"dict",.inr ⟨_,.tail _ (List.mem_append_right _ (List.mem_append_right _ (.tail _ (.head _)))),rfl⟩⟩,?_⟩)))))
     refine GI.dct (.tail _ (List.mem_append_right _ (List.mem_append_right _ (.tail _ (.head _))))) (dval_int (get hall o ho)) ⟨_,rfl,?_⟩
     exact EA.cons rfl (EV.name OkC (i:=1) rfl rfl (EA.nil ⟨sl 2 (by decide),rfl,rfl⟩))
    ·refine rr (NS_split ..) ?_;refine rr (erase_app' _ _ _ (by simp) ..) ?_
     refine rr (show (e.2.2.filter fun _=>true) = e.2.2 from List.filter_eq_self.mpr fun _ _=>rfl ..) ?_
     haveI hmm : (e.2.2.map fun o=>VP (-((n.lookup o).getD 0),o)) = (e.2.2.map fun o=>(-((n.lookup o).getD 0),o)).map VP:=by refine rr (List.map_map ..) ?_;rfl
     refine EA.nil (BJ.sortedP (xs:=e.2.2.map fun o=>(-((n.lookup o).getD 0),o)) (.inl (by refine rr hmm ?_;rfl)) (by simpa using hc64) hso ?_)
     refine ⟨sp.map fun p=>(.int p.1,.str p.2),by refine rr (List.map_map ..) ?_;rfl,sp,rfl,sl _ (by lia),fun p hp L' D ys OkC=>⟨rfl,EV.name OkC (i:=2) rfl rfl ⟨rfl,rfl⟩⟩,fun D=>?_⟩
     refine rr (show (sp.filter fun _=>true) = sp from List.filter_eq_self.mpr fun _ _=>rfl ..) ?_
     refine AS.sub (fun _=>rfl) ?_
     walk_at "e"
     walk_at "e"
     refine SI.dct (i:=A.length + B.length + 1) (es:=(A ++ e :: B).map tkey) (by refine rr (List.getElem?_cons_succ ..) ?_;refine rl (List.append_assoc ..) ?_;exact get_app' _ _ _ (by simp;lia)) (by simp;lia) ?_
     rw [← List.append_assoc (B.reverse.map tent)];refine rr (set_one (B.reverse.map tent ++ A.reverse.map tent) _ _ _ _ (by simp;lia) ..) ?_;refine rr (dput_old (ch:=sp.map (·.2)) hnd' ..) ?_;refine rr (List.append_assoc ..) ?_
     haveI htD : (D,Cell.lst (sp.map fun p=>V.str p.2)) = tent (D,e.2.1,sp.map (·.2)):=by simp [tent,Function.comp_def]
     refine rr htD ?_
     refine EX.reorder (σ':=NS da (nd0 na n :: σr) (A ++ (D,e.2.1,sp.map (·.2)) :: B)) (by refine rr (NS_split ..) ?_;exact List.perm_middle.symm) ?_
     haveI hchl : (sp.map (·.2)).length = sp.length:=by simp
     generalize hch : sp.map (·.2) = ch at hd hall2 hchl ⊢
     haveI hpc:=putCh_split (B:=B) (ch:=ch) (D:=D) hA
     replace hd:=hpc ▸ hd
     refine EX.cons (EX1.asg rfl rfl rfl (EV.pin (i:=B.length) (a:=D) (xs:=ch.map .str) (by refine rr (NS_split ..) ?_;exact get_app' _ _ _ (by simp)) (fun x hx=>?_) (fun p hp=>?_) fun h' hb hpin=>?_))
     ·obtain ⟨y,_,rfl⟩:=List.mem_map.mp hx
      exact Free.str _
     ·rcases List.mem_append.mp hp with hp | hp
      ·obtain ⟨y,_,rfl⟩:=List.mem_map.mp hp
       exact CFree.lst fun x hx=>by
        obtain ⟨z,_,rfl⟩:=List.mem_map.mp hx
        exact Free.str _
      ·rcases List.mem_cons.mp hp with rfl | hp
       ·exact CFree.dct fun x hx=>by
         obtain ⟨z,_,rfl⟩:=List.mem_map.mp hx
         exact Free.ref _
       ·rcases List.mem_cons.mp hp with rfl | hp
        ·exact CFree.dct fun x hx=>by
          obtain ⟨z,_,rfl⟩:=List.mem_map.mp hx
          exact Free.int _
        ·exact hfree p hp
     haveI Okp : ((Φ.enter d_news L f cdv).pin h').Ok:=Ok.pin h'
     haveI Tp : Tx ((Φ.enter d_news L f cdv).pin h').h₀ mg mb:=Tx.keeps G.tx hb
     haveI hhp : ((Φ.enter d_news L f cdv).pin h').hd = none:=hh
     haveI p2 : ((Φ.enter d_news L f cdv).pin h').slots[2]? = some (Str.ofString "below",some (L + 1)):=s2
     haveI p3 : ((Φ.enter d_news L f cdv).pin h').slots[3]? = some (Str.ofString "address",none):=s3
     haveI her : (NS da (nd0 na n :: σr) (A ++ (D,e.2.1,ch) :: B)).eraseIdx B.length = B.reverse.map tent ++ (A.reverse.map tent ++ (da,Cell.dct ((A ++ (D,e.2.1,ch) :: B).map tkey)) :: nd0 na n :: σr):=by refine rr (NS_split ..) ?_;refine rr (erase_app' _ _ _ (by simp) ..) ?_;rfl
     refine rr her ?_
     refine EV.bB .max Okp rfl Tp G.nb rfl rfl rfl (EA.cons rfl (EV.op (EV.lstF (EA.cons rfl (EV.int (EA.nil ⟨sl 1 (by simp),?_⟩))))))
     refine EV.compF2 Okp hhp (by decide +kernel) rfl (fun _=>rfl) (i:=1) (j:=2) rfl rfl (fun p : Int × List Nat=>(V.int p.1,V.str p.2)) (fun _=>true) (fun p=>V.int (p.1 + 1 + (n.lookup p.2).getD 0)) ?_
     refine IE2.bT .enumerate Okp rfl Tp G.nb rfl rfl rfl (EA.cons rfl (EV.pinned hpin (EV.sub (EV.name Okp p2 rfl (EV.name Okp p3 rfl ?_)))))
     haveI hdm : (da,Cell.dct ((A ++ (D,e.2.1,ch) :: B).map tkey))∈B.reverse.map tent ++ (A.reverse.map tent ++ (da,Cell.dct ((A ++ (D,e.2.1,ch) :: B).map tkey)) :: nd0 na n :: σr):=List.mem_append_right _ (List.mem_append_right _ (.head _))
     refine ⟨⟨"dict",.inr ⟨_,hdm,rfl⟩⟩,GI.dct hdm (dval_split (e:=(D,e.2.1,ch)) hA) ⟨rfl,EA.nil (IB2.enumerate hhp ?_)⟩⟩
     refine ⟨enumN ch,enum_str,sl _ (by refine rr enumN_len ?_;lia),fun p hp L' D' ys OkC=>⟨rfl,?_⟩,?_⟩
     ·refine EV.op (EV.op (EV.name OkC (i:=1) rfl rfl (EV.int (OP.addI ?_))))
      refine EV.sub (EV.name OkC (i:=3) rfl rfl (EV.name OkC (i:=2) rfl rfl ⟨⟨"dict",.inr ⟨_,.tail _ (List.mem_append_right _ (List.mem_append_right _ (.tail _ (.head _)))),rfl⟩⟩,?_⟩))
      exact GI.dct (.tail _ (List.mem_append_right _ (List.mem_append_right _ (.tail _ (.head _))))) (dval_int (get hall2 _ (enumN_mem hp))) (OP.addI ⟨rfl,rfl⟩)
     refine rr (show ((enumN ch).filter fun _=>true) = enumN ch from List.filter_eq_self.mpr fun _ _=>rfl ..) ?_
     refine OP.addL (.inl rfl) (.inl rfl) (sl _ (by simp [enumN_len];lia)) (EA.nil (BJ.maxO hhp (ns:=0 :: (enumN ch).map fun p=>p.1 + 1 + (n.lookup p.2).getD 0) (.inl (by simp [Function.comp_def])) (by simp) ⟨Free.int _,rfl,?_⟩))
     refine AS.sub (fun _=>rfl) ?_
     walk_at "e"
     walk_at "e"
     refine SI.dct (i:=A.length + B.length + 2) (es:=n.map nkey) ?_ ?_ ?_
     ·unfold NS
      refine rr (List.getElem?_append_right (by simp;lia) ..) ?_
      haveI : A.length + B.length + 2 - ((A ++ (D,e.2.1,ch) :: B).reverse.map tent).length = 1:=by simp;lia
      refine rr this ?_
      rfl
     ·simp;lia
     ·haveI hset : (NS da (nd0 na n :: σr) (A ++ (D,e.2.1,ch) :: B)).set (A.length + B.length + 2) (na,.dct (dput (n.map nkey) e.2.1 (.int (needOf n ch)))) = NS da (nd0 na (n ++ [(e.2.1,needOf n ch)]) :: σr) (A ++ (D,e.2.1,ch) :: B):=by
       refine rr (dput_int hnn ..) ?_
       unfold NS
       refine rr (List.set_append_right _ _ (by simp;lia) ..) ?_
       haveI : A.length + B.length + 2 - ((A ++ (D,e.2.1,ch) :: B).reverse.map tent).length = 1:=by simp;lia
       refine rr this ?_
       rfl
      refine rr (show maxOf (0 :: (enumN ch).map fun p=>p.1 + 1 + (n.lookup p.2).getD 0) = needOf n ch from rfl ..) ?_;refine rr hset ?_
      exact EX.nil ⟨_,_,_,hd,by simp;lia,by simp;lia,rfl,rfl⟩
   ·replace hd:=(if_neg hck2 ..) ▸ hd
    exact nsm hd
  ·replace hd:=(if_neg hck ..) ▸ hd
   exact nsm hd
 ·rintro _ _ ⟨es,n,x3,hd,hel,hnl,rfl,rfl⟩
  replace hd:=Prod.mk.inj (si hd)
  obtain ⟨h1,rfl⟩:=hd
  exact q es x3 h1 hel
end
noncomputable def popAll : List (List Nat)→Tbl→Option (List (List Nat) × Tbl)
 | [],t=>some ([],t)
 | a :: r,t =>
  match t.lookup a with
  | none=>none
  | some []=>popAll r t
  | some (c :: cs) =>
   match popAll r (putCh a cs t) with
   | none=>none
   | some (f,t')=>some (c :: f,t')
theorem popAll_c {a r t} : popAll (a :: r) t = (match t.lookup a with
  | none=>none
  | some []=>popAll r t
  | some (c :: cs) =>
   match popAll r (putCh a cs t) with
   | none=>none
   | some (f,t')=>some (c :: f,t')):=rfl
noncomputable def smallB (l : List Nat) : Bool:=l.all fun c=>decide (c < 256)
theorem smallB_iff {l : List Nat} (h : smallB l = true) : Small l:=fun c hc=>by simpa using List.all_eq_true.mp h c hc
noncomputable def addOf (fresh : List (List Nat)) : List Nat:=glue [] (fresh.map fun o=>[46] ++ o)
noncomputable def news3 : Nat→List (List Nat)→List Nat→Tbl→Option (List Nat)
 | 0,_,mail,_=>if decide (mail.length ≤ 10000) && smallB mail then some mail else none
 | k + 1,told,mail,t =>
  if decide (mail.length ≤ 10000) && smallB mail && decide (told.length ≤ 1000) && decide (t.length ≤ 1000) && (t.all fun e=>decide (e.2.length ≤ 1000)) then
   match popAll told t with
   | none=>none
   | some (fresh,t') =>
    if decide (fresh.length ≤ 100) && (fresh.all fun o=>decide (o.length ≤ 1000)) && smallB (addOf fresh) && decide ((addOf fresh).length ≤ 100000) && smallB (dotsOf mail) && decide ((dotsOf mail).length ≤ 100000) then
     news3 k (told ++ fresh) (dotsOf mail ++ addOf fresh) t'
    else none
  else none
theorem news3_c {k told mail t} : news3 (k + 1) told mail t = (if decide (mail.length ≤ 10000) && smallB mail && decide (told.length ≤ 1000) && decide (t.length ≤ 1000) && (t.all fun e=>decide (e.2.length ≤ 1000)) then
   match popAll told t with
   | none=>none
   | some (fresh,t') =>
    if decide (fresh.length ≤ 100) && (fresh.all fun o=>decide (o.length ≤ 1000)) && smallB (addOf fresh) && decide ((addOf fresh).length ≤ 100000) && smallB (dotsOf mail) && decide ((dotsOf mail).length ≤ 100000) then
     news3 k (told ++ fresh) (dotsOf mail ++ addOf fresh) t'
    else none
  else none):=rfl
noncomputable def freshScope : Scope:=match newsStmt 7 with
 | .For _ _ (.Assign _ (.ListComp _ _ sc _) _ :: _) _ _=>sc
 | _=>d_news.scope
section
variable {mg mb : Str→Option Value}
inductive J15_1 (mail' : List Nat) (n : Nds) (da : Addr) (na : Addr) (σr : St) (fo : V) (kn : V) (rest : List Int) (ρ₁ : List (Option V)) (σ₁ : St) : Prop
 | mk (es : _) (told : _) (m : _) (x3 : _) (x7 : _) (x8 : _) (h0 : news3 rest.length told m (es.map (·.2)) = some mail') (h1 : ρ₁ = [some fo,some kn,some (.ref da),x3,some (.ref na),some (.lst (told.map V.str)),some (VB m),x7,x8,none,none]) (h2 : σ₁ = NS da (nd0 na n :: σr) es)
theorem news_three {L f : Addr} {cdv : Value} (Ok : (Φ.enter d_news L f cdv).Ok) (G : Gl Φ.h₀ mg mb) (X : Rx Φ.h₀ mg) (hh : Φ.hd = none) (hl : 4 ≤ Φ.lvl) {mail mail' : List Nat} {n : Nds} {t : Tbl} {es₀ : List Tent} (hes₀ : es₀.map (·.2) = t) {k : Int} (hk : n.lookup [48,10] = some k) (hk2 : 0 ≤ k∧k ≤ 1000)
  (ht : news3 k.toNat [[48,10]] mail t = some mail') {da na : Addr} {σr : St} {fo kn : V} {x3 : Option V}
  {Q : QX} (q : ∀ es x3 x5 x7 x8,Q .next [some fo,some kn,some (.ref da),x3,some (.ref na),x5,some (VB mail'),x7,x8,none,none] (NS da (nd0 na n :: σr) es)) :
  EX1 prog w C (Φ.enter d_news L f cdv) (newsStmt 7) [some fo,some kn,some (.ref da),x3,some (.ref na),some (.lst ([[48,10]].map V.str)),some (VB mail),none,none,none,none] (NS da (nd0 na n :: σr) es₀) Q:=by
 haveI hl2 : 2 ≤ (Φ.enter d_news L f cdv).lvl:=by show 2 ≤ Φ.lvl - 1;lia
 haveI hl3 : 3 ≤ (Φ.enter d_news L f cdv).lvl:=by show 3 ≤ Φ.lvl - 1;lia
 haveI hh : (Φ.enter d_news L f cdv).hd = none:=hh
 haveI G : Gl (Φ.enter d_news L f cdv).h₀ mg mb:=G
 haveI X : Rx (Φ.enter d_news L f cdv).h₀ mg:=X
 haveI s0 : Sl (Φ.enter d_news L f cdv) 0 "found" none:=rfl
 haveI s1 : Sl (Φ.enter d_news L f cdv) 1 "known" none:=rfl
 haveI s2 : Sl (Φ.enter d_news L f cdv) 2 "below" (some (L + 1)):=rfl
 haveI s3 : Sl (Φ.enter d_news L f cdv) 3 "address" none:=rfl
 haveI s4 : Sl (Φ.enter d_news L f cdv) 4 "needs" (some (L + 1 + 1)):=rfl
 haveI s5 : Sl (Φ.enter d_news L f cdv) 5 "told" none:=rfl
 haveI s6 : Sl (Φ.enter d_news L f cdv) 6 "mail" none:=rfl
 haveI s7 : Sl (Φ.enter d_news L f cdv) 7 "turn" none:=rfl
 haveI s8 : Sl (Φ.enter d_news L f cdv) 8 "fresh" none:=rfl
 haveI s9 : Sl (Φ.enter d_news L f cdv) 9 "pairs" none:=rfl
 haveI s10 : Sl (Φ.enter d_news L f cdv) 10 "row" none:=rfl
 refine EX1.for1 Ok (i:=7) rfl (.inl rfl) (fun _=>rfl) V.int ?_
 walk_at "e"
 refine EA.cons rfl (EV.sub ?_)
 walk_at "e"
 haveI hna : ∀ {es : List Tent},(na,Cell.dct (n.map nkey))∈NS da (nd0 na n :: σr) es:=List.mem_append_right _ (.tail _ (.head _))
 refine EV.str (l:=[48,10]) (by decide +kernel) ⟨⟨"dict",.inr ⟨_,hna,rfl⟩⟩,GI.dct hna (dval_int hk) (EA.nil (IB1.range1 hh (by lia) ?_))⟩
 refine ⟨rng 0 k,(J15_1 mail' n da na σr fo kn),rfl,⟨es₀,_,_,_,_,_,by refine rr rng_len ?_;refine rr hes₀ ?_;simpa using ht,rfl,rfl⟩,?_,?_⟩
 ·rintro turn rest _ _ hsuf ⟨es,told,m,x3,x7,x8,hd,rfl,rfl⟩
  replace hd:=(List.length_cons ..) ▸ hd;rw [news3_c] at hd
  by_cases hc : (decide (m.length ≤ 10000) && smallB m && decide (told.length ≤ 1000) && decide ((es.map (·.2)).length ≤ 1000) && ((es.map (·.2)).all fun e=>decide (e.2.length ≤ 1000))) = true
  ·replace hd:=(if_pos hc ..) ▸ hd
   simp only [Bool.and_eq_true,decide_eq_true_eq] at hc
   obtain ⟨⟨⟨⟨hm1,hm2⟩,htl⟩,hesl⟩,hchl⟩:=hc
   haveI hchl' : ∀ e∈es.map (·.2),e.2.length ≤ 1000:=fun e he=>by simpa using List.all_eq_true.mp hchl e he
   cases hpa : popAll told (es.map (·.2)) with
   | none=>replace hd:=hpa ▸ hd;exact nsm hd
   | some ft =>
   obtain ⟨fresh,t'⟩:=ft
   replace hd:=hpa ▸ hd
   dsimp only at hd
   by_cases hc2 : (decide (fresh.length ≤ 100) && (fresh.all fun o=>decide (o.length ≤ 1000)) && smallB (addOf fresh) && decide ((addOf fresh).length ≤ 100000) && smallB (dotsOf m) && decide ((dotsOf m).length ≤ 100000)) = true
   ·replace hd:=(if_pos hc2 ..) ▸ hd
    simp only [Bool.and_eq_true,decide_eq_true_eq] at hc2
    obtain ⟨⟨⟨⟨⟨hf1,hf2⟩,hf3⟩,hf4⟩,hf5⟩,hf6⟩:=hc2
    haveI hf2' : ∀ o∈fresh,o.length ≤ 1000:=fun o ho=>by simpa using List.all_eq_true.mp hf2 o ho
    haveI hsc : (Φ.enter d_news L f cdv).slots = (Φ.enter d_news L f cdv).slots:=rfl
    refine EX.cons (EX1.assignComp Ok (scope:=freshScope) (by decide +kernel) rfl (fun _=>rfl) s8 rfl (nd:=[]) (ITC.one Ok (by decide +kernel) rfl (i:=1) rfl (IE1.list hh ?_)))
    walk_at "e"
    refine ⟨_,rfl,fun k ys ρ₁ σ₁=>∃ (es : List Tent) (done f : List (List Nat)),popAll (told.drop k) (es.map (·.2)) = some (f,t')∧done ++ f = fresh∧ys = done.map V.str∧done.length ≤ k∧(∀ e∈es,e.2.2.length ≤ 1000)∧(∃ x,ρ₁ = [none,x,some (.ref da)])∧σ₁ = NS da (nd0 na n :: σr) es,⟨es,[],fresh,hpa,rfl,rfl,Nat.le_refl _,fun e he=>hchl' _ (List.mem_map_of_mem he),⟨_,rfl⟩,rfl⟩,fun _ _ _ _ _ p hp=>(nomatch hp),fun k ys ρ₁ σ₁ L' D OkC hk hJ=>?_,fun D ys ρ₁ σ₁ hJ=>?_⟩
    ·obtain ⟨es,done,f,hp,hdf,rfl,hdl,hcl,⟨x,rfl⟩,rfl⟩:=hJ
     haveI hk' : k < told.length:=by simpa using hk
     replace hp:=(List.drop_eq_getElem_cons hk' ..) ▸ hp;rw [popAll_c] at hp
     haveI hget : (told.map V.str)[k]? = some (V.str told[k]):=by refine rr (List.getElem?_map ..) ?_;refine rr (List.getElem?_eq_getElem hk' ..) ?_;rfl
     show CB _ _ _ _ _ _ _ _ _ ([none,x,some (.ref da)].set 1 ((told.map V.str)[k]?)) _ _
     refine rr hget ?_
     show CB _ _ _ _ _ _ _ _ _ [none,some (V.str told[k]),some (.ref da)] _ _
     cases hlk : (es.map (·.2)).lookup told[k] with
     | none=>replace hp:=hlk ▸ hp;exact nsm hp
     | some ch =>
     replace hp:=hlk ▸ hp
     obtain ⟨A,e,B,rfl,he1,rfl,hA⟩:=lookup_split hlk
     haveI hdm : ∀ {y : Addr × Cell},(da,Cell.dct ((A ++ e :: B).map tkey))∈y :: NS da (nd0 na n :: σr) (A ++ e :: B):=.tail _ NS_dict
     haveI hcm : ∀ {y : Addr × Cell},(e.1,Cell.lst (e.2.2.map V.str))∈y :: NS da (nd0 na n :: σr) (A ++ e :: B):=.tail _ (by refine rr (NS_split ..) ?_;exact List.mem_append_right _ (.head _))
     haveI hdv : dval ((A ++ e :: B).map tkey) told[k] = some (.ref e.1):=by refine rl he1 ?_;exact dval_split fun x hx=>by refine rr he1 ?_;exact hA x hx
     refine CB.one (ET.co rfl (EV.sub (EV.name OkC (i:=2) rfl rfl (EV.name OkC (i:=1) rfl rfl ⟨⟨"dict",.inr ⟨_,hdm,rfl⟩⟩,GI.dct hdm hdv ?_⟩))))
     refine EV.lstF (EA.nil ⟨sl 0 (by decide),CO.neLS (xs:=e.2.2) (ys:=[]) (.inr ⟨e.1,rfl,hcm⟩) (.inl rfl) ?_⟩)
     refine ⟨_,.refl _,?_⟩
     cases hch : e.2.2 with
     | nil =>
      replace hp:=hch ▸ hp
      simp only [decide_true,Bool.not_true,Bool.false_eq_true,if_false]
      exact ⟨_,done,f,hp,hdf,rfl,by lia,hcl,⟨_,rfl⟩,rfl⟩
     | cons c cs =>
      replace hp:=hch ▸ hp
      dsimp only at hp
      refine rr (show decide ((c :: cs) = ([] : List (List Nat))) = false from rfl ..) ?_
      simp only [Bool.not_false,if_true]
      cases hp2 : popAll (told.drop (k + 1)) (putCh told[k] cs ((A ++ e :: B).map (·.2))) with
      | none=>replace hp:=hp2 ▸ hp;exact nsm hp
      | some ft =>
      replace hp:=hp2 ▸ hp
      cases hp
      haveI hput:=putCh_split (B:=B) (ch:=cs) (D:=e.1) (e:=e) (fun x hx=>by refine rr he1 ?_;exact hA x hx)
      replace hput:=he1 ▸ hput
      replace hp2:=hput ▸ hp2
      haveI hce:=hcl e (List.mem_append_right _ (.head _))
      rw [hch] at hce hcm
      refine CT.emit (sl _ (by simp;lia)) (EV.meth .pop rfl rfl rfl (EV.sub (EV.name OkC (i:=2) rfl rfl (EV.name OkC (i:=1) rfl rfl ⟨⟨"dict",.inr ⟨_,hdm,rfl⟩⟩,GI.dct hdm hdv ?_⟩))))
      refine ⟨.inl ⟨_,hcm,rfl⟩,EA.cons rfl (EV.int (EA.nil ?_))⟩
      refine BJ.pop0 (i:=B.length + 1) (x:=.str c) (xs:=cs.map V.str) ?_ (Nat.lt_of_le_of_lt (by simp at hce ⊢;lia : _ ≤ 1000) (by refine rr sizeLine_eq ?_;decide)) ?_
      ·refine rr (List.getElem?_cons_succ ..) ?_;refine rr (NS_split ..) ?_
       haveI:=get_app' (B.reverse.map tent) (tent e) (A.reverse.map tent ++ (da,.dct ((A ++ e :: B).map tkey)) :: nd0 na n :: σr) (n:=B.length) (by simp)
       refine rr this ?_
       unfold tent
       refine rr hch ?_
       rfl
      ·refine ⟨NS da (nd0 na n :: σr) (A ++ (e.1,e.2.1,cs) :: B),?_,?_⟩
       ·haveI hset : ((D,Cell.lst (done.map V.str)) :: NS da (nd0 na n :: σr) (A ++ e :: B)).set (B.length + 1) (e.1,Cell.lst (cs.map V.str)) = (D,Cell.lst (done.map V.str)) :: NS da (nd0 na n :: σr) (A ++ (e.1,e.2.1,cs) :: B):=by
         haveI : (A ++ e :: B).map tkey = (A ++ (e.1,e.2.1,cs) :: B).map tkey:=by simp [tkey]
         refine rr (NS_split ..) ?_;refine rr (set_one _ _ _ _ _ (by simp) ..) ?_;refine rr (NS_split ..) ?_;refine rr this ?_
         rfl
        refine rr hset ?_
        exact .refl _
       ·refine ⟨A ++ (e.1,e.2.1,cs) :: B,done ++ [c],ft.1,?_,by refine rl hdf ?_;simp,by simp,by simp;lia,fun y hy=>?_,⟨_,rfl⟩,rfl⟩
        ·refine rr he1 ?_
         exact hp2
        ·rcases List.mem_append.mp hy with hy | hy
         ·exact hcl y (List.mem_append_left _ hy)
         ·rcases List.mem_cons.mp hy with rfl | hy
          ·simp at hce ⊢;lia
          ·exact hcl y (List.mem_append_right _ (.tail _ hy))
    ·obtain ⟨es,done,f,hp,hdf,rfl,hdl,hcl,_,rfl⟩:=hJ
     replace hp:=(List.length_map ..) ▸ hp;replace hp:=(List.drop_length ..) ▸ hp;replace hp:=Prod.mk.inj (si hp)
     obtain ⟨rfl,rfl⟩:=hp
     replace hdf:=(List.append_nil ..) ▸ hdf
     subst hdf
     refine EX.cons (EX1.assign Ok (i:=6) rfl (.inl rfl) rfl (EV.op (EV.f_quote Ok G hl2 rfl rfl ?_)))
     walk_at "e"
     walk_at "e"
     walk_at "e"
     refine ⟨rfl,quote_fn G X hh hl3 hm1 (smallB_iff hm2) ?_⟩
     walk_at "e"
     refine EA.cons rfl (EV.compM Ok (by decide +kernel) rfl (fun _=>rfl) (i:=1) rfl (fun c=>V.str [c]) (fun (c : Nat)=>V.int c) (IE1.str hh ?_))
     refine EV.meth .join rfl rfl rfl (EV.str (l:=[]) (by decide +kernel) ⟨rfl,EA.cons rfl ?_⟩)
     refine EV.compM Ok (by decide +kernel) rfl (fun _=>rfl) (i:=1) rfl V.str (fun o=>V.str ([46] ++ o)) (IE1.list hh ?_)
     walk_at "e"
     refine ⟨_,rfl,done,rfl,sl _ (by lia),fun o ho L' D' ys OkC=>?_,?_⟩
     ·haveI:=hf2' o ho
      exact EV.op (EV.str (l:=[46]) (by decide +kernel) (EV.name OkC (i:=1) rfl rfl (OP.addS (sl _ (by simp;lia)) ⟨rfl,rfl⟩)))
     walk_at "e"
     refine BJ.joinS (ss:=done.map fun o=>[46] ++ o) (m:=1001) (.inl (by refine rr (List.map_map ..) ?_;rfl)) (fun s hs=>?_) (by simp;lia) ?_
     ·obtain ⟨o,ho,rfl⟩:=List.mem_map.mp hs
      haveI:=hf2' o ho
      simp;lia
     refine ⟨_,rfl,addOf done,rfl,sl _ (by lia),fun c hc' L' D' ys OkC=>?_,?_⟩
     ·exact EV.bB .ord OkC rfl G.tx G.nb rfl rfl rfl (EA.cons rfl (EV.name OkC (i:=1) rfl rfl (EA.nil (BJ.ord ⟨rfl,rfl⟩))))
     walk_at "e"
     refine BT.bytes hh (l:=addOf done) (.inl rfl) (smallB_iff hf3) (by lia) (OP.addB (by lia) ?_)
     refine EX.cons (EX1.assign Ok (i:=5) rfl (.inl rfl) rfl ?_)
     walk_at "e"
     walk_at "e"
     walk_at "e"
     refine OP.addL (.inl rfl) (.inl rfl) (sl _ (by simp;lia)) ?_
     refine rl (List.map_append ..) ?_
     exact EX.nil ⟨es,told ++ done,_,_,_,_,hd,rfl,rfl⟩
   ·replace hd:=(if_neg hc2 ..) ▸ hd
    exact nsm hd
  ·replace hd:=(if_neg hc ..) ▸ hd
   exact nsm hd
 ·rintro _ _ ⟨es,told,m,x3,x7,x8,hd,rfl,rfl⟩
  replace hd : (if decide (m.length ≤ 10000) && smallB m then some m else none) = some _:=hd
  by_cases hc : (decide (m.length ≤ 10000) && smallB m) = true
  ·replace hd:=(if_pos hc ..) ▸ hd
   obtain rfl:=si hd
   exact q es _ _ _ _
  ·replace hd:=(if_neg hc ..) ▸ hd
   exact nsm hd
end
noncomputable def stripD (row : List Nat) : List Nat:=row.dropWhile fun a=>a == 46
noncomputable def rowsOf (m : List Nat) : List (List Nat):=vpick (spl 10 m) none (some (-1)) none
noncomputable def pairOf (row : List Nat) : List Nat × Int:=(stripD row,(row.length : Int) - ((stripD row).length : Int))
noncomputable def pairsOfM (m : List Nat) : List (List Nat × Int):=(rowsOf m).map pairOf
noncomputable def mail0 : List Nat:=[46,48,10,110,101,119,115,10]
noncomputable def news (found : List (List Nat)) : Option (List (List Nat × Int)) :=
 match newsTbl ([48,10] :: found) [] with
 | none=>none
 | some t =>
  match news2 (vpick ([48,10] :: found) none none (some (-1))) t [] with
  | none=>none
  | some (t',n) =>
   match n.lookup [48,10] with
   | none=>none
   | some k =>
    if decide (0 ≤ k) && decide (k ≤ 1000) then
     match news3 k.toNat [[48,10]] mail0 t' with
     | none=>none
     | some m=>some (pairsOfM m)
    else none
noncomputable def VQ (p : List Nat × Int) : V:=.tup [.str p.1,.int p.2]
theorem glue_one : ∀ l : List Nat,glue [] (l.map fun c=>[c]) = l
 | []=>rfl
 | [c]=>rfl
 | c :: d :: r=>by
  haveI:=glue_one (d :: r)
  simp only [List.map_cons,glue] at this ⊢
  refine rr this ?_
  rfl
theorem news3_small : ∀ (k : Nat) (told : List (List Nat)) (m : List Nat) (t : Tbl) {m' : List Nat},news3 k told m t = some m'→m'.length ≤ 10000∧smallB m' = true
 | 0,told,m,t,m',h=>by
  replace h : (if decide (m.length ≤ 10000) && smallB m then some m else none) = some m':=h
  by_cases hc : (decide (m.length ≤ 10000) && smallB m) = true
  ·replace h:=(if_pos hc ..) ▸ h
   obtain rfl:=si h
   simpa using hc
  ·replace h:=(if_neg hc ..) ▸ h;exact nsm h
 | k + 1,told,m,t,m',h=>by
  rw [news3_c] at h
  split at h
  ·split at h
   ·exact nsm h
   ·split at h
    ·exact news3_small k _ _ _ h
    ·exact nsm h
  ·exact nsm h
section
variable {mg mb : Str→Option Value}
inductive J16_1 (σ : St) (found : List (List Nat)) (m : List Nat) (da : Addr) (na : Addr) (y5 : Option V) (y7 : Option V) (y8 : Option V) (a : Addr) (rest : List (List Nat)) (ρ₁ : List (Option V)) (σ₁ : St) : Prop
 | mk (done : _) (z3 : _) (z10 : _) (h0 : done ++ rest.map pairOf = pairsOfM m) (h1 : done.length + rest.length ≤ 10001) (h2 : ρ₁ = [some (.lst (found.map .str)),some (.lst (([48,10] :: found).map .str)),some (.ref da),z3,some (.ref na),y5,some (VB m),y7,y8,some (.ref a),z10]) (h3 : σ₁ = (a,.lst (done.map VQ)) :: σ)
theorem news_fn (G : Gl Φ.h₀ mg mb) (X : Rx Φ.h₀ mg) (hh : Φ.hd = none) (hl : 4 ≤ Φ.lvl) (hsm : ∃ o,Φ.h₀.get? sysModules = some o) (hfree : ∀ p∈σ,CFree p.2) {found : List (List Nat)} (hz : found.length ≤ 90) {ps : List (List Nat × Int)} (hn : news found = some ps) {Q : QV} (q : Q (.lst (ps.map VQ)) σ) :
  FnBody prog w C Φ d_news [.lst (found.map .str)] σ Q:=by
 refine FnBody.of ok_news (by lia) [some (.lst (found.map .str)),none,none,none,none,none,none,none,none,none,none] rfl fun L f cdv Ok=>?_
 haveI hl2 : 2 ≤ (Φ.enter d_news L f cdv).lvl:=by show 2 ≤ Φ.lvl - 1;lia
 haveI hh' : (Φ.enter d_news L f cdv).hd = none:=hh
 haveI G' : Gl (Φ.enter d_news L f cdv).h₀ mg mb:=G
 haveI s0 : Sl (Φ.enter d_news L f cdv) 0 "found" none:=rfl
 haveI s1 : Sl (Φ.enter d_news L f cdv) 1 "known" none:=rfl
 haveI s2 : Sl (Φ.enter d_news L f cdv) 2 "below" (some (L + 1)):=rfl
 haveI s3 : Sl (Φ.enter d_news L f cdv) 3 "address" none:=rfl
 haveI s4 : Sl (Φ.enter d_news L f cdv) 4 "needs" (some (L + 1 + 1)):=rfl
 haveI s5 : Sl (Φ.enter d_news L f cdv) 5 "told" none:=rfl
 haveI s6 : Sl (Φ.enter d_news L f cdv) 6 "mail" none:=rfl
 haveI s7 : Sl (Φ.enter d_news L f cdv) 7 "turn" none:=rfl
 haveI s8 : Sl (Φ.enter d_news L f cdv) 8 "fresh" none:=rfl
 haveI s9 : Sl (Φ.enter d_news L f cdv) 9 "pairs" none:=rfl
 haveI s10 : Sl (Φ.enter d_news L f cdv) 10 "row" none:=rfl
 unfold news at hn
 cases ht : newsTbl ([48,10] :: found) [] with
 | none=>replace hn:=ht ▸ hn;exact nsm hn
 | some t =>
 replace hn:=ht ▸ hn
 dsimp only at hn
 cases h2 : news2 (vpick ([48,10] :: found) none none (some (-1))) t [] with
 | none=>replace hn:=h2 ▸ hn;exact nsm hn
 | some tn =>
 obtain ⟨t',n⟩:=tn
 replace hn:=h2 ▸ hn
 dsimp only at hn
 cases hk : n.lookup [48,10] with
 | none=>replace hn:=hk ▸ hn;exact nsm hn
 | some k =>
 replace hn:=hk ▸ hn
 dsimp only at hn
 by_cases hkr : (decide (0 ≤ k) && decide (k ≤ 1000)) = true
 ·replace hn:=(if_pos hkr ..) ▸ hn
  simp only [Bool.and_eq_true,decide_eq_true_eq] at hkr
  cases h3 : news3 k.toNat [[48,10]] mail0 t' with
  | none=>replace hn:=h3 ▸ hn;exact nsm hn
  | some m =>
  replace hn:=h3 ▸ hn
  obtain rfl:=si hn
  obtain ⟨hm1,hm2⟩:=news3_small _ _ _ _ h3
  refine EX.cons (EX1.assign Ok (i:=1) rfl (.inl rfl) rfl (EV.op (EV.lstF (EA.cons rfl (EV.str (l:=[48,10]) (by decide +kernel) (EA.nil ⟨sl 1 (by simp),?_⟩))))))
  walk_at "e"
  refine OP.addL (.inl rfl) (.inl rfl) (sl _ (by simp;lia)) ?_
  refine EX.cons (EX1.assign Ok (i:=2) rfl (.inr rfl) rfl (EV.dict0 fun da=>?_))
  refine EX.cons (news_one (known:=[48,10] :: found) Ok G X hh hl hsm (by simp;lia) ht (da:=da) (σr:=σ) fun es x3 hes hel=>?_)
  refine EX.cons (EX1.assign Ok (i:=4) rfl (.inr rfl) rfl (EV.dict0 fun na=>?_))
  refine EX.reorder (σ':=NS da (nd0 na [] :: σ) es) ?_ ?_
  ·unfold NS
   refine rr (show nd0 na [] = (na,Cell.dct []) from rfl ..) ?_
   haveI:=(List.perm_middle (a:=(na,Cell.dct [])) (l₁:=es.reverse.map tent ++ [(da,Cell.dct (es.map tkey))]) (l₂:=σ)).symm
   simpa using this
  refine EX.cons (news_two (known:=[48,10] :: found) Ok G hh hl (by simp;lia) hes hel h2 hfree fun es' x3' hes' hel'=>?_)
  refine EX.cons (EX1.assign Ok (i:=5) rfl (.inl rfl) rfl (EV.lstF (EA.cons rfl (EV.str (l:=[48,10]) (by decide +kernel) (EA.nil ⟨sl 1 (by simp),?_⟩)))))
  refine EX.cons (EX1.assign Ok (i:=6) rfl (.inl rfl) rfl (EV.byt ?_))
  refine EX.cons (news_three (mail:=mail0) (mail':=m) Ok G X hh hl hes' hk hkr h3 fun es₃ y3 y5 y7 y8=>?_)
  refine EX.cons (EX1.assign Ok (i:=9) rfl (.inl rfl) rfl (EV.lstM (EA.nil ⟨sl 0 (by decide),fun a=>?_⟩)))
  refine EX.drop (σ₀:=(a,.lst ([].map VQ)) :: σ) ?_ ?_
  ·refine List.Sublist.cons_cons _ ?_
   exact ((List.sublist_cons_self _ _).trans (List.sublist_cons_self _ _)).trans (List.sublist_append_right _ _)
  refine EX.cons (EX1.for1 Ok (i:=10) rfl (.inl rfl) (fun _=>rfl) V.str (IE1.list hh' ?_))
  refine EV.sliceL (EV.meth .split rfl rfl rfl (EV.meth .join rfl rfl rfl (EV.str (l:=[]) (by decide +kernel) ⟨rfl,EA.cons rfl ?_⟩)))
  refine EV.compM Ok (by decide +kernel) rfl (fun _=>rfl) (i:=1) rfl (fun (c : Nat)=>V.int c) (fun (c : Nat)=>V.str [c]) (IE1.byt hh' ?_)
  walk_at "e"
  refine ⟨m,rfl,smallB_iff hm2,m,rfl,sl _ (by lia),fun c hc L' D' ys OkC=>?_,?_⟩
  ·haveI:=smallB_iff hm2 c hc
   refine EV.bB .chr OkC rfl G'.tx G'.nb rfl rfl rfl (EA.cons rfl (EV.name OkC (i:=1) rfl rfl (EA.nil (BJ.chr (by lia) (by lia) ⟨?_,rfl⟩))))
   simp
  walk_at "e"
  refine BJ.joinS (ss:=m.map fun c=>[c]) (m:=1) (.inl (by refine rr (List.map_map ..) ?_;rfl)) (fun s hs=>?_) (by simp;lia) ?_
  ·obtain ⟨o,ho,rfl⟩:=List.mem_map.mp hs
   simp
  rw [glue_one]
  refine ⟨rfl,EA.cons rfl (EV.str (l:=[10]) (by decide +kernel) (EA.nil (BJ.split1 (Nat.le_trans (by lia : _ ≤ 1000000) (sl _ (Nat.le_refl _))) ?_)))⟩
  walk_at "e"
  walk_at "e"
  refine EV.neg (EV.int ⟨_,rfl,_,rfl,?_⟩)
  walk_at "e"
  haveI hsplc:=spl_count 10 m
  refine ⟨(spl 10 m).map V.str,.inl rfl,by decide,sl _ (by simp;lia),_,rfl,rowsOf m,(J16_1 σ found m da na y5 y7 y8 a),vpick_map V.str _ _ _ _,⟨[],_,_,rfl,by have:=vpick_len (spl 10 m) none (some (-1)) none;unfold rowsOf;simp;lia,rfl,rfl⟩,?_,?_⟩
  ·rintro row rest _ _ hsuf ⟨done,z3,z10,hd,hdl,rfl,rfl⟩
   simp only [List.length_cons] at hdl
   haveI hrl : row.length ≤ 10000:=by
    haveI h1 : row∈rowsOf m:=hsuf.subset (.head _)
    obtain ⟨i,_,hi⟩:=List.mem_filterMap.mp h1
    haveI:=spl_len 10 m row (List.mem_of_getElem? hi)
    lia
   haveI hsl : (stripD row).length ≤ row.length:=(List.dropWhile_sublist _).length_le
   refine EX.cons (EX1.assign Ok (i:=3) rfl (.inl rfl) rfl (EV.meth .lstrip rfl rfl rfl ?_))
   walk_at "e"
   refine ⟨rfl,EA.cons rfl (EV.str (l:=[46]) (by decide +kernel) (EA.nil (BJ.lstrip1 (sl _ (by lia)) ?_)))⟩
   refine EX.cons (EX1.expr rfl rfl ?_)
   walk_at "e"
   walk_at "e"
   refine ⟨.inl ⟨_,.head _,rfl⟩,EA.cons rfl (EV.tupF ?_)⟩
   walk_at "e"
   walk_at "e"
   walk_at "e"
   walk_at "e"
   refine EV.bB .len Ok rfl G'.tx G'.nb rfl rfl rfl (EA.cons rfl ?_)
   walk_at "e"
   walk_at "e"
   refine BJ.lenS (sl _ (by lia)) ?_
   refine EV.bB .len Ok rfl G'.tx G'.nb rfl rfl rfl (EA.cons rfl ?_)
   walk_at "e"
   walk_at "e"
   refine BJ.lenS (sl _ (by show (stripD row).length ≤ _;lia)) (OP.subI ?_)
   walk_at "e"
   refine ⟨sl 2 (by simp),?_⟩
   walk_at "e"
   refine BJ.appendM VQ (xs:=done) (x:=pairOf row) (i:=0) rfl (by lia) ?_
   refine EX.nil ⟨done ++ [pairOf row],_,_,?_,?_,rfl,rfl⟩
   ·refine rl hd ?_;simp
   ·simp;lia
  ·rintro _ _ ⟨done,z3,z10,hd,hdl,rfl,rfl⟩
   replace hd:=(List.map_nil ..) ▸ hd;replace hd:=(List.append_nil ..) ▸ hd
   subst hd
   refine EX.freeze (i:=0) (j:=9) rfl rfl ?_
   refine EX.cons (EX1.ret ?_)
   walk_at "e"
   exact q
 ·replace hn:=(if_neg hkr ..) ▸ hn
  exact nsm hn
end
noncomputable def d_law : Fn:=fnOf (stmtAt 25)
theorem ok_law : d_law.ok ["script"] = true:=by decide +kernel
theorem bind_law : BindOk d_law ["script"]:=.n1 fun _ _ _ _ _ _=>rfl
noncomputable def rowOf (lead : List Nat) : List Nat:=lead ++ [120]
noncomputable def ends : List (List Nat):=[[10],[13],[13,10]]
noncomputable def endOf (h : Int) : List Nat:=ends.getD ((h.fdiv 16).fmod 3).toNat []
noncomputable def lineOf (p : List Nat × Int) : List Nat:=rowOf p.1 ++ endOf p.2
noncomputable def pageOf (leads : List (List Nat)) (heaps : List Int) : List Nat:=glue [] ((leads.zip heaps).map lineOf)
noncomputable def dputI (es : Nds) (k : List Nat) (i : Int) : Nds:=if (es.any fun p=>p.1 == k) then es.map fun p=>if p.1 = k then (p.1,i) else p else es ++ [(k,i)]
noncomputable def dfoldI (ps : List (List Nat × Int)) : Nds:=ps.foldl (fun acc p=>dputI acc p.1 p.2) []
theorem dput_nkey (es : Nds) (k : List Nat) (i : Int) : dput (es.map nkey) k (.int i) = (dputI es k i).map nkey:=by
 unfold dput dputI
 refine rr (List.any_map ..) ?_
 haveI : ((fun p : List Nat × V=>p.1 == k) ∘ nkey) = fun p : List Nat × Int=>p.1 == k:=rfl
 refine rr this ?_
 split
 ·refine rr (List.map_map ..) ?_;refine rr (List.map_map ..) ?_
  refine List.map_congr_left fun p _=>?_
  simp only [Function.comp]
  by_cases z : p.1 = k
  ·refine rr (if_pos (show (nkey p).1 = k from z) ..) ?_;refine rr (if_pos z ..) ?_;rfl
  ·refine rr (if_neg (show ¬ (nkey p).1 = k from z) ..) ?_;refine rr (if_neg z ..) ?_;rfl
 ·simp [nkey]
theorem dfold_nkey (ps : List (List Nat × Int)) : dfold ps = (dfoldI ps).map nkey:=by
 haveI h : ∀ (ps : List (List Nat × Int)) (es : Nds),ps.foldl (fun acc p=>dput acc p.1 (.int p.2)) (es.map nkey) = (ps.foldl (fun acc p=>dputI acc p.1 p.2) es).map nkey:=by
  intro ps
  induction ps with
  | nil=>intro es;rfl
  | cons p r ih=>intro es;rewrite [List.foldl_cons,List.foldl_cons,dput_nkey,ih];rfl
 exact h ps []
noncomputable def belowOf (nm : List (List Nat)) (ab : List Int) (ds : Nds) (one : Int) : List Int:=((rng 0 nm.length).filter fun k=>decide (ab.getD k.toNat 0 = one)).map fun k=>(ds.lookup (nm.getD k.toNat [])).getD 0
noncomputable def nodeOk (nm : List (List Nat)) (ab : List Int) (ds : Nds) (p : Int × List Nat) : Bool :=
 match sortO ltI 0 (belowOf nm ab ds p.1) with
 | none=>false
 | some sv=>decide (sv = rng ((ds.lookup p.2).getD 0 - sv.length) ((ds.lookup p.2).getD 0)) && decide (sv.length ≤ 100) && decide (-1000 ≤ (ds.lookup p.2).getD 0) && decide ((ds.lookup p.2).getD 0 ≤ 1000)
noncomputable def sNews : List Nat:=[110,101,119,115]
noncomputable def tailOk (nm : List (List Nat)) (ab : List Int) (ps : List (List Nat × Int)) : Bool :=
 decide (nm.length ≤ 7) && decide (ab.length = nm.length) && decide (ps.length < 64) &&
 (match sortO ltS [] (ps.map (·.1)) with
 | none=>false
 | some a=>match sortO ltS [] (nm ++ [sNews]) with
  | none=>false
  | some b=>decide (a = b)) &&
 (nm.all fun x=>((dfoldI ps).lookup x).isSome) && ((enumN nm).all fun p=>nodeOk nm ab (dfoldI ps) p) &&
 (match least ab with
 | none=>false
 | some r=>decide ((dfoldI ps).lookup sNews = some 0) && decide ((dfoldI ps).lookup [48] = some (1 + r)))
noncomputable def foundOf (nm : List (List Nat)) : List (List Nat):=(vpick nm (some 1) none none).map fun x=>x ++ [10]
noncomputable def tailAll (nm : List (List Nat)) (ab : List Int) : Bool :=
 match news (foundOf nm) with
 | none=>false
 | some ps=>tailOk nm ab ps
noncomputable def lawOk (leads : List (List Nat)) : Bool :=
 match plain leads with
 | none=>false
 | some (nm,ab,due) =>
  match readLoop (enumN (leads.map rowOf)) [([],[48],0)] [] with
  | none=>false
  | some (found,due')=>decide (due' = due) && decide (found = foundOf nm) && decide (found.length ≤ 90) && (nm.all fun x=>decide (x.length ≤ 1000)) && tailAll nm ab
theorem CO.neDue {prog : Program} {w : World} {C : Addr} {Φ : Fc} {ρ : List (Option V)} {σ : St} {due : Due} {Q : Bool→St→Prop} (q : Q false σ) : CO prog w C Φ ρ σ .NotEq (VDue due) (VDue due) Q:=by
 cases due with
 | none=>exact CO.neNone q
 | some d=>exact CO.neNag q
theorem vpick_front {α : Type} : ∀ (xs : List α) (y : α),xs.length = 6→vpick (xs ++ [y]) none (some (-1)) none = xs
 | [a,b,c,d,e,f],y,_=>by
  haveI h : sliceRange (sliceBounds none (some (-1)) none 7).1 (sliceBounds none (some (-1)) none 7).2.1 (sliceBounds none (some (-1)) none 7).2.2 = [0,1,2,3,4,5]:=by decide +kernel
  show (sliceRange (sliceBounds none (some (-1)) none 7).1 (sliceBounds none (some (-1)) none 7).2.1 (sliceBounds none (some (-1)) none 7).2.2).filterMap _ = _
  refine rr h ?_
  rfl
theorem leadsOf_len : ∀ (h : List Int) (d : Int),(leadsOf h d).length = h.length
 | [],d=>rfl
 | x :: r,d=>by
  rw [leadsOf_c]
  split <;> simp [leadsOf_len r]
theorem rows_len {l : List Nat} (h : l.length ≤ 50) : (rowOf l).length ≤ 51:=by unfold rowOf;simp;lia
section
variable {N : Addr} {mg mb mN : Str→Option Value} {K : Frag}
theorem EX.cons2 {st : Stmt} {rest : List Stmt} {Q : QX} (Mid : List (Option V)→St→Prop) (h : EX1 prog w C Φ st ρ σ (fun f ρ' σ'=>f = .next∧Mid ρ' σ')) (k : ∀ ρ' σ',Mid ρ' σ'→EX prog w C Φ rest ρ' σ' Q) :
  EX prog w C Φ (st :: rest) ρ σ Q:=EX.cons (h.mono fun f ρ' σ' z0=>by obtain ⟨e,q⟩:=z0;subst e;exact k _ _ q)
inductive J17_1 (P : Addr) (script : List Int) (heaps : List Int) (leads : List (List Nat)) (nm : List (List Nat)) (ab : List Int) (due : Due) (found : List (List Nat)) (fa : Addr) (ρ' : List (Option V)) (σ' : St) : Prop
 | mk (p : _) (h0 : (∀ o,p o→TabX o)) (h1 : ρ' = [some (VI script),some (VI heaps),some (VS leads),some (.str (pageOf leads heaps)),some (.lst ((leads.map rowOf ++ [[]]).map .str)),some (VS nm),some (VI ab),some (VDue due),some (.ref fa),some (VDue due),none,none,none,none,none,none]) (h2 : σ' = [(fa,.lst (found.map .str)),(P,.raw p)])
inductive J17_2 (P : Addr) (script : List Int) (heaps : List Int) (leads : List (List Nat)) (nm : List (List Nat)) (ab : List Int) (due : Due) (found : List (List Nat)) (pr : List (List Nat × Int)) (p : Obj→Prop) (da : Addr) (ds : Nds) (rest : List (Int × List Nat)) (ρ₁ : List (Option V)) (σ₁ : St) : Prop
 | mk (x11 : _) (x14 : _) (x15 : _) (h0 : ρ₁ = [some (VI script),some (VI heaps),some (VS leads),some (.str (pageOf leads heaps)),some (.lst ((leads.map rowOf ++ [[]]).map .str)),some (VS nm),some (VI ab),some (VDue due),some (.lst (found.map .str)),some (VDue due),none,x11,some (.lst (pr.map VQ)),some (.ref da),x14,x15]) (h1 : σ₁ = [(da,.dct (ds.map nkey)),(P,.raw p)])
theorem law_fn (G : Gl Φ.h₀ mg mb) (W : Wc K C Φ.h₀ mg) (B : Ng K N Φ.h₀ mg mN) (X : Rx Φ.h₀ mg) {fm P : Addr} {ps : Array Value} (hfm : mg "format_witnesses" = some (.ref fm)) (Y : Fm Φ.h₀ mg fm P ps) (hsm : ∃ o,Φ.h₀.get? sysModules = some o) (hh : Φ.hd = none) (hl : 5 ≤ Φ.lvl) (hgs : Φ.gs = fun g _=>AllBare g) (hfr0 : Φ.frames = some [])
  {script : List Int} (hz : script.length ≤ 100) (hl50 : ∀ l∈leadsOf (heapsOf script) 0,l.length ≤ 50) (hsp : Txt.split (mkS (eolsOf (pageOf (leadsOf (heapsOf script) 0) (heapsOf script)))) (mkS [13,10]) = ((leadsOf (heapsOf script) 0).map rowOf ++ [[]]).map mkS)
  (hpg : (pageOf (leadsOf (heapsOf script) 0) (heapsOf script)).length ≤ 10000) (hpe : (eolsOf (pageOf (leadsOf (heapsOf script) 0) (heapsOf script))).length ≤ 100000)
  (hok : lawOk (leadsOf (heapsOf script) 0) = true) {Q : QV} (q : ∀ σ' p,(P,Cell.raw p)∈σ'→(∀ o,p o→TabX o)→Q (.bool true) σ') : FnBody prog w C Φ d_law [VI script] [(P,.raw (· = tabO ps))] Q:=by
 refine FnBody.of ok_law (by lia) [some (VI script),none,none,none,none,none,none,none,none,none,none,none,none,none,none,none] rfl fun L f cdv Ok=>?_
 haveI hl4 : 4 ≤ (Φ.enter d_law L f cdv).lvl:=by show 4 ≤ Φ.lvl - 1;lia
 haveI hl3 : 3 ≤ (Φ.enter d_law L f cdv).lvl:=by lia
 haveI hl2 : 2 ≤ (Φ.enter d_law L f cdv).lvl:=by lia
 haveI hh : (Φ.enter d_law L f cdv).hd = none:=hh
 haveI hgs : (Φ.enter d_law L f cdv).gs = fun g _=>AllBare g:=hgs
 haveI G : Gl (Φ.enter d_law L f cdv).h₀ mg mb:=G
 haveI W : Wc K C (Φ.enter d_law L f cdv).h₀ mg:=W
 haveI B : Ng K N (Φ.enter d_law L f cdv).h₀ mg mN:=B
 haveI X : Rx (Φ.enter d_law L f cdv).h₀ mg:=X
 haveI Y : Fm (Φ.enter d_law L f cdv).h₀ mg fm P ps:=Y
 haveI hsm : ∃ o,(Φ.enter d_law L f cdv).h₀.get? sysModules = some o:=hsm
 haveI hfr : (Φ.enter d_law L f cdv).frames = some [(Φ.enter d_law L f cdv).env]:=by
  show Φ.frames.map _ = _
  refine rr hfr0 ?_;rfl
 haveI hme : (Φ.enter d_law L f cdv).env.frame = some (Φ.enter d_law L f cdv).env.locals:=rfl
 haveI s0 : Sl (Φ.enter d_law L f cdv) 0 "script" none:=rfl
 haveI s1 : Sl (Φ.enter d_law L f cdv) 1 "heaps" none:=rfl
 haveI s2 : Sl (Φ.enter d_law L f cdv) 2 "leads" none:=rfl
 haveI s3 : Sl (Φ.enter d_law L f cdv) 3 "page" none:=rfl
 haveI s4 : Sl (Φ.enter d_law L f cdv) 4 "rows" none:=rfl
 haveI s5 : Sl (Φ.enter d_law L f cdv) 5 "names" (some (L + 1)):=rfl
 haveI s6 : Sl (Φ.enter d_law L f cdv) 6 "above" (some (L + 1 + 1)):=rfl
 haveI s7 : Sl (Φ.enter d_law L f cdv) 7 "due" none:=rfl
 haveI s8 : Sl (Φ.enter d_law L f cdv) 8 "found" none:=rfl
 haveI s9 : Sl (Φ.enter d_law L f cdv) 9 "nag" none:=rfl
 haveI s10 : Sl (Φ.enter d_law L f cdv) 10 "caught" none:=rfl
 haveI s11 : Sl (Φ.enter d_law L f cdv) 11 "name" none:=rfl
 haveI s12 : Sl (Φ.enter d_law L f cdv) 12 "pairs" none:=rfl
 haveI s13 : Sl (Φ.enter d_law L f cdv) 13 "dots" (some (L + 1 + 1 + 1)):=rfl
 haveI s14 : Sl (Φ.enter d_law L f cdv) 14 "one" (some (L + 1 + 1 + 1 + 1)):=rfl
 haveI s15 : Sl (Φ.enter d_law L f cdv) 15 "below" none:=rfl
 generalize hhp : heapsOf script = heaps at *
 haveI hhl : heaps.length = 6:=by refine rl hhp ?_;rfl
 haveI hl6:=leadsOf_len heaps 0
 generalize hld : leadsOf heaps 0 = leads at *
 replace hl6:=hhl ▸ hl6
 refine EX.cons (EX1.assign Ok (i:=1) rfl (.inl rfl) rfl (EV.f_heaps Ok G hl2 rfl rfl ?_))
 walk_at "e"
 walk_at "e"
 walk_at "e"
 refine ⟨rfl,heaps_fn G hh hl2 hz ?_⟩
 refine rr hhp ?_
 refine EX.cons (EX1.assign Ok (i:=2) rfl (.inl rfl) rfl (EV.f_leads Ok G hl2 rfl rfl ?_))
 walk_at "e"
 walk_at "e"
 walk_at "e"
 refine ⟨rfl,leads_fn G hh hl2 (by lia) ?_⟩
 refine rr hld ?_
 refine EX.cons (EX1.assign Ok (i:=3) rfl (.inl rfl) rfl (EV.meth .join rfl rfl rfl (EV.str (l:=[]) (by decide +kernel) ⟨rfl,EA.cons rfl ?_⟩)))
 refine EV.compM2 Ok hh (by decide +kernel) rfl (fun _=>rfl) (i:=1) (j:=2) rfl rfl (fun p : List Nat × Int=>(V.str p.1,V.int p.2)) (fun p=>V.str (lineOf p)) ?_
 walk_at "e"
 walk_at "e"
 walk_at "e"
 walk_at "e"
 walk_at "e"
 walk_at "e"
 refine IB2.zip hh ?_
 refine ⟨leads.zip heaps,List.zip_map ..,sl _ (by simp;lia),fun p hp L' D ys OkC=>?_,?_⟩
 ·haveI hp1 : p.1.length ≤ 50:=hl50 _ (List.of_mem_zip hp).1
  haveI hm:=fmod_rng (a:=p.2.fdiv 16) (b:=3) (by decide)
  haveI hel : ∀ k,(ends.getD k []).length ≤ 2:=fun k=>by
   match k with
   | 0=>decide
   | 1=>decide
   | 2=>decide
   | k + 3=>simp [ends]
  refine EV.op (EV.op (EV.name OkC (i:=1) rfl rfl (EV.str (l:=[120]) (by decide +kernel) (OP.addS (sl _ (by simp;lia)) ?_))))
  refine EV.sub (EV.lstF (EA.cons rfl (EV.str (l:=[10]) (by decide +kernel) (EA.cons rfl (EV.str (l:=[13]) (by decide +kernel) (EA.cons rfl (EV.str (l:=[13,10]) (by decide +kernel) (EA.nil ⟨sl 3 (by simp),?_⟩))))))))
  refine EV.op (EV.op (EV.name OkC (i:=2) rfl rfl (EV.int (OP.divIs (by decide) (by decide) (EV.int (OP.modI (by decide) ?_))))))
  refine ⟨⟨"list",rfl⟩,GI.mapI V.str ends [] (.inl rfl) hm.1 hm.2 (by decide) ?_⟩
  haveI:=hel ((p.2.fdiv 16).fmod 3).toNat
  exact OP.addS (sl _ (by refine rr (List.length_append ..) ?_;refine rr (List.length_cons ..) ?_;refine rr (List.length_nil ..) ?_;lia)) ⟨rfl,rfl⟩
 walk_at "e"
 refine BJ.joinS (ss:=(leads.zip heaps).map lineOf) (m:=100) (.inl (by refine rr (List.map_map ..) ?_;rfl)) (fun s hs=>?_) (by simp;lia) ?_
 ·obtain ⟨p,hp,rfl⟩:=List.mem_map.mp hs
  haveI hp1 : p.1.length ≤ 50:=hl50 _ (List.of_mem_zip hp).1
  haveI hel : ∀ k,(ends.getD k []).length ≤ 2:=fun k=>by
   match k with
   | 0=>decide
   | 1=>decide
   | 2=>decide
   | k + 3=>simp [ends]
  haveI:=hel ((p.2.fdiv 16).fmod 3).toNat
  haveI h2:=rows_len hp1
  unfold lineOf endOf
  refine rr (List.length_append ..) ?_
  lia
 refine EX.cons (EX1.assign Ok (i:=4) rfl (.inl rfl) rfl (EV.meth .split rfl rfl rfl (EV.f_eols Ok G hl2 rfl rfl ?_)))
 walk_at "e"
 walk_at "e"
 walk_at "e"
 refine ⟨rfl,eols_fn G X hh hl3 hpg ⟨rfl,EA.cons rfl (EV.str (l:=[13,10]) (by decide +kernel) (EA.nil (BJ.splitG (ps:=leads.map rowOf ++ [[]]) (by simp) (sl _ (by lia)) hsp ?_)))⟩⟩
 unfold lawOk at hok
 cases hpl : plain leads with
 | none=>replace hok:=hpl ▸ hok;exact ftm hok
 | some pl =>
 obtain ⟨nm,ab,due⟩:=pl
 replace hok:=hpl ▸ hok
 cases hrd : readLoop (enumN (leads.map rowOf)) [([],[48],0)] [] with
 | none=>replace hok:=hrd ▸ hok;exact ftm hok
 | some rd =>
 obtain ⟨found,due'⟩:=rd
 replace hok:=hrd ▸ hok
 simp only [Bool.and_eq_true,decide_eq_true_eq,List.all_eq_true] at hok
 obtain ⟨⟨⟨⟨hdd,hfo⟩,hfl⟩,hnl⟩,htl⟩:=hok
 obtain rfl : due = due':=hdd.symm
 unfold tailAll at htl
 replace htl:=hfo.symm ▸ htl
 cases hnw : news found with
 | none=>replace htl:=hnw ▸ htl;exact ftm htl
 | some pr =>
 replace htl:=hnw ▸ htl
 unfold tailOk at htl
 simp only [Bool.and_eq_true,decide_eq_true_eq,List.all_eq_true] at htl
 obtain ⟨⟨⟨⟨⟨⟨hn7,han⟩,hpr⟩,hsort⟩,hlook⟩,hnode⟩,hleast⟩:=htl
 refine EX.cons (EX1.asg rfl rfl rfl (EV.f_plain Ok G hl2 rfl rfl ?_))
 walk_at "e"
 walk_at "e"
 walk_at "e"
 refine ⟨rfl,plain_fn G hh hl3 (by lia) hl50 hpl ?_⟩
 refine AS.tup hh rfl rfl ⟨_,rfl,rfl,ASs.cons (AS.name Ok (i:=5) rfl (.inr rfl) (ASs.cons (AS.name Ok (i:=6) rfl (.inr rfl) (ASs.cons (AS.name Ok (i:=7) rfl (.inl rfl) (ASs.nil ?_))))))⟩
 refine EX.cons (EX1.assign Ok (i:=8) rfl (.inl rfl) rfl (EV.lstM (EA.nil ⟨sl 0 (by decide),fun fa=>?_⟩)))
 refine EX.cons (EX1.assign Ok (i:=9) rfl (.inl rfl) rfl ?_)
 walk_at "e"
 refine EX.cons2 (J17_1 P script heaps leads nm ab due found fa) ?_ ?_
 ·obtain ⟨rf,rc,hrm,hrf⟩:=G.f_read
  refine EX1.tryAs (N:=N) Ok hh hfr hme G.tx B.nag (i:=10) rfl rfl (by decide +kernel) B.gN rfl rfl ?_
  refine EVT.callF Ok hfr hme G.tx ok_read hl2 hrf bind_read rfl (by decide +kernel) hrm rfl ?_
  refine EA.cons rfl (EV.sliceL ?_)
  walk_at "e"
  walk_at "e"
  walk_at "e"
  refine EV.neg (EV.int ⟨_,rfl,_,rfl,?_⟩)
  walk_at "e"
  refine ⟨_,.inl rfl,by decide,sl _ (by simp;lia),?_⟩
  rw [vpick_map,vpick_front _ _ (by simp [hl6])]
  walk_at "e"
  walk_at "e"
  walk_at "e"
  refine ⟨rfl,read_fn (rows:=leads.map rowOf) G W B hfm Y hh hl4 hgs ?_ (by simp;lia) hrd ?_ ?_⟩
  ·intro r hr
   obtain ⟨l,hl,rfl⟩:=List.mem_map.mp hr
   haveI:=rows_len (hl50 l hl)
   lia
  ·intro f hf
   cases hf
   exact ⟨rfl,_,(fun o e=>⟨ps,e⟩),rfl,rfl⟩
  ·intro f' k m l hf e dd
   cases hf
   haveI Okd:=Ok.hdl e
   haveI Bd : Ng K N ((Φ.enter d_law L f cdv).hdl e).h₀ mg mN:=B
   haveI Gd : Gl ((Φ.enter d_law L f cdv).hdl e).h₀ mg mb:=G
   haveI hld : 2 ≤ ((Φ.enter d_law L f cdv).hdl e).lvl:=hl2
   obtain ⟨f1,c1,o1,a1,a2,a3,a4⟩:=Bd.getn
   obtain ⟨f2,c2,o2,b1,b2,b3,b4⟩:=Bd.getm
   obtain ⟨f3,c3,o3,d1,d2,d3,d4⟩:=Bd.getl
   refine EX.cons (EX1.assign Okd (i:=9) rfl (.inl rfl) rfl (EV.tupF (EA.cons rfl (EV.methExc0 Bd.nag (Bd.no _ (by decide +kernel)) (Bd.no _ (by decide +kernel)) Gd.tx ok_ngetn hld a2 a3 a4 bind_ngetn a1 ex_getn rfl ?_))))
   refine EV.name Okd (i:=10) rfl rfl ⟨⟨e,dd,_,rfl,.head _,.tail _ (.head _),rfl⟩,rfl,ngetn_fn Bd hld (.head _) (.tail _ (.head _)) ?_⟩
   refine EA.cons rfl (EV.methExc0 Bd.nag (Bd.no _ (by decide +kernel)) (Bd.no _ (by decide +kernel)) Gd.tx ok_ngetm hld b2 b3 b4 bind_ngetm b1 ex_getm rfl ?_)
   refine EV.name Okd (i:=10) rfl rfl ⟨⟨e,dd,_,rfl,.head _,.tail _ (.head _),rfl⟩,rfl,ngetm_fn Bd hld (.head _) (.tail _ (.head _)) ?_⟩
   refine EA.cons rfl (EV.methExc0 Bd.nag (Bd.no _ (by decide +kernel)) (Bd.no _ (by decide +kernel)) Gd.tx ok_ngetl hld d2 d3 d4 bind_ngetl d1 ex_getl rfl ?_)
   refine EV.name Okd (i:=10) rfl rfl ⟨⟨e,dd,_,rfl,.head _,.tail _ (.head _),rfl⟩,rfl,ngetl_fn Bd hld (.head _) (.tail _ (.head _)) ?_⟩
   refine EA.nil ⟨sl 3 (by decide),?_⟩
   refine EX.drop (σ₀:=[(fa,.lst (found.map .str)),(P,.raw TabX)]) ((List.sublist_cons_self _ _).trans (List.sublist_cons_self _ _)) (EX.nil ⟨rfl,by simp,rfl,_,(fun o e=>e),rfl,rfl⟩)
 rintro _ _ ⟨p,hpT,rfl,rfl⟩
 refine EX.cons (EX1.if_ (ET.co rfl ?_))
 walk_at "e"
 refine EV.op (EV.compM Ok (by decide +kernel) rfl (fun _=>rfl) (i:=1) rfl V.str (fun l=>V.str (rowOf l)) (IE1.list hh ?_))
 walk_at "e"
 refine ⟨_,rfl,leads,rfl,sl _ (by lia),fun l hl L' D ys OkC=>?_,?_⟩
 ·haveI:=hl50 l hl
  exact EV.op (EV.name OkC (i:=1) rfl rfl (EV.str (l:=[120]) (by decide +kernel) (OP.addS (sl _ (by simp;lia)) ⟨rfl,rfl⟩)))
 refine EV.lstF (EA.cons rfl (EV.str (l:=[]) (by decide +kernel) (EA.nil ⟨sl 1 (by simp),?_⟩)))
 refine OP.addL (.inl rfl) (.inl rfl) (sl _ (by simp;lia)) ?_
 refine CO.neLS (xs:=leads.map rowOf ++ [[]]) (ys:=leads.map rowOf ++ [[]]) (.inl rfl) (.inl (by simp [Function.comp_def])) ?_
 refine rr (decide_eq_true rfl ..) ?_
 refine EX.nil ?_
 refine EX.cons (EX1.if_ (ET.or_ (ET.co rfl ?_)))
 walk_at "e"
 refine EV.compM Ok (by decide +kernel) rfl (fun _=>rfl) (i:=1) rfl V.str (fun n=>V.str (n ++ [10])) (IE1.list hh (EV.sliceL ?_))
 walk_at "e"
 walk_at "e"
 refine EV.int ⟨_,rfl,?_⟩
 walk_at "e"
 walk_at "e"
 haveI hvl:=vpick_len nm (some 1) none none
 refine ⟨_,.inl rfl,by decide,sl _ (by simp;lia),_,rfl,vpick nm (some 1) none none,vpick_map V.str _ _ _ _,sl _ (by lia),fun n hn L' D ys OkC=>?_,?_⟩
 ·haveI : n.length ≤ 1000:=by
   obtain ⟨i,_,hi⟩:=List.mem_filterMap.mp hn
   exact hnl n (List.mem_of_getElem? hi)
  exact EV.op (EV.name OkC (i:=1) rfl rfl (EV.str (l:=[10]) (by decide +kernel) (OP.addS (sl _ (by simp;lia)) ⟨rfl,rfl⟩)))
 refine CO.neLS (xs:=found) (ys:=found) (.inr ⟨fa,rfl,.head _⟩) (.inl (by refine rr hfo ?_;simp [foundOf,Function.comp_def])) ?_
 refine rr (decide_eq_true rfl ..) ?_
 refine ET.co rfl ?_
 walk_at "e"
 walk_at "e"
 refine CO.neDue ?_
 refine EX.nil ?_
 refine EX.freeze (i:=0) (j:=8) rfl rfl ?_
 refine EX.cons (EX1.assign Ok (i:=12) rfl (.inl rfl) rfl (EV.f_news Ok G hl2 rfl rfl ?_))
 walk_at "e"
 walk_at "e"
 walk_at "e"
 refine ⟨rfl,news_fn G X hh hl4 hsm (fun p hp=>?_) hfl hnw ?_⟩
 ·obtain rfl:=List.mem_singleton.mp hp
  exact CFree.raw
 cases hs1 : sortO ltS [] (pr.map (·.1)) with
 | none=>replace hsort:=hs1 ▸ hsort;exact ftm hsort
 | some sa =>
 replace hsort:=hs1 ▸ hsort
 cases hs2 : sortO ltS [] (nm ++ [sNews]) with
 | none=>replace hsort:=hs2 ▸ hsort;exact ftm hsort
 | some sb =>
 replace hsort:=hs2 ▸ hsort
 haveI hsort:=of_decide_eq_true hsort
 subst hsort
 refine EX.cons (EX1.if_ (ET.co rfl ?_))
 refine EV.bB .sorted Ok rfl G.tx G.nb rfl rfl rfl (EA.cons rfl ?_)
 refine EV.compM2 Ok hh (by decide +kernel) rfl (fun _=>rfl) (i:=1) (j:=2) rfl rfl (fun p : List Nat × Int=>(V.str p.1,V.int p.2)) (fun p=>V.str p.1) (IE2.pairs hh ?_)
 walk_at "e"
 refine ⟨pr.map fun p=>(.str p.1,.int p.2),by refine rr (List.map_map ..) ?_;rfl,pr,rfl,sl _ (by lia),fun p hp L' D ys OkC=>EV.name OkC (i:=1) rfl rfl ⟨rfl,rfl⟩,?_⟩
 refine EA.nil (BJ.sortedS (xs:=pr.map (·.1)) (.inl (by refine rr (List.map_map ..) ?_;rfl)) (by simpa using hpr) hs1 ?_)
 refine EV.bB .sorted Ok rfl G.tx G.nb rfl rfl rfl (EA.cons rfl (EV.op ?_))
 walk_at "e"
 refine EV.lstF (EA.cons rfl (EV.str (l:=sNews) (by decide +kernel) (EA.nil ⟨sl 1 (by simp),?_⟩)))
 refine OP.addL (.inl rfl) (.inl rfl) (sl _ (by simp;lia)) ?_
 refine EA.nil (BJ.sortedS (xs:=nm ++ [sNews]) (.inl (by simp)) (by simp;lia) hs2 ?_)
 refine CO.neLS (xs:=sa) (ys:=sa) (.inl rfl) (.inl rfl) ?_
 refine rr (decide_eq_true rfl ..) ?_
 refine EX.nil ?_
 refine EX.cons (EX1.assign Ok (i:=13) rfl (.inr rfl) rfl (EV.bT .dict Ok rfl G.tx G.nb rfl rfl rfl ?_))
 walk_at "e"
 walk_at "e"
 walk_at "e"
 refine BT.dictP hh (.inl rfl) (by lia) fun da=>?_
 rw [dfold_nkey]
 generalize dfoldI pr = ds at hlook hnode hleast ⊢
 haveI hget : ∀ x∈nm,ds.lookup x = some ((ds.lookup x).getD 0):=fun x hx=>by
  haveI:=hlook x hx
  cases h : ds.lookup x with
  | none=>replace this:=h ▸ this;exact ftm this
  | some v=>rfl
 haveI hdm : (da,Cell.dct (ds.map nkey))∈[(da,Cell.dct (ds.map nkey)),(P,Cell.raw p)]:=.head _
 refine EX.cons (EX1.for2 Ok hh (i:=14) (j:=11) rfl (.inr rfl) rfl (.inl rfl) (fun _=>rfl) (fun p : Int × List Nat=>(V.int p.1,V.str p.2)) ?_)
 walk_at "e"
 walk_at "e"
 walk_at "e"
 walk_at "e"
 refine IB2.enumerate hh ?_
 refine ⟨enumN nm,(J17_2 P script heaps leads nm ab due found pr p da ds),enum_str,⟨_,_,_,rfl,rfl⟩,?_,?_⟩
 ·rintro ⟨one,name⟩ rest _ _ hsuf ⟨x11,x14,x15,rfl,rfl⟩
  haveI hmem : (one,name)∈enumN nm:=hsuf.subset (.head _)
  haveI hname : name∈nm:=enumN_mem hmem
  haveI hno:=hnode _ hmem
  unfold nodeOk at hno
  cases hso : sortO ltI 0 (belowOf nm ab ds one) with
  | none=>replace hno:=hso ▸ hno;exact ftm hno
  | some sv =>
  replace hno:=hso ▸ hno
  simp only [Bool.and_eq_true,decide_eq_true_eq] at hno
  obtain ⟨⟨⟨hsv,hl100⟩,hd0⟩,hd1⟩:=hno
  refine EX.cons (EX1.assign Ok (i:=15) rfl (.inl rfl) rfl (EV.bB .sorted Ok rfl G.tx G.nb rfl rfl rfl (EA.cons rfl ?_)))
  refine EV.compF Ok (by decide +kernel) rfl (fun _=>rfl) (i:=1) rfl V.int (fun k=>decide (ab.getD k.toNat 0 = one)) (fun k=>V.int ((ds.lookup (nm.getD k.toNat [])).getD 0)) ?_
  walk_at "e"
  refine EA.cons rfl ?_
  walk_at "e"
  walk_at "e"
  walk_at "e"
  walk_at "e"
  refine BJ.lenL (xs:=nm.map V.str) (.inl rfl) (sl _ (by simp;lia)) ?_
  walk_at "e"
  haveI hlen : ((nm.map V.str).length : Int) = nm.length:=by simp
  refine IB1.range1 hh (by refine rr hlen ?_;lia) ?_
  haveI hrl : (rng 0 (nm.length : Int)).length = nm.length:=by refine rr rng_len ?_;lia
  refine ⟨rng 0 nm.length,by refine rr hlen ?_;rfl,sl _ (by refine rr hrl ?_;lia),fun k hk L' D ys OkC=>?_,?_⟩
  ·haveI hk':=rng_mem hk
   refine ET.co rfl (EV.sub ?_)
   refine EV.name OkC (i:=2) rfl rfl ?_
   refine EV.name OkC (i:=1) rfl rfl ?_
   refine ⟨⟨"list",rfl⟩,GI.mapI V.int ab 0 (.inl rfl) hk'.1 (by lia) (by lia) ?_⟩
   refine EV.name OkC (i:=5) rfl rfl ?_
   refine CO.eqI ⟨rfl,rfl,fun _=>?_⟩
   refine EV.sub (EV.name OkC (i:=3) rfl rfl (EV.sub (EV.name OkC (i:=4) rfl rfl (EV.name OkC (i:=1) rfl rfl ?_))))
   refine ⟨⟨"list",rfl⟩,GI.mapI V.str nm [] (.inl rfl) hk'.1 (by lia) (by lia) ?_⟩
   refine ⟨⟨"dict",.inr ⟨_,.tail _ (.head _),rfl⟩⟩,GI.dct (.tail _ (.head _)) (dval_int (hget _ ?_)) ⟨rfl,rfl⟩⟩
   haveI hkn : k.toNat < nm.length:=by lia
   refine rr (List.getD_eq_getElem?_getD ..) ?_;refine rr (List.getElem?_eq_getElem hkn ..) ?_
   exact List.getElem_mem hkn
  haveI hb : List.map (fun k : Int=>V.int ((ds.lookup (nm.getD k.toNat [])).getD 0)) (List.filter (fun k : Int=>decide (ab.getD k.toNat 0 = one)) (rng 0 nm.length)) = (belowOf nm ab ds one).map V.int:=by simp [belowOf,List.map_map,Function.comp_def]
  refine rr hb ?_
  haveI hbl : (belowOf nm ab ds one).length < 64:=by
   unfold belowOf
   refine rr (List.length_map ..) ?_
   haveI:=List.length_filter_le (fun k : Int=>decide (ab.getD k.toNat 0 = one)) (rng 0 nm.length)
   lia
  refine EA.nil (BJ.sortedI (xs:=belowOf nm ab ds one) (.inl rfl) hbl hso ?_)
  refine EX.cons (EX1.if_ (ET.co rfl ?_))
  walk_at "e"
  refine EV.bT .list Ok rfl G.tx G.nb rfl rfl rfl (EA.cons rfl (EV.bT .range Ok rfl G.tx G.nb rfl rfl rfl ?_))
  refine EA.cons rfl (EV.op (EV.sub ?_))
  walk_at "e"
  walk_at "e"
  refine ⟨⟨"dict",.inr ⟨_,hdm,rfl⟩⟩,GI.dct hdm (dval_int (hget name hname)) ?_⟩
  walk_at "e"
  walk_at "e"
  walk_at "e"
  walk_at "e"
  refine BJ.lenL (xs:=sv.map V.int) (.inl rfl) (sl _ (by simp;lia)) ?_
  walk_at "e"
  refine EA.cons rfl (EV.sub ?_)
  walk_at "e"
  walk_at "e"
  refine ⟨⟨"dict",.inr ⟨_,hdm,rfl⟩⟩,GI.dct hdm (dval_int (hget name hname)) ?_⟩
  refine EA.nil (BT.range2 fun r=>?_)
  haveI hsl : ((sv.map V.int).length : Int) = sv.length:=by simp
  refine rr hsl ?_
  refine EA.nil (BT.listRange hh (.head _) (by lia) (by lia) (by lia) ?_)
  refine CO.neLI (xs:=sv) (ys:=rng ((ds.lookup name).getD 0 - sv.length) ((ds.lookup name).getD 0)) (.inl rfl) (.inl rfl) ?_
  refine rr (decide_eq_true hsv ..) ?_
  refine EX.nil ?_
  exact EX.drop (σ₀:=[(da,.dct (ds.map nkey)),(P,.raw p)]) (List.sublist_cons_self _ _) (EX.nil ⟨_,_,_,rfl,rfl⟩)
 ·rintro _ _ ⟨x11,x14,x15,rfl,rfl⟩
  cases hls : least ab with
  | none=>replace hleast:=hls ▸ hleast;exact ftm hleast
  | some r =>
  replace hleast:=hls ▸ hleast
  simp only [Bool.and_eq_true,decide_eq_true_eq] at hleast
  obtain ⟨hn0,hnr⟩:=hleast
  refine EX.cons (EX1.ret (EV.and2 (EV.co rfl (EV.sub ?_))))
  walk_at "e"
  refine EV.str (l:=sNews) (by decide +kernel) ⟨⟨"dict",.inr ⟨_,hdm,rfl⟩⟩,GI.dct hdm (dval_int hn0) ?_⟩
  walk_at "e"
  refine CO.eqI ⟨_,rfl,?_⟩
  refine rr (decide_eq_true rfl ..) ?_
  refine EV.co rfl (EV.sub ?_)
  walk_at "e"
  refine EV.str (l:=[48]) (by decide +kernel) ⟨⟨"dict",.inr ⟨_,hdm,rfl⟩⟩,GI.dct hdm (dval_int hnr) ?_⟩
  refine EV.op (EV.int (EV.f_least Ok G hl2 rfl rfl ?_))
  walk_at "e"
  walk_at "e"
  walk_at "e"
  refine ⟨rfl,least_fn G hh hl2 (by lia) hls (OP.addI (CO.eqI ?_))⟩
  refine rr (decide_eq_true rfl ..) ?_
  exact q _ p (.tail _ (.head _)) hpT
end
noncomputable def eolL : List Nat→List Nat
 | []=>[]
 | 13 :: 10 :: r=>13 :: 10 :: eolL r
 | c :: r=>if c == 10 || c == 13 then 13 :: 10 :: eolL r else c :: eolL r
noncomputable def dotsL : Bool→List Nat→List Nat
 | _,[]=>[]
 | b,c :: r=>if c == 46 && b then 46 :: 46 :: dotsL false r else c :: dotsL (c == 10) r
theorem drop_get {x r : List Nat} {d c : Nat} (h : x.drop d = c :: r) : x.toArray.getD d 0 = c∧d < x.length∧x.drop (d + 1) = r:=by
 haveI h1 : d < x.length:=by
  rcases Nat.lt_or_ge d x.length with q | q
  ·exact q
  ·replace h:=(List.drop_of_length_le q ..) ▸ h;cases h
 replace h:=(List.drop_eq_getElem_cons h1 ..) ▸ h
 obtain ⟨h2,h3⟩:=List.cons.inj h
 exact ⟨by simp [h1,h2],h1,h3⟩
theorem drop_end {x : List Nat} {d : Nat} (h : x.drop d = []) : x.length ≤ d:=by simpa using h
theorem extract_cons {x r : List Nat} {d p c : Nat} (h : x.drop d = c :: r) (hp : d < p) : (x.toArray.extract d p).toList = c :: (x.toArray.extract (d + 1) p).toList:=by
 obtain ⟨_,h1,h2⟩:=drop_get h
 simp only [List.extract_toArray,List.extract_eq_take_drop]
 refine rr h ?_;refine rr h2 ?_
 haveI : p - d = p - (d + 1) + 1:=by lia
 refine rr this ?_;refine rr (List.take_succ_cons ..) ?_;rfl
theorem extract_nil {x : List Nat} {d : Nat} : (x.toArray.extract d d).toList = []:=by simp
theorem eFind_ge {t : Array Nat} : ∀ {n s p : Nat},eFind t n s = some p→s ≤ p
 | 0,s,p,h=>by exact nsm h
 | n + 1,s,p,h=>by
  rw [eFind] at h
  split at h
  ·obtain rfl:=si h;exact Nat.le_refl _
  ·haveI:=eFind_ge h;lia
theorem qFind_ge {t : Array Nat} : ∀ {n s p : Nat},qFind t n s = some p→s ≤ p
 | 0,s,p,h=>by exact nsm h
 | n + 1,s,p,h=>by
  rw [qFind] at h
  split at h
  ·obtain rfl:=si h;exact Nat.le_refl _
  ·haveI:=qFind_ge h;lia
theorem eSub_plain {x r : List Nat} {d c f : Nat} (h : x.drop d = c :: r) (hc : (c == 10 || c == 13) = false) : (eSub x.toArray (f + 1) d).flatten = c :: (eSub x.toArray (f + 1) (d + 1)).flatten:=by
 obtain ⟨h1,h2,h3⟩:=drop_get h
 haveI hs : x.toArray.size = x.length:=by simp
 haveI e : eFind x.toArray (x.toArray.size - d) d = eFind x.toArray (x.toArray.size - (d + 1)) (d + 1):=by
  haveI : x.toArray.size - d = x.toArray.size - (d + 1) + 1:=by lia
  refine rr this ?_;rw [eFind];refine rr h1 ?_;refine rr hc ?_;rfl
 rw [eSub_c,eSub_c];refine rr e ?_
 cases hp : eFind x.toArray (x.toArray.size - (d + 1)) (d + 1) with
 | none =>
  dsimp only
  refine rr (if_pos (by simp;lia) ..) ?_
  haveI hx:=extract_cons (p:=x.toArray.size) h (by lia)
  by_cases q : d + 1 < x.toArray.size
  ·refine rr (if_pos (by simpa using q) ..) ?_;simp only [hx,List.flatten_cons,List.flatten_nil,List.cons_append,List.nil_append,List.append_nil]
  ·refine rr (if_neg (by simpa using q) ..) ?_
   haveI : x.toArray.size = d + 1:=by lia
   rw [this] at hx ⊢
   replace hx:=extract_nil ▸ hx
   simp only [hx,List.flatten_cons,List.flatten_nil,List.cons_append,List.nil_append,List.append_nil]
 | some p =>
  haveI:=eFind_ge hp
  dsimp only
  refine rr (if_pos (by simp;lia) ..) ?_
  haveI hx:=extract_cons (p:=p) h (by lia)
  by_cases q : d + 1 < p
  ·refine rr (if_pos (by simpa using q) ..) ?_;simp only [hx,List.flatten_cons,List.flatten_nil,List.cons_append,List.nil_append,List.append_nil]
  ·refine rr (if_neg (by simpa using q) ..) ?_
   haveI : p = d + 1:=by lia
   subst this
   replace hx:=extract_nil ▸ hx
   simp only [hx,List.flatten_cons,List.flatten_nil,List.cons_append,List.nil_append,List.append_nil]
theorem eSub_eol {x r : List Nat} {d c f : Nat} (h : x.drop d = c :: r) (hc : (c == 10 || c == 13) = true) : (eSub x.toArray (f + 1) d).flatten = 13 :: 10 :: (eSub x.toArray f (d + eolLen x.toArray d)).flatten:=by
 obtain ⟨h1,h2,h3⟩:=drop_get h
 haveI hs : x.toArray.size = x.length:=by simp
 haveI e : eFind x.toArray (x.toArray.size - d) d = some d:=by
  haveI : x.toArray.size - d = x.toArray.size - (d + 1) + 1:=by lia
  refine rr this ?_;rw [eFind];refine rr h1 ?_;refine rr hc ?_;rfl
 rw [eSub_c];refine rr e ?_
 dsimp only
 refine rr (if_neg (by simp) ..) ?_
 rfl
theorem eols_go (x : List Nat) : ∀ (n : Nat) (r : List Nat) (d f : Nat),r.length ≤ n→x.drop d = r→n ≤ f→(eSub x.toArray (f + 1) d).flatten = eolL r
 | n,[],d,f,hr,h,hf=>by
  haveI hd:=drop_end h
  haveI hs : x.toArray.size = x.length:=by simp
  haveI : x.toArray.size - d = 0:=by lia
  rw [eSub_c];refine rr this ?_;rw [eFind]
  dsimp only
  refine rr (if_neg (by simp;lia) ..) ?_
  rfl
 | 0,c :: r,d,f,hr,h,hf=>by simp at hr
 | n + 1,c :: r,d,f,hr,h,hf=>by
  obtain ⟨h1,h2,h3⟩:=drop_get h
  haveI hs : x.toArray.size = x.length:=by simp
  simp only [List.length_cons] at hr
  obtain ⟨f,rfl⟩ : ∃ g,f = g + 1:=⟨f - 1,by lia⟩
  by_cases hc : (c == 10 || c == 13) = true
  ·refine rr (eSub_eol h hc ..) ?_
   by_cases h13 : c = 13
   ·subst h13
    cases r with
    | nil =>
     haveI : eolLen x.toArray d = 1:=by
      haveI hz:=drop_end h3
      unfold eolLen
      rw [if_neg]
      intro q
      simp only [Bool.and_eq_true,decide_eq_true_eq] at q
      lia
     refine rr this ?_;refine rr (eols_go x n [] (d + 1) f (by simp) h3 (by lia) ..) ?_
     rfl
    | cons a r =>
     obtain ⟨g1,g2,g3⟩:=drop_get h3
     by_cases h10 : a = 10
     ·subst h10
      haveI : eolLen x.toArray d = 2:=by
       unfold eolLen
       refine rr h1 ?_;refine rr g1 ?_;rw [if_pos]
       simp
       lia
      refine rr this ?_;refine rr (eols_go x n r (d + 2) f (by simp at hr;lia) g3 (by lia) ..) ?_
      rfl
     ·haveI : eolLen x.toArray d = 1:=by
       unfold eolLen
       refine rr h1 ?_;refine rr g1 ?_;rw [if_neg]
       simp [h10]
      refine rr this ?_;refine rr (eols_go x n (a :: r) (d + 1) f (by lia) h3 (by lia) ..) ?_
      refine (eolL.eq_3 13 (a :: r) fun r' _ q=>?_).symm
      cases q
      exact h10 rfl
   ·haveI h10 : c = 10:=by
     simp at hc
     exact hc.resolve_right h13
    subst h10
    haveI : eolLen x.toArray d = 1:=by
     unfold eolLen
     refine rr h1 ?_;refine rr (if_neg (by simp) ..) ?_;rfl
    refine rr this ?_;refine rr (eols_go x n r (d + 1) f (by lia) h3 (by lia) ..) ?_
    rfl
  ·refine rr (eSub_plain h (by simpa using hc) ..) ?_;refine rr (eols_go x n r (d + 1) (f + 1) (by lia) h3 (by lia) ..) ?_
   refine rr (eolL.eq_3 c r fun r' q _=>by subst q;simp at hc ..) ?_;refine rr (if_neg hc ..) ?_;rfl
theorem eols_list (x : List Nat) : eolsOf x = eolL x:=eols_go x x.length x 0 x.length (Nat.le_refl _) rfl (Nat.le_refl _)
theorem qSub_plain {x r : List Nat} {d c f : Nat} (h : x.drop d = c :: r) (hc : (bol x.toArray d && c == 46) = false) : (qSub x.toArray (f + 1) d).flatten = c :: (qSub x.toArray (f + 1) (d + 1)).flatten:=by
 obtain ⟨h1,h2,h3⟩:=drop_get h
 haveI hs : x.toArray.size = x.length:=by simp
 haveI e : qFind x.toArray (x.toArray.size - d) d = qFind x.toArray (x.toArray.size - (d + 1)) (d + 1):=by
  haveI : x.toArray.size - d = x.toArray.size - (d + 1) + 1:=by lia
  refine rr this ?_;rw [qFind];refine rr h1 ?_;refine rr hc ?_;rfl
 rw [qSub_c,qSub_c];refine rr e ?_
 cases hp : qFind x.toArray (x.toArray.size - (d + 1)) (d + 1) with
 | none =>
  dsimp only
  refine rr (if_pos (by simp;lia) ..) ?_
  haveI hx:=extract_cons (p:=x.toArray.size) h (by lia)
  by_cases q : d + 1 < x.toArray.size
  ·refine rr (if_pos (by simpa using q) ..) ?_;simp only [hx,List.flatten_cons,List.flatten_nil,List.cons_append,List.nil_append,List.append_nil]
  ·refine rr (if_neg (by simpa using q) ..) ?_
   haveI : x.toArray.size = d + 1:=by lia
   rw [this] at hx ⊢
   replace hx:=extract_nil ▸ hx
   simp only [hx,List.flatten_cons,List.flatten_nil,List.cons_append,List.nil_append,List.append_nil]
 | some p =>
  haveI:=qFind_ge hp
  dsimp only
  refine rr (if_pos (by simp;lia) ..) ?_
  haveI hx:=extract_cons (p:=p) h (by lia)
  by_cases q : d + 1 < p
  ·refine rr (if_pos (by simpa using q) ..) ?_;simp only [hx,List.flatten_cons,List.flatten_nil,List.cons_append,List.nil_append,List.append_nil]
  ·refine rr (if_neg (by simpa using q) ..) ?_
   haveI : p = d + 1:=by lia
   subst this
   replace hx:=extract_nil ▸ hx
   simp only [hx,List.flatten_cons,List.flatten_nil,List.cons_append,List.nil_append,List.append_nil]
theorem bol_next {x r : List Nat} {d c : Nat} (h : x.drop d = c :: r) : bol x.toArray (d + 1) = (c == 10):=by
 obtain ⟨h1,h2,h3⟩:=drop_get h
 unfold bol
 refine rr (Nat.add_sub_cancel ..) ?_;refine rr h1 ?_
 simp
theorem dots_go (x : List Nat) : ∀ (r : List Nat) (d f : Nat),x.drop d = r→r.length ≤ f→(qSub x.toArray (f + 1) d).flatten = dotsL (bol x.toArray d) r
 | [],d,f,h,hf=>by
  haveI hd:=drop_end h
  haveI hs : x.toArray.size = x.length:=by simp
  haveI : x.toArray.size - d = 0:=by lia
  rw [qSub_c];refine rr this ?_;rw [qFind]
  dsimp only
  refine rr (if_neg (by simp;lia) ..) ?_
  simp [dotsL]
 | c :: r,d,f,h,hf=>by
  obtain ⟨h1,h2,h3⟩:=drop_get h
  haveI hs : x.toArray.size = x.length:=by simp
  simp only [List.length_cons] at hf
  rw [dotsL]
  by_cases hc : (bol x.toArray d && c == 46) = true
  ·obtain ⟨f,rfl⟩ : ∃ g,f = g + 1:=⟨f - 1,by lia⟩
   haveI hb:=bol_next h
   haveI e : qFind x.toArray (x.toArray.size - d) d = some d:=by
    haveI : x.toArray.size - d = x.toArray.size - (d + 1) + 1:=by lia
    refine rr this ?_;rw [qFind];refine rr h1 ?_;refine rr hc ?_;rfl
   rw [qSub_c];refine rr e ?_
   dsimp only
   rw [if_neg (by simp),if_pos (by rw [Bool.and_comm];exact hc)]
   simp only [Bool.and_eq_true,beq_iff_eq] at hc
   haveI:=dots_go x r (d + 1) f h3 (by lia)
   replace this:=hb ▸ this;replace this:=(hc.2 ..) ▸ this
   show 46 :: 46 :: (qSub x.toArray (f + 1) (d + 1)).flatten = _
   refine rr this ?_
   rfl
  ·rw [qSub_plain h (by simpa using hc),dots_go x r (d + 1) f h3 (by lia),bol_next h,if_neg (by rw [Bool.and_comm];exact hc)]
theorem dots_list (x : List Nat) : dotsOf x = dotsL true x:=dots_go x x 0 x.length rfl (Nat.le_refl _)
section
open PySem.StrLaws
theorem glue_nil : ∀ ss : List (List Nat),glue [] ss = ss.flatten
 | []=>rfl
 | [x]=>by simp [glue]
 | x :: y :: r=>by
  have:=glue_nil (y :: r)
  simp only [glue,List.append_nil,List.flatten_cons] at this ⊢
  refine rr this ?_;rfl
theorem eolL_plain : ∀ (p r : List Nat),(∀ c∈p,c ≠ 10∧c ≠ 13)→eolL (p ++ r) = p ++ eolL r
 | [],r,_=>rfl
 | c :: p,r,h=>by
  have hc:=h c (.head _)
  refine rr (List.cons_append ..) ?_;refine rr (eolL.eq_3 c (p ++ r) fun r' q _=>hc.2 q ..) ?_;refine rr (if_neg (by simp [hc.1,hc.2]) ..) ?_;refine rr (eolL_plain p r fun c hm=>h c (.tail _ hm) ..) ?_
  rfl
theorem eolL_end (h : Int) (r : List Nat) (hr : ∀ r',r = 10 :: r'→False) : eolL (endOf h ++ r) = 13 :: 10 :: eolL r:=by
 unfold endOf
 have hm:=fmod_rng (a:=h.fdiv 16) (b:=3) (by decide)
 generalize (h.fdiv 16).fmod 3 = k at hm
 have : k = 0 ∨ k = 1 ∨ k = 2:=by lia
 rcases this with rfl | rfl | rfl
 ·show eolL (10 :: r) = _
  refine rr (eolL.eq_3 10 r fun r' q _=>by cases q ..) ?_
  rfl
 ·show eolL (13 :: r) = _
  refine rr (eolL.eq_3 13 r fun r' _ q=>hr r' q ..) ?_
  rfl
 ·show eolL (13 :: 10 :: r) = _
  rw [eolL]
noncomputable def crRow (p : List Nat × Int) : List Nat:=rowOf p.1 ++ [13,10]
theorem row_head {l : List Nat} (h : ∀ c∈l,c ≠ 10∧c ≠ 13) (r r' : List Nat) (q : rowOf l ++ r = 10 :: r') : False:=by
 unfold rowOf at q
 cases l with
 | nil=>simp at q
 | cons c l =>
  simp only [List.cons_append,List.cons.injEq] at q
  exact (h c (.head _)).1 q.1
theorem eolL_page : ∀ (ps : List (List Nat × Int)),(∀ p∈ps,∀ c∈p.1,c ≠ 10∧c ≠ 13)→eolL (ps.map lineOf).flatten = (ps.map crRow).flatten
 | [],_=>rfl
 | p :: ps,h=>by
  have hp:=h p (.head _)
  have hrow : ∀ c∈rowOf p.1,c ≠ 10∧c ≠ 13:=fun c hc=>by
   rcases List.mem_append.mp hc with q | q
   ·exact hp c q
   ·refine rr (List.mem_singleton.mp q ..) ?_;decide
  rw [List.map_cons,List.flatten_cons,List.map_cons,List.flatten_cons,← eolL_page ps fun q hq=>h q (.tail _ hq)]
  show eolL (rowOf p.1 ++ endOf p.2 ++ _) = rowOf p.1 ++ [13,10] ++ _
  refine rr (List.append_assoc ..) ?_;refine rr (eolL_plain _ _ hrow ..) ?_;rw [eolL_end]
  ·simp
  ·intro r' q
   cases ps with
   | nil=>cases q
   | cons p' ps =>
    replace q:=(List.map_cons ..) ▸ q;replace q:=(List.flatten_cons ..) ▸ q
    replace q : rowOf p'.1 ++ endOf p'.2 ++ _ = _:=q
    replace q:=(List.append_assoc ..) ▸ q
    exact row_head (h p' (.tail _ (.head _))) _ _ q
theorem eols_page {leads : List (List Nat)} {heaps : List Int} (hl : leads.length = heaps.length) (h : ∀ l∈leads,∀ c∈l,c ≠ 10∧c ≠ 13) : eolsOf (pageOf leads heaps) = ((leads.map rowOf).map (· ++ [13,10])).flatten:=by
 rw [eols_list]
 unfold pageOf
 rw [glue_nil,eolL_page _ fun p hp=>h p.1 (List.of_mem_zip hp).1]
 congr 1
 refine rr (List.map_map ..) ?_
 have : (leads.zip heaps).map crRow = ((leads.zip heaps).map Prod.fst).map ((· ++ [13,10]) ∘ rowOf):=by refine rr (List.map_map ..) ?_;rfl
 refine rr this ?_;refine rr (List.map_fst_zip (by lia) ..) ?_;rfl
noncomputable def cutsOf : Nat→List (List Nat)→List Nat
 | _,[]=>[]
 | a,r :: rs=>(a + r.length) :: cutsOf (a + r.length + 2) rs
noncomputable def cutEnd : Nat→List (List Nat)→Nat
 | a,[]=>a
 | a,r :: rs=>cutEnd (a + r.length + 2) rs
theorem at_iff {x : List Nat} {k : Nat} : At (mkS x) (mkS [13,10]) (mkS x).length k ↔ (x.drop k).take 2 = [13,10]:=by
 unfold At
 rw [subAt_eq]
 show (k + 2 ≤ (mkS x).length∧((x.drop k).take 2 == [13,10]) = true) ↔ _
 rw [beq_iff_eq]
 constructor
 ·exact fun h=>h.2
 ·intro h
  refine ⟨?_,h⟩
  have:=congrArg List.length h
  replace this:=(List.length_take ..) ▸ this;replace this:=(List.length_drop ..) ▸ this
  refine rr str_len ?_
  simp at this
  lia
theorem chainG_same {s sub : Str} {hi : Nat} : ∀ {a : Nat} {l l' : List Nat} {f f' : Nat},ChainG s sub hi a l f→(∀ k,f ≤ k→¬ At s sub hi k)→ChainG s sub hi a l' f'→(∀ k,f' ≤ k→¬ At s sub hi k)→l = l'
 | a,[],[],f,f',_,_,_,_=>rfl
 | a,[],c :: r,f,f',h1,h2,h3,h4=>by
  obtain rfl : f = a:=h1
  exact absurd h3.2.1 (h2 c h3.1)
 | a,c :: r,[],f,f',h1,h2,h3,h4=>by
  obtain rfl : f' = a:=h3
  exact absurd h1.2.1 (h4 c h1.1)
 | a,c :: r,c' :: r',f,f',h1,h2,h3,h4=>by
  have : c = c':=by
   rcases Nat.lt_trichotomy c c' with q | q | q
   ·exact absurd h1.2.1 (h3.2.2.1 c h1.1 q)
   ·exact q
   ·exact absurd h3.2.1 (h1.2.2.1 c' h3.1 q)
  subst this
  refine rr (chainG_same h1.2.2.2 h2 h3.2.2.2 h4 ..) ?_;rfl
noncomputable abbrev flatR (rows : List (List Nat)) : List Nat:=(rows.map (· ++ [13,10])).flatten
theorem no_at {x p r : List Nat} {a k : Nat} (h : x.drop a = p ++ r) (hp : 13 ∉ p) (h1 : a ≤ k) (h2 : k < a + p.length) : ¬ (x.drop k).take 2 = [13,10]:=by
 intro q
 have e : x.drop k = (p ++ r).drop (k - a):=by refine rl h ?_;refine rr (List.drop_drop ..) ?_;congr 1;lia
 replace q:=e ▸ q;rw [List.drop_append_of_le_length (by lia)] at q
 have hlt : k - a < p.length:=by lia
 replace q:=(List.drop_eq_getElem_cons hlt ..) ▸ q;replace q:=(List.cons_append ..) ▸ q;replace q:=(List.take_succ_cons ..) ▸ q
 have:=(List.cons.inj q).1
 exact hp (this ▸ List.getElem_mem hlt)
theorem cuts_chain {x : List Nat} : ∀ (rows : List (List Nat)) (a : Nat),(∀ r∈rows,13 ∉ r)→x.drop a = flatR rows→ChainG (mkS x) (mkS [13,10]) (mkS x).length a (cutsOf a rows) (cutEnd a rows)∧∀ k,cutEnd a rows ≤ k→¬ At (mkS x) (mkS [13,10]) (mkS x).length k
 | [],a,_,h=>by
  refine ⟨rfl,fun k hk q=>?_⟩
  rw [at_iff] at q
  have h' : x.length ≤ a:=drop_end h
  have hk' : a ≤ k:=hk
  rw [List.drop_of_length_le (by lia)] at q
  cases q
 | r :: rs,a,hf,h=>by
  have hr:=hf r (.head _)
  have h' : x.drop a = r ++ ([13,10] ++ flatR rs):=by refine rr h ?_;simp [flatR]
  have e1 : x.drop (a + r.length) = 13 :: 10 :: flatR rs:=by refine rl (List.drop_drop ..) ?_;refine rr h' ?_;refine rr (List.drop_left ..) ?_;rfl
  have e2 : x.drop (a + r.length + 2) = flatR rs:=by refine rl (List.drop_drop ..) ?_;refine rr e1 ?_;rfl
  obtain ⟨i1,i2⟩:=cuts_chain rs (a + r.length + 2) (fun r hm=>hf r (.tail _ hm)) e2
  refine ⟨⟨by lia,at_iff.mpr (by refine rr e1 ?_;rfl),fun k h1 h2 q=>no_at h' hr h1 h2 (at_iff.mp q),i1⟩,i2⟩
theorem parts_rows {x : List Nat} : ∀ (rows : List (List Nat)) (a : Nat),x.drop a = flatR rows→partsFrom (mkS x) 2 a (cutsOf a rows) = (rows ++ [[]]).map mkS
 | [],a,h=>by
  have h' : x.length ≤ a:=drop_end h
  show [Builtin.Str.strSub (mkS x) a (mkS x).length] = [mkS []]
  rw [strSub_mk,List.drop_of_length_le h']
  simp
 | r :: rs,a,h=>by
  have h' : x.drop a = r ++ ([13,10] ++ flatR rs):=by refine rr h ?_;simp [flatR]
  have e1 : x.drop (a + r.length) = 13 :: 10 :: flatR rs:=by refine rl (List.drop_drop ..) ?_;refine rr h' ?_;refine rr (List.drop_left ..) ?_;rfl
  have e2 : x.drop (a + r.length + 2) = flatR rs:=by refine rl (List.drop_drop ..) ?_;refine rr e1 ?_;rfl
  show Builtin.Str.strSub (mkS x) a (a + r.length) :: partsFrom (mkS x) 2 (a + r.length + 2) (cutsOf (a + r.length + 2) rs) = _
  rw [parts_rows rs _ e2,strSub_mk,h',Nat.add_sub_cancel_left,List.take_left]
  rfl
theorem split_rows {rows : List (List Nat)} (hne : rows ≠ []) (hf : ∀ r∈rows,13 ∉ r) : Txt.split (mkS (flatR rows)) (mkS [13,10]) = (rows ++ [[]]).map mkS:=by
 obtain ⟨f,g1,g2⟩:=occ_tight (mkS (flatR rows)) (mkS [13,10]) (by refine rr str_len ?_;decide)
 obtain ⟨c1,c2⟩:=cuts_chain (x:=flatR rows) rows 0 hf rfl
 have e:=chainG_same g1 g2 c1 c2
 unfold Txt.split
 have hlen : 2 ≤ (flatR rows).length:=by
  cases rows with
  | nil=>exact absurd rfl hne
  | cons r rs=>simp [flatR];lia
 have hk1 : Builtin.Str.strKind (mkS [13,10]) = 1:=by decide +kernel
 have hk2 : 1 ≤ Builtin.Str.strKind (mkS (flatR rows)):=by
  unfold Builtin.Str.strKind
  split
  ·exact Nat.le_refl _
  ·split <;> decide
 rw [if_neg,e,if_neg,partsBetween_eq]
 ·exact parts_rows rows 0 rfl
 ·cases rows with
  | nil=>exact absurd rfl hne
  | cons r rs=>simp [cutsOf]
 ·refine rr hk1 ?_;refine rr str_len ?_;refine rr str_len ?_
  have : ([13,10] : List Nat).length = 2:=rfl
  simp only [Bool.or_eq_true,decide_eq_true_eq]
  lia
end
noncomputable def findC {α : Type} (c : Nat) : List (Nat × α)→Option α
 | []=>none
 | p :: r=>match Nat.beq c p.1 with
  | true=>some p.2
  | false=>findC c r
theorem findC_mem {α : Type} {c : Nat} {v : α} : ∀ {l : List (Nat × α)},findC c l = some v→∃ k,(k,v)∈l
 | [],h=>by exact nsm h
 | p :: r,h=>by
  rw [findC] at h
  split at h
  ·obtain rfl:=si h;exact ⟨p.1,.head _⟩
  ·obtain ⟨k,hk⟩:=findC_mem h
   exact ⟨k,.tail _ hk⟩
noncomputable def codeA (a : List Nat) : Nat:=a.foldl (fun n c=>n * 64 + c) 0
noncomputable def codeS (ab : List Int) : Nat:=ab.foldl (fun n a=>n * 8 + (a + 1).toNat) 1
noncomputable def addrsC : List (Nat × List Nat):=[(3082,[48,10]),(12774474,[48,46,49,10]),(12774538,[48,46,50,10]),(12774602,[48,46,51,10]),(12774666,[48,46,52,10]),(12774730,[48,46,53,10]),(12774794,[48,46,54,10]),(52324396106,[48,46,49,46,49,10]),(214320726600778,[48,46,49,46,49,46,49,10]),(877857696156937290,[48,46,49,46,49,46,49,46,49,10]),(877857696156937354,[48,46,49,46,49,46,49,46,50,10]),(877857696156937418,[48,46,49,46,49,46,49,46,51,10]),(214320726600842,[48,46,49,46,49,46,50,10]),(52324396170,[48,46,49,46,50,10]),(877857696157199434,[48,46,49,46,49,46,50,46,49,10]),(214320726600906,[48,46,49,46,49,46,51,10]),(214320726862922,[48,46,49,46,50,46,49,10]),(52324396234,[48,46,49,46,51,10]),(877857696157199498,[48,46,49,46,49,46,50,46,50,10]),(877857696157461578,[48,46,49,46,49,46,51,46,49,10]),(214320726600970,[48,46,49,46,49,46,52,10]),(52324658250,[48,46,50,46,49,10]),(877857697230679114,[48,46,49,46,50,46,49,46,49,10]),(214320726862986,[48,46,49,46,50,46,50,10]),(214320727125066,[48,46,49,46,51,46,49,10]),(52324396298,[48,46,49,46,52,10]),(214321800342602,[48,46,50,46,49,46,49,10]),(52324658314,[48,46,50,46,50,10]),(52324920394,[48,46,51,46,49,10]),(877857697230679178,[48,46,49,46,50,46,49,46,50,10]),(877857697230941258,[48,46,49,46,50,46,50,46,49,10]),(214320726863050,[48,46,49,46,50,46,51,10]),(877857698304420938,[48,46,49,46,51,46,49,46,49,10]),(214320727125130,[48,46,49,46,51,46,50,10]),(214320727387210,[48,46,49,46,52,46,49,10]),(52324396362,[48,46,49,46,53,10]),(877862094203448394,[48,46,50,46,49,46,49,46,49,10]),(214321800342666,[48,46,50,46,49,46,50,10]),(214321800604746,[48,46,50,46,50,46,49,10]),(52324658378,[48,46,50,46,51,10]),(214322874084426,[48,46,51,46,49,46,49,10]),(52324920458,[48,46,51,46,50,10]),(52325182538,[48,46,52,46,49,10]),(877862094203448458,[48,46,50,46,49,46,49,46,50,10]),(877862094203710538,[48,46,50,46,49,46,50,46,49,10]),(214321800342730,[48,46,50,46,49,46,51,10]),(877862095277190218,[48,46,50,46,50,46,49,46,49,10]),(214321800604810,[48,46,50,46,50,46,50,10]),(214321800866890,[48,46,50,46,51,46,49,10]),(52324658442,[48,46,50,46,52,10]),(877866492249959498,[48,46,51,46,49,46,49,46,49,10]),(214322874084490,[48,46,51,46,49,46,50,10]),(214322874346570,[48,46,51,46,50,46,49,10]),(52324920522,[48,46,51,46,51,10]),(214323947826250,[48,46,52,46,49,46,49,10]),(52325182602,[48,46,52,46,50,10]),(52325444682,[48,46,53,46,49,10])]
noncomputable def shapes0 : List (Nat × List Int):=[(65,[-1,0]),(521,[-1,0,0]),(522,[-1,0,1]),(4169,[-1,0,0,0]),(4171,[-1,0,0,2]),(4177,[-1,0,1,0]),(4178,[-1,0,1,1]),(4179,[-1,0,1,2]),(33353,[-1,0,0,0,0]),(33356,[-1,0,0,0,3]),(33369,[-1,0,0,2,0]),(33371,[-1,0,0,2,2]),(33372,[-1,0,0,2,3]),(33417,[-1,0,1,0,0]),(33420,[-1,0,1,0,3]),(33425,[-1,0,1,1,0]),(33426,[-1,0,1,1,1]),(33428,[-1,0,1,1,3]),(33433,[-1,0,1,2,0]),(33434,[-1,0,1,2,1])]
noncomputable def shapes1 : List (Nat × List Int):=[(33435,[-1,0,1,2,2]),(33436,[-1,0,1,2,3]),(266825,[-1,0,0,0,0,0]),(266829,[-1,0,0,0,0,4]),(266849,[-1,0,0,0,3,0]),(266852,[-1,0,0,0,3,3]),(266853,[-1,0,0,0,3,4]),(266953,[-1,0,0,2,0,0]),(266957,[-1,0,0,2,0,4]),(266969,[-1,0,0,2,2,0]),(266971,[-1,0,0,2,2,2]),(266973,[-1,0,0,2,2,4]),(266977,[-1,0,0,2,3,0]),(266979,[-1,0,0,2,3,2]),(266980,[-1,0,0,2,3,3]),(266981,[-1,0,0,2,3,4]),(267337,[-1,0,1,0,0,0]),(267341,[-1,0,1,0,0,4]),(267361,[-1,0,1,0,3,0]),(267364,[-1,0,1,0,3,3])]
noncomputable def shapes2 : List (Nat × List Int):=[(267365,[-1,0,1,0,3,4]),(267401,[-1,0,1,1,0,0]),(267405,[-1,0,1,1,0,4]),(267409,[-1,0,1,1,1,0]),(267410,[-1,0,1,1,1,1]),(267413,[-1,0,1,1,1,4]),(267425,[-1,0,1,1,3,0]),(267426,[-1,0,1,1,3,1]),(267428,[-1,0,1,1,3,3]),(267429,[-1,0,1,1,3,4]),(267465,[-1,0,1,2,0,0]),(267469,[-1,0,1,2,0,4]),(267473,[-1,0,1,2,1,0]),(267474,[-1,0,1,2,1,1]),(267477,[-1,0,1,2,1,4]),(267481,[-1,0,1,2,2,0]),(267482,[-1,0,1,2,2,1]),(267483,[-1,0,1,2,2,2]),(267485,[-1,0,1,2,2,4]),(267490,[-1,0,1,2,3,1])]
noncomputable def shapes3 : List (Nat × List Int):=[(267491,[-1,0,1,2,3,2]),(267492,[-1,0,1,2,3,3]),(2134601,[-1,0,0,0,0,0,0]),(2134606,[-1,0,0,0,0,0,5]),(2134633,[-1,0,0,0,0,4,0]),(2134637,[-1,0,0,0,0,4,4]),(2134638,[-1,0,0,0,0,4,5]),(2134793,[-1,0,0,0,3,0,0]),(2134798,[-1,0,0,0,3,0,5]),(2134817,[-1,0,0,0,3,3,0]),(2134820,[-1,0,0,0,3,3,3]),(2134822,[-1,0,0,0,3,3,5]),(2134825,[-1,0,0,0,3,4,0]),(2134828,[-1,0,0,0,3,4,3]),(2134829,[-1,0,0,0,3,4,4]),(2134830,[-1,0,0,0,3,4,5]),(2135625,[-1,0,0,2,0,0,0]),(2135630,[-1,0,0,2,0,0,5]),(2135657,[-1,0,0,2,0,4,0]),(2135661,[-1,0,0,2,0,4,4])]
noncomputable def shapes4 : List (Nat × List Int):=[(2135662,[-1,0,0,2,0,4,5]),(2135753,[-1,0,0,2,2,0,0]),(2135758,[-1,0,0,2,2,0,5]),(2135769,[-1,0,0,2,2,2,0]),(2135771,[-1,0,0,2,2,2,2]),(2135774,[-1,0,0,2,2,2,5]),(2135785,[-1,0,0,2,2,4,0]),(2135787,[-1,0,0,2,2,4,2]),(2135789,[-1,0,0,2,2,4,4]),(2135790,[-1,0,0,2,2,4,5]),(2135817,[-1,0,0,2,3,0,0]),(2135822,[-1,0,0,2,3,0,5]),(2135833,[-1,0,0,2,3,2,0]),(2135835,[-1,0,0,2,3,2,2]),(2135838,[-1,0,0,2,3,2,5]),(2135841,[-1,0,0,2,3,3,0]),(2135843,[-1,0,0,2,3,3,2]),(2135844,[-1,0,0,2,3,3,3]),(2135846,[-1,0,0,2,3,3,5]),(2135851,[-1,0,0,2,3,4,2])]
noncomputable def shapes5 : List (Nat × List Int):=[(2135852,[-1,0,0,2,3,4,3]),(2135853,[-1,0,0,2,3,4,4]),(2138697,[-1,0,1,0,0,0,0]),(2138702,[-1,0,1,0,0,0,5]),(2138729,[-1,0,1,0,0,4,0]),(2138733,[-1,0,1,0,0,4,4]),(2138734,[-1,0,1,0,0,4,5]),(2138889,[-1,0,1,0,3,0,0]),(2138894,[-1,0,1,0,3,0,5]),(2138913,[-1,0,1,0,3,3,0]),(2138916,[-1,0,1,0,3,3,3]),(2138918,[-1,0,1,0,3,3,5]),(2138921,[-1,0,1,0,3,4,0]),(2138924,[-1,0,1,0,3,4,3]),(2138925,[-1,0,1,0,3,4,4]),(2138926,[-1,0,1,0,3,4,5]),(2139209,[-1,0,1,1,0,0,0]),(2139214,[-1,0,1,1,0,0,5]),(2139241,[-1,0,1,1,0,4,0]),(2139245,[-1,0,1,1,0,4,4])]
noncomputable def shapes6 : List (Nat × List Int):=[(2139246,[-1,0,1,1,0,4,5]),(2139273,[-1,0,1,1,1,0,0]),(2139278,[-1,0,1,1,1,0,5]),(2139281,[-1,0,1,1,1,1,0]),(2139282,[-1,0,1,1,1,1,1]),(2139286,[-1,0,1,1,1,1,5]),(2139305,[-1,0,1,1,1,4,0]),(2139306,[-1,0,1,1,1,4,1]),(2139309,[-1,0,1,1,1,4,4]),(2139310,[-1,0,1,1,1,4,5]),(2139401,[-1,0,1,1,3,0,0]),(2139406,[-1,0,1,1,3,0,5]),(2139409,[-1,0,1,1,3,1,0]),(2139410,[-1,0,1,1,3,1,1]),(2139414,[-1,0,1,1,3,1,5]),(2139425,[-1,0,1,1,3,3,0]),(2139426,[-1,0,1,1,3,3,1]),(2139428,[-1,0,1,1,3,3,3]),(2139430,[-1,0,1,1,3,3,5]),(2139434,[-1,0,1,1,3,4,1])]
noncomputable def shapes7 : List (Nat × List Int):=[(2139436,[-1,0,1,1,3,4,3]),(2139437,[-1,0,1,1,3,4,4]),(2139721,[-1,0,1,2,0,0,0]),(2139726,[-1,0,1,2,0,0,5]),(2139753,[-1,0,1,2,0,4,0]),(2139757,[-1,0,1,2,0,4,4]),(2139758,[-1,0,1,2,0,4,5]),(2139785,[-1,0,1,2,1,0,0]),(2139790,[-1,0,1,2,1,0,5]),(2139793,[-1,0,1,2,1,1,0]),(2139794,[-1,0,1,2,1,1,1]),(2139798,[-1,0,1,2,1,1,5]),(2139817,[-1,0,1,2,1,4,0]),(2139818,[-1,0,1,2,1,4,1]),(2139821,[-1,0,1,2,1,4,4]),(2139822,[-1,0,1,2,1,4,5]),(2139849,[-1,0,1,2,2,0,0]),(2139854,[-1,0,1,2,2,0,5]),(2139857,[-1,0,1,2,2,1,0]),(2139858,[-1,0,1,2,2,1,1])]
noncomputable def shapes8 : List (Nat × List Int):=[(2139862,[-1,0,1,2,2,1,5]),(2139865,[-1,0,1,2,2,2,0]),(2139866,[-1,0,1,2,2,2,1]),(2139867,[-1,0,1,2,2,2,2]),(2139870,[-1,0,1,2,2,2,5]),(2139882,[-1,0,1,2,2,4,1]),(2139883,[-1,0,1,2,2,4,2]),(2139885,[-1,0,1,2,2,4,4]),(2139921,[-1,0,1,2,3,1,0]),(2139922,[-1,0,1,2,3,1,1]),(2139926,[-1,0,1,2,3,1,5]),(2139929,[-1,0,1,2,3,2,0]),(2139930,[-1,0,1,2,3,2,1]),(2139931,[-1,0,1,2,3,2,2]),(2139934,[-1,0,1,2,3,2,5]),(2139938,[-1,0,1,2,3,3,1]),(2139939,[-1,0,1,2,3,3,2]),(2139940,[-1,0,1,2,3,3,3])]
noncomputable def shapesC : List (Nat × List Int):=shapes0 ++ shapes1 ++ shapes2 ++ shapes3 ++ shapes4 ++ shapes5 ++ shapes6 ++ shapes7 ++ shapes8
noncomputable def ipT (a : List Nat) : Option (Nat × Nat):=match Nat.ble a.length 2 with
 | true=>none
 | false=>some (a.length - 3,a.length - 1)
noncomputable def knownA (a : List Nat) : Bool:=match findC (codeA a) addrsC with
 | some b=>decide (b = a)
 | none=>false
theorem ip_tab : (addrsC.all fun p=>decide (ipRes p.2 = some (ipT p.2))) = true:=by decide +kernel
set_option tactic.hygienic true in
theorem ip_known {a : List Nat} (h : knownA a = true) : ipRes a = some (ipT a):=by
 unfold knownA at h
 split at h
 ·rename_i b hb
  obtain ⟨k,hk⟩:=findC_mem hb
  haveI:=List.all_eq_true.mp ip_tab _ hk
  haveI e : b = a:=of_decide_eq_true h
  subst e
  exact of_decide_eq_true this
 ·exact ftm h
noncomputable def newsTblF : List (List Nat)→Tbl→Option Tbl
 | [],t=>some t
 | a :: r,t=>if (t.any fun e=>e.1 == a) then none else if decide (a.length ≤ 1000) && knownA a then
   match ipT a with
   | none=>newsTblF r (t ++ [(a,[])])
   | some (b,e)=>if decide ((without a b e).length ≤ 1000) && decide ((strSlice a none (some b)).length ≤ 10000) && decide ((strSlice a (some e) none).length ≤ 10000) then
     match addChild (without a b e) a (t ++ [(a,[])]) with
     | none=>none
     | some t'=>newsTblF r t'
    else none
  else none
theorem newsTblF_c {a r t} : newsTblF (a :: r) t = (if (t.any fun e=>e.1 == a) then none else if decide (a.length ≤ 1000) && knownA a then
   match ipT a with
   | none=>newsTblF r (t ++ [(a,[])])
   | some (b,e)=>if decide ((without a b e).length ≤ 1000) && decide ((strSlice a none (some b)).length ≤ 10000) && decide ((strSlice a (some e) none).length ≤ 10000) then
     match addChild (without a b e) a (t ++ [(a,[])]) with
     | none=>none
     | some t'=>newsTblF r t'
    else none
  else none):=rfl
set_option tactic.hygienic true in
theorem newsTblF_ok : ∀ {l : List (List Nat)} {t t' : Tbl},newsTblF l t = some t'→newsTbl l t = some t'
 | [],t,t',h=>h
 | a :: r,t,t',h=>by
  rw [newsTblF_c] at h
  rw [newsTbl_c]
  by_cases h1 : (t.any fun e=>e.1 == a) = true
  ·replace h:=(if_pos h1 ..) ▸ h;exact nsm h
  ·rw [if_neg h1] at h ⊢
   by_cases h2 : (decide (a.length ≤ 1000) && knownA a) = true
   ·replace h:=(if_pos h2 ..) ▸ h
    simp only [Bool.and_eq_true] at h2
    refine rr (if_pos h2.1 ..) ?_;refine rr (ip_known h2.2 ..) ?_
    cases hi : ipT a with
    | none =>
     replace h:=hi ▸ h
     exact newsTblF_ok h
    | some be =>
     obtain ⟨b,e⟩:=be
     replace h:=hi ▸ h
     dsimp only at h ⊢
     split at h
     ·rename_i h3
      refine rr (if_pos h3 ..) ?_
      split at h
      ·exact nsm h
      ·rename_i t₂ h4
       try refine rr h4 ?_
       exact newsTblF_ok h
     ·exact nsm h
   ·replace h:=(if_neg h2 ..) ▸ h;exact nsm h
noncomputable def news3F : Nat→List (List Nat)→List Nat→Tbl→Option (List Nat)
 | 0,_,mail,_=>if decide (mail.length ≤ 10000) && smallB mail then some mail else none
 | k + 1,told,mail,t =>
  if decide (mail.length ≤ 10000) && smallB mail && decide (told.length ≤ 1000) && decide (t.length ≤ 1000) && (t.all fun e=>decide (e.2.length ≤ 1000)) then
   match popAll told t with
   | none=>none
   | some (fresh,t') =>
    if decide (fresh.length ≤ 100) && (fresh.all fun o=>decide (o.length ≤ 1000)) && smallB (addOf fresh) && decide ((addOf fresh).length ≤ 100000) && smallB (dotsL true mail) && decide ((dotsL true mail).length ≤ 100000) then
     news3F k (told ++ fresh) (dotsL true mail ++ addOf fresh) t'
    else none
  else none
theorem news3F_c {k told mail t} : news3F (k + 1) told mail t = (if decide (mail.length ≤ 10000) && smallB mail && decide (told.length ≤ 1000) && decide (t.length ≤ 1000) && (t.all fun e=>decide (e.2.length ≤ 1000)) then
   match popAll told t with
   | none=>none
   | some (fresh,t') =>
    if decide (fresh.length ≤ 100) && (fresh.all fun o=>decide (o.length ≤ 1000)) && smallB (addOf fresh) && decide ((addOf fresh).length ≤ 100000) && smallB (dotsL true mail) && decide ((dotsL true mail).length ≤ 100000) then
     news3F k (told ++ fresh) (dotsL true mail ++ addOf fresh) t'
    else none
  else none):=rfl
theorem news3F_eq : ∀ (k : Nat) (told : List (List Nat)) (mail : List Nat) (t : Tbl),news3 k told mail t = news3F k told mail t
 | 0,told,mail,t=>rfl
 | k + 1,told,mail,t=>by
  rw [news3_c,news3F_c,dots_list]
  split
  ·cases popAll told t with
   | none=>rfl
   | some p =>
    obtain ⟨fresh,t'⟩:=p
    dsimp only
    rw [news3F_eq]
  ·rfl
noncomputable def newsF (found : List (List Nat)) : Option (List (List Nat × Int)) :=
 match newsTblF ([48,10] :: found) [] with
 | none=>none
 | some t =>
  match news2 (vpick ([48,10] :: found) none none (some (-1))) t [] with
  | none=>none
  | some (t',n) =>
   match n.lookup [48,10] with
   | none=>none
   | some k =>
    if decide (0 ≤ k) && decide (k ≤ 1000) then
     match news3F k.toNat [[48,10]] mail0 t' with
     | none=>none
     | some m=>some (pairsOfM m)
    else none
theorem newsF_ok {found : List (List Nat)} {ps : List (List Nat × Int)} (h : newsF found = some ps) : news found = some ps:=by
 unfold newsF at h
 unfold news
 cases ht : newsTblF ([48,10] :: found) [] with
 | none=>replace h:=ht ▸ h;exact nsm h
 | some t =>
  replace h:=ht ▸ h
  refine rr (newsTblF_ok ht ..) ?_
  simp only [news3F_eq]
  exact h
noncomputable def tailF (nm : List (List Nat)) (ab : List Int) : Bool :=
 match newsF (foundOf nm) with
 | none=>false
 | some ps=>tailOk nm ab ps
theorem tailF_ok {nm : List (List Nat)} {ab : List Int} (h : tailF nm ab = true) : tailAll nm ab = true:=by
 unfold tailF at h
 unfold tailAll
 cases hn : newsF (foundOf nm) with
 | none=>replace h:=hn ▸ h;exact ftm h
 | some ps=>replace h:=hn ▸ h;refine rr (newsF_ok hn ..) ?_;exact h
noncomputable def namesGo : List Int→List (List Nat)→List Int→List (List Nat)
 | [],nm,_=>nm
 | a :: r,nm,ab=>namesGo r (nm ++ [nm.getD a.toNat [] ++ [46] ++ [48 + (ab ++ [a]).count a]]) (ab ++ [a])
noncomputable def namesOf (ab : List Int) : List (List Nat):=namesGo (ab.drop 1) [[48]] [-1]
noncomputable def tailS (l : List (Nat × List Int)) : Bool:=l.all fun p=>tailF (namesOf p.2) p.2 && (namesOf p.2).all fun x=>decide (x.length ≤ 1000)
theorem tail0 : tailS shapes0 = true:=by decide +kernel
theorem tail1 : tailS shapes1 = true:=by decide +kernel
theorem tail2 : tailS shapes2 = true:=by decide +kernel
theorem tail3 : tailS shapes3 = true:=by decide +kernel
theorem tail4 : tailS shapes4 = true:=by decide +kernel
theorem tail5 : tailS shapes5 = true:=by decide +kernel
theorem tail6 : tailS shapes6 = true:=by decide +kernel
theorem tail7 : tailS shapes7 = true:=by decide +kernel
theorem tail8 : tailS shapes8 = true:=by decide +kernel
theorem tail_all {p : Nat × List Int} (h : p∈shapesC) : tailAll (namesOf p.2) p.2 = true∧∀ x∈namesOf p.2,x.length ≤ 1000:=by
 have key : ∀ {l : List (Nat × List Int)},tailS l = true→p∈l→tailAll (namesOf p.2) p.2 = true∧∀ x∈namesOf p.2,x.length ≤ 1000:=fun hl hp=>by
  haveI:=List.all_eq_true.mp hl p hp
  simp only [Bool.and_eq_true,List.all_eq_true,decide_eq_true_eq] at this
  exact ⟨tailF_ok this.1,this.2⟩
 unfold shapesC at h
 simp only [List.mem_append] at h
 rcases h with (((((((h | h) | h) | h) | h) | h) | h) | h) | h
 ·exact key tail0 h
 ·exact key tail1 h
 ·exact key tail2 h
 ·exact key tail3 h
 ·exact key tail4 h
 ·exact key tail5 h
 ·exact key tail6 h
 ·exact key tail7 h
 ·exact key tail8 h
noncomputable def pStep (rows : List (List Nat)) (ts : List (List Int)) (nm : List (List Nat)) (ab : List Int) (i : Nat) : Option ((List Nat × Int) ⊕ (Int × List Nat × List Nat)) :=
 match farOf ts (ts.getD i []) (i - 1) with
 | none=>none
 | some far=>if decide ((far : Int) = (i : Int) - 1) && lefter (ts.getD far []) (ts.getD i []) then (match nextName nm (ab ++ [(far : Int)]) far with
   | none=>none
   | some n=>some (.inl (n,far)))
  else if decide (ts.getD far [] = ts.getD i []) then (match nextName nm (ab ++ [ab.getD far 0]) (ab.getD far 0) with
   | none=>none
   | some n=>some (.inl (n,ab.getD far 0)))
  else if longOf (rows.getD far []) (rows.getD i []) ≤ 2 then some (.inr ((i : Int) - 1,wordsOf (sizesOf (ts.getD far []) (ts.getD i []) (longOf (rows.getD far []) (rows.getD i []))),rows.getD i [] ++ [120]))
  else none
noncomputable def rStep (k : Int) (row : List Nat) : List Ent→Option ((List Ent × List Nat) ⊕ (Int × List Nat × List Nat))
 | []=>none
 | top :: r =>
  if wless top.1 row then (match readGo row (top :: r) with
   | none=>none
   | some p=>some (.inl p))
  else match popTo row (top :: r) with
   | none=>none
   | some (last,rest) =>
    if wequal last.1 row then (match readGo row rest with
     | none=>none
     | some p=>some (.inl p))
    else if decide (wsize last.1 row ≤ 8) then some (.inr (k,sNag ++ fmtOf (wwit last.1 row),row)) else none
theorem plainLoop_step (rows : List (List Nat)) (ts : List (List Int)) (i : Nat) (h1 : 1 ≤ i) (r : List Int) (nm : List (List Nat)) (ab : List Int) : plainLoop rows ts ((i : Int) :: r) nm ab = match pStep rows ts nm ab i with
  | none=>none
  | some (.inl (n,a))=>plainLoop rows ts r (nm ++ [n]) (ab ++ [a])
  | some (.inr d)=>some (nm,ab,some d):=by
 rw [plainLoop,pStep]
 haveI e : ((i : Int) - 1).toNat = i - 1:=by lia
 refine rr (Int.toNat_natCast ..) ?_;refine rr e ?_
 cases farOf ts (ts.getD i []) (i - 1) with
 | none=>rfl
 | some far =>
  dsimp only
  by_cases c1 : (decide ((far : Int) = (i : Int) - 1) && lefter (ts.getD far []) (ts.getD i [])) = true
  ·refine rr (if_pos c1 ..) ?_;refine rr (if_pos c1 ..) ?_
   cases nextName nm (ab ++ [(far : Int)]) far with
   | none=>rfl
   | some n=>rfl
  ·refine rr (if_neg c1 ..) ?_;refine rr (if_neg c1 ..) ?_
   by_cases c2 : decide (ts.getD far [] = ts.getD i []) = true
   ·refine rr (if_pos c2 ..) ?_;refine rr (if_pos c2 ..) ?_
    cases nextName nm (ab ++ [ab.getD far 0]) (ab.getD far 0) with
    | none=>rfl
    | some n=>rfl
   ·refine rr (if_neg c2 ..) ?_;refine rr (if_neg c2 ..) ?_
    by_cases c3 : longOf (rows.getD far []) (rows.getD i []) ≤ 2
    ·refine rr (if_pos c3 ..) ?_;refine rr (if_pos c3 ..) ?_;rfl
    ·refine rr (if_neg c3 ..) ?_;refine rr (if_neg c3 ..) ?_;rfl
theorem readLoop_step (k : Int) (row : List Nat) (rs : List (Int × List Nat)) (pl : List Ent) (f : List (List Nat)) : readLoop ((k,row) :: rs) pl f = match rStep k row pl with
  | none=>none
  | some (.inl (pl',path))=>readLoop rs pl' (f ++ [path ++ [10]])
  | some (.inr d)=>some (f,some d):=by
 cases pl with
 | nil=>rfl
 | cons top r =>
  rw [readLoop_c,rStep]
  by_cases c1 : wless top.1 row = true
  ·refine rr (if_pos c1 ..) ?_;refine rr (if_pos c1 ..) ?_
   cases readGo row (top :: r) with
   | none=>rfl
   | some p=>rfl
  ·refine rr (if_neg c1 ..) ?_;refine rr (if_neg c1 ..) ?_
   cases popTo row (top :: r) with
   | none=>rfl
   | some p =>
    obtain ⟨last,rest⟩:=p
    dsimp only
    by_cases c2 : wequal last.1 row = true
    ·refine rr (if_pos c2 ..) ?_;refine rr (if_pos c2 ..) ?_
     cases readGo row rest with
     | none=>rfl
     | some p=>rfl
    ·refine rr (if_neg c2 ..) ?_;refine rr (if_neg c2 ..) ?_
     by_cases c3 : decide (wsize last.1 row ≤ 8) = true
     ·refine rr (if_pos c3 ..) ?_;refine rr (if_pos c3 ..) ?_;rfl
     ·refine rr (if_neg c3 ..) ?_;refine rr (if_neg c3 ..) ?_;rfl
theorem farOf_same {ts ts' : List (List Int)} {ti : List Int} : ∀ {k : Nat},(∀ j,j ≤ k→ts.getD j [] = ts'.getD j [])→farOf ts ti k = farOf ts' ti k
 | 0,h=>by rw [farOf,farOf];refine rr (h 0 (Nat.le_refl _) ..) ?_;rfl
 | k + 1,h=>by
  rw [farOf,farOf];refine rr (h (k + 1) (Nat.le_refl _) ..) ?_;refine rr (farOf_same fun j hj=>h j (by lia) ..) ?_;rfl
theorem farOf_le {ts : List (List Int)} {ti : List Int} : ∀ {k far : Nat},farOf ts ti k = some far→far ≤ k
 | 0,far,h=>by
  rw [farOf] at h
  split at h
  ·exact nsm h
  ·obtain rfl:=si h;exact Nat.le_refl _
 | k + 1,far,h=>by
  rw [farOf] at h
  split at h
  ·haveI:=farOf_le h;lia
  ·obtain rfl:=si h;exact Nat.le_refl _
theorem pStep_same {rows rows' : List (List Nat)} {ts ts' : List (List Int)} {nm : List (List Nat)} {ab : List Int} {i : Nat} (h1 : ∀ j,j ≤ i→rows.getD j [] = rows'.getD j []) (h2 : ∀ j,j ≤ i→ts.getD j [] = ts'.getD j []) : pStep rows ts nm ab i = pStep rows' ts' nm ab i:=by
 unfold pStep
 refine rr (h2 i (Nat.le_refl _) ..) ?_;refine rr (farOf_same (ts:=ts) (ts':=ts') fun j hj=>h2 j (by lia) ..) ?_
 cases hf : farOf ts' (ts'.getD i []) (i - 1) with
 | none=>rfl
 | some far =>
  haveI:=farOf_le hf
  dsimp only
  refine rr (h2 far (by lia) ..) ?_;refine rr (h1 far (by lia) ..) ?_;refine rr (h1 i (Nat.le_refl _) ..) ?_;rfl
theorem getD_pre {α : Type} {A : List α} {x : α} {r : List α} {d : α} {j : Nat} (h : j ≤ A.length) : (A ++ x :: r).getD j d = (A ++ [x]).getD j d:=by
 refine rr (List.getD_eq_getElem?_getD ..) ?_;refine rr (List.getD_eq_getElem?_getD ..) ?_
 congr 1
 rcases Nat.lt_or_ge j A.length with q | q
 ·refine rr (List.getElem?_append_left q ..) ?_;refine rr (List.getElem?_append_left q ..) ?_;rfl
 ·haveI : j = A.length:=by lia
  subst this
  simp
noncomputable def optsL : List (List (List Nat × Int)) :=
 [[([32,32],0),([32,9],0),([9],1)],
  [([32,32],1),([32,9],1),([9,32],2),([9],1)],
  [([32,32],2),([32,9],2),([9,32,9],3),([32,9,9],3),([9,32],2),([9],1)],
  [([32,32],3),([32,9],3),([9,32,9,32,32],4),([32,9,9,32,32],4),([9,32,9],3),([32,9,9],3),([9,32],2),([9],1)],
  [([32,32],4),([32,9],4),([9,32,9,32,32],4),([32,9,9,32,32],4),([9,32,9],3),([32,9,9],3),([9,32],2)]]
noncomputable def optsD (d : Int) : List (List Nat × Int):=optsL.getD d.toNat []
noncomputable def shapeOk (nm : List (List Nat)) (ab : List Int) : Bool:=match findC (codeS ab) shapesC with
 | some ab'=>decide (ab' = ab) && decide (nm = namesOf ab)
 | none=>false
noncomputable def leafOk (nm : List (List Nat)) (ab : List Int) (found : List (List Nat)) : Bool:=decide (found = foundOf nm) && shapeOk nm ab
noncomputable def chk : Nat→Int→List (List Nat)→List (List Int)→List (List Nat)→List Int→List Ent→List (List Nat)→Bool
 | 0,_,_,_,nm,ab,_,found=>leafOk nm ab found
 | n + 1,d,rows,ts,nm,ab,pile,found=>(optsD d).all fun p =>
  match pStep (rows ++ [p.1]) (ts ++ [cols p.1]) nm ab rows.length with
  | none=>false
  | some (.inl (nn,a))=>(match rStep ((rows.length : Int) - 1) (rowOf p.1) pile with
   | some (.inl (pile',path))=>chk n p.2 (rows ++ [p.1]) (ts ++ [cols p.1]) (nm ++ [nn]) (ab ++ [a]) pile' (found ++ [path ++ [10]])
   | _=>false)
  | some (.inr due)=>(match rStep ((rows.length : Int) - 1) (rowOf p.1) pile with
   | some (.inr due')=>decide (due' = due) && leafOk nm ab found
   | _=>false)
theorem chk_all : chk 6 0 [[]] [cols []] [[48]] [-1] [([],[48],0)] [] = true:=by decide +kernel
noncomputable def lead1 (s t d : Int) : List Nat × Int:=if decide (s = 7) then (crook.getD t.toNat [],d)
 else (([plainL,otherL].getD t.toNat []).getD (max 1 (min 4 (d + steps.getD s.toNat 0)) - 1).toNat [],max 1 (min 4 (d + steps.getD s.toNat 0)))
theorem lead1_all : ((rng 0 5).all fun d=>(rng 0 8).all fun s=>(rng 0 2).all fun t=>(optsD d).contains (lead1 s t d) && decide (0 ≤ (lead1 s t d).2) && decide ((lead1 s t d).2 ≤ 4)) = true:=by decide +kernel
theorem rng_in {a b k : Int} (h1 : a ≤ k) (h2 : k < b) : k∈rng a b:=by
 refine List.mem_map.mpr ⟨(k - a).toNat,List.mem_range.mpr (by lia),by lia⟩
theorem lead_opt {h d : Int} {r : List Int} (h0 : 0 ≤ d) (h4 : d ≤ 4) : ∃ p∈optsD d,leadsOf (h :: r) d = p.1 :: leadsOf r p.2∧0 ≤ p.2∧p.2 ≤ 4:=by
 haveI hs:=fmod_rng (a:=h) (b:=8) (by decide)
 haveI ht:=fmod_rng (a:=h.fdiv 8) (b:=2) (by decide)
 haveI k:=List.all_eq_true.mp (List.all_eq_true.mp (List.all_eq_true.mp lead1_all d (rng_in h0 (by lia))) (h.fmod 8) (rng_in hs.1 hs.2)) ((h.fdiv 8).fmod 2) (rng_in ht.1 ht.2)
 simp only [Bool.and_eq_true,decide_eq_true_eq,List.contains_iff_mem] at k
 refine ⟨_,k.1.1,?_,k.1.2,k.2⟩
 rw [leadsOf_c,lead1]
 split <;> rfl
noncomputable def enumF : Int→List (List Nat)→List (Int × List Nat)
 | _,[]=>[]
 | k,r :: rs=>(k,r) :: enumF (k + 1) rs
theorem enumF_eq : ∀ (rows : List (List Nat)) (k : Int),enumF k rows = (List.range rows.length).map fun (j : Nat)=>(k + j,rows.getD j [])
 | [],k=>rfl
 | r :: rs,k=>by
  rw [enumF,enumF_eq rs];refine rr (List.length_cons ..) ?_;refine rr (List.range_succ_eq_map ..) ?_;refine rr (List.map_cons ..) ?_;refine rr (List.map_map ..) ?_
  congr 1
  ·simp
  ·refine List.map_congr_left fun j _=>?_
   simp only [Function.comp,Nat.succ_eq_add_one,List.getD_cons_succ]
   congr 1
   lia
theorem enumN_F (rows : List (List Nat)) : enumN rows = enumF 0 rows:=by
 rw [enumF_eq]
 exact List.map_congr_left fun j _=>by simp
noncomputable def ResOk (p : Option (List (List Nat) × List Int × Due)) (q : Option (List (List Nat) × Option (Int × List Nat × List Nat))) : Prop :=
 ∃ nm ab due found,p = some (nm,ab,due)∧q = some (found,due)∧found = foundOf nm∧tailAll nm ab = true∧∀ x∈nm,x.length ≤ 1000
set_option tactic.hygienic true in
theorem leaf_ok {nm : List (List Nat)} {ab : List Int} {found : List (List Nat)} (h : leafOk nm ab found = true) (due : Due) : ResOk (some (nm,ab,due)) (some (found,due)):=by
 unfold leafOk at h
 simp only [Bool.and_eq_true,decide_eq_true_eq] at h
 obtain ⟨h1,h2⟩:=h
 unfold shapeOk at h2
 split at h2
 ·rename_i ab' he
  obtain ⟨k,hk⟩:=findC_mem he
  simp only [Bool.and_eq_true,decide_eq_true_eq] at h2
  obtain ⟨rfl,h3⟩:=h2
  haveI:=tail_all hk
  exact ⟨nm,ab',due,found,rfl,rfl,h1,by refine rr h3 ?_;exact this.1,by refine rr h3 ?_;exact this.2⟩
 ·exact ftm h2
theorem chk_sound : ∀ (n : Nat) (d : Int) (rows : List (List Nat)) (ts : List (List Int)) (nm : List (List Nat)) (ab : List Int) (pile : List Ent) (found : List (List Nat)),ts.length = rows.length→1 ≤ rows.length →
  chk n d rows ts nm ab pile found = true→∀ heaps : List Int,heaps.length = n→0 ≤ d→d ≤ 4 →
  ResOk (plainLoop (rows ++ leadsOf heaps d) (ts ++ (leadsOf heaps d).map cols) (rng rows.length (rows.length + n)) nm ab) (readLoop (enumF ((rows.length : Int) - 1) ((leadsOf heaps d).map rowOf)) pile found)
 | 0,d,rows,ts,nm,ab,pile,found,hts,hrl,hc,heaps,hn,h0,h4=>by
  obtain rfl:=List.length_eq_zero_iff.mp hn
  refine rr (rng_nil (by simp) ..) ?_
  exact leaf_ok hc none
 | n + 1,d,rows,ts,nm,ab,pile,found,hts,hrl,hc,heaps,hn,h0,h4=>by
  cases heaps with
  | nil=>simp at hn
  | cons h r =>
  obtain ⟨p,hp,hle,hp0,hp4⟩:=lead_opt (h:=h) (r:=r) h0 h4
  rw [chk] at hc
  haveI hc:=List.all_eq_true.mp hc p hp
  haveI hg1 : ∀ j,j ≤ rows.length→(rows ++ p.1 :: leadsOf r p.2).getD j [] = (rows ++ [p.1]).getD j []:=fun j hj=>getD_pre hj
  haveI hg2 : ∀ j,j ≤ rows.length→(ts ++ cols p.1 :: (leadsOf r p.2).map cols).getD j [] = (ts ++ [cols p.1]).getD j []:=fun j hj=>getD_pre (by lia)
  rw [hle,rng_cons (by lia),List.map_cons,List.map_cons,enumF,plainLoop_step _ _ _ hrl,readLoop_step,pStep_same hg1 hg2]
  cases hps : pStep (rows ++ [p.1]) (ts ++ [cols p.1]) nm ab rows.length with
  | none=>replace hc:=hps ▸ hc;exact ftm hc
  | some ps =>
  replace hc:=hps ▸ hc
  cases ps with
  | inl na =>
   obtain ⟨nn,a⟩:=na
   dsimp only at hc ⊢
   cases hrs : rStep ((rows.length : Int) - 1) (rowOf p.1) pile with
   | none=>replace hc:=hrs ▸ hc;exact ftm hc
   | some rs =>
   replace hc:=hrs ▸ hc
   cases rs with
   | inr due=>exact ftm hc
   | inl pp =>
    obtain ⟨pile',path⟩:=pp
    dsimp only at hc ⊢
    haveI ih:=chk_sound n p.2 (rows ++ [p.1]) (ts ++ [cols p.1]) (nm ++ [nn]) (ab ++ [a]) pile' (found ++ [path ++ [10]]) (by simp [hts]) (by simp) hc r (by simpa using hn) hp0 hp4
    replace ih:=(List.append_assoc ..) ▸ ih;replace ih:=(List.append_assoc ..) ▸ ih
    haveI e1 : (((rows ++ [p.1]).length : Nat) : Int) = (rows.length : Int) + 1:=by simp
    replace ih:=e1 ▸ ih
    haveI e2 : (rows.length : Int) + 1 - 1 = (rows.length : Int) - 1 + 1:=by lia
    haveI e3 : (rows.length : Int) + 1 + (n : Int) = (rows.length : Int) + ((n + 1 : Nat) : Int):=by lia
    replace ih:=e2 ▸ ih;replace ih:=e3 ▸ ih
    exact ih
  | inr due =>
   dsimp only at hc ⊢
   cases hrs : rStep ((rows.length : Int) - 1) (rowOf p.1) pile with
   | none=>replace hc:=hrs ▸ hc;exact ftm hc
   | some rs =>
   replace hc:=hrs ▸ hc
   cases rs with
   | inl pp=>exact ftm hc
   | inr due' =>
    simp only [Bool.and_eq_true,decide_eq_true_eq] at hc
    obtain ⟨rfl,hl⟩:=hc
    exact leaf_ok hl (some due')
theorem law_ok (heaps : List Int) (h : heaps.length = 6) : lawOk (leadsOf heaps 0) = true:=by
 haveI hc:=chk_sound 6 0 [[]] [cols []] [[48]] [-1] [([],[48],0)] [] rfl (by decide) chk_all heaps h (by decide) (by decide)
 haveI hl:=leadsOf_len heaps 0
 obtain ⟨nm,ab,due,found,h1,h2,h3,h4,h5⟩:=hc
 haveI e1 : plain (leadsOf heaps 0) = some (nm,ab,due):=by
  refine rl h1 ?_
  unfold plain
  haveI : (([] :: leadsOf heaps 0).length : Int) = (([[]] : List (List Nat)).length : Int) + (6 : Nat):=by simp [hl,h]
  refine rr this ?_
  rfl
 haveI e2 : readLoop (enumN ((leadsOf heaps 0).map rowOf)) [([],[48],0)] [] = some (found,due):=by
  rw [← h2,enumN_F]
  rfl
 unfold lawOk
 refine rr e1 ?_;refine rr e2 ?_
 haveI hn7 : nm.length ≤ 7:=by
  unfold tailAll at h4
  split at h4
  ·exact ftm h4
  ·unfold tailOk at h4
   simp only [Bool.and_eq_true,decide_eq_true_eq] at h4
   exact h4.1.1.1.1.1.1
 haveI hfl : found.length ≤ nm.length:=by
  refine rr h3 ?_
  unfold foundOf
  refine rr (List.length_map ..) ?_
  exact vpick_len _ _ _ _
 simp only [Bool.and_eq_true,decide_eq_true_eq,List.all_eq_true]
 exact ⟨⟨⟨⟨trivial,h3⟩,by lia⟩,h5⟩,h4⟩
noncomputable def leadOk (l : List Nat) : Bool:=decide (l.length ≤ 5) && l.all fun c=>decide (c ≠ 10) && decide (c ≠ 13)
theorem opts_ok : ((rng 0 5).all fun d=>(optsD d).all fun p=>leadOk p.1) = true:=by decide +kernel
theorem leads_ok : ∀ (heaps : List Int) (d : Int),0 ≤ d→d ≤ 4→∀ l∈leadsOf heaps d,leadOk l = true
 | [],d,_,_,l,h=>by cases h
 | x :: r,d,h0,h4,l,h=>by
  obtain ⟨p,hp,e,hp0,hp4⟩:=lead_opt (h:=x) (r:=r) h0 h4
  replace h:=e ▸ h
  rcases List.mem_cons.mp h with rfl | h
  ·exact List.all_eq_true.mp (List.all_eq_true.mp opts_ok d (rng_in h0 (by lia))) p hp
  ·exact leads_ok r p.2 hp0 hp4 l h
theorem sum_le {m : Nat} : ∀ {l : List Nat},(∀ x∈l,x ≤ m)→l.sum ≤ l.length * m
 | [],_=>by simp
 | a :: l,h=>by
  haveI h1:=h a (.head _)
  haveI h2:=sum_le fun x hx=>h x (.tail _ hx)
  refine rr (List.sum_cons ..) ?_;refine rr (List.length_cons ..) ?_;refine rr (Nat.add_mul ..) ?_
  lia
theorem flat_len {m : Nat} {ss : List (List Nat)} (h : ∀ s∈ss,s.length ≤ m) : ss.flatten.length ≤ ss.length * m:=by
 refine rr (List.length_flatten ..) ?_
 haveI:=sum_le (l:=ss.map List.length) (m:=m) fun x hx=>by
  obtain ⟨s,hs,rfl⟩:=List.mem_map.mp hx
  exact h s hs
 simpa using this
structure PageOk (heaps : List Int) : Prop where
 l50 : ∀ l∈leadsOf heaps 0,l.length ≤ 50
 sp : Txt.split (mkS (eolsOf (pageOf (leadsOf heaps 0) heaps))) (mkS [13,10]) = ((leadsOf heaps 0).map rowOf ++ [[]]).map mkS
 pg : (pageOf (leadsOf heaps 0) heaps).length ≤ 10000
 pe : (eolsOf (pageOf (leadsOf heaps 0) heaps)).length ≤ 100000
theorem page_ok (heaps : List Int) (h : heaps.length = 6) : PageOk heaps:=by
 haveI hl:=leadsOf_len heaps 0
 haveI hk : ∀ l∈leadsOf heaps 0,l.length ≤ 5∧∀ c∈l,c ≠ 10∧c ≠ 13:=fun l hm=>by
  haveI:=leads_ok heaps 0 (by decide) (by decide) l hm
  unfold leadOk at this
  simp only [Bool.and_eq_true,List.all_eq_true,decide_eq_true_eq] at this
  exact this
 haveI he:=eols_page (leads:=leadsOf heaps 0) (heaps:=heaps) hl fun l hm=>(hk l hm).2
 refine ⟨fun l hm=>by have:=(hk l hm).1;lia,?_,?_,?_⟩
 ·refine rr he ?_
  refine split_rows (fun q=>?_) fun r hr=>?_
  ·haveI:=congrArg List.length q
   replace this:=(List.length_map ..) ▸ this;replace this:=hl ▸ this;replace this:=h ▸ this
   cases this
  ·obtain ⟨l,hm,rfl⟩:=List.mem_map.mp hr
   intro q
   rcases List.mem_append.mp q with q | q
   ·exact ((hk l hm).2 13 q).2 rfl
   ·haveI:=List.mem_singleton.mp q
    cases this
 ·unfold pageOf
  rw [glue_nil]
  haveI hlen : (((leadsOf heaps 0).zip heaps).map lineOf).length = 6:=by simp [hl,h]
  haveI:=flat_len (m:=100) (ss:=((leadsOf heaps 0).zip heaps).map lineOf) fun s hs=>by
   obtain ⟨p,hp,rfl⟩:=List.mem_map.mp hs
   haveI hp1:=(hk p.1 (List.of_mem_zip hp).1).1
   haveI hm:=fmod_rng (a:=p.2.fdiv 16) (b:=3) (by decide)
   haveI h2 : (endOf p.2).length ≤ 2:=by
    unfold endOf
    generalize (p.2.fdiv 16).fmod 3 = k at hm
    haveI : k = 0 ∨ k = 1 ∨ k = 2:=by lia
    rcases this with rfl | rfl | rfl <;> decide
   unfold lineOf rowOf
   refine rr (List.length_append ..) ?_;refine rr (List.length_append ..) ?_
   simp only [List.length_cons,List.length_nil]
   lia
  lia
 ·refine rr he ?_
  haveI:=flat_len (m:=100) (ss:=((leadsOf heaps 0).map rowOf).map (· ++ [13,10])) fun s hs=>by
   obtain ⟨r,hr,rfl⟩:=List.mem_map.mp hs
   obtain ⟨l,hm,rfl⟩:=List.mem_map.mp hr
   haveI:=(hk l hm).1
   simp [rowOf]
   lia
  replace this:=(List.length_map ..) ▸ this;replace this:=(List.length_map ..) ▸ this;replace this:=hl ▸ this;replace this:=h ▸ this
  lia
noncomputable def wo (h : Heap) (P : Addr) : Heap:={ h with objs:=h.objs.setIfInBounds P frd }
theorem wo_get {h : Heap} {P b : Addr} : (wo h P).get? b = if b = P then none else h.get? b:=by
 refine rr get_raw ?_;refine rr get_raw ?_
 unfold wo
 refine rr (Array.getElem?_setIfInBounds ..) ?_
 by_cases q : b = P
 ·subst q
  refine rr (if_pos rfl ..) ?_
  by_cases hz : b < h.objs.size
  ·refine rr (if_pos rfl ..) ?_;refine rr (if_pos hz ..) ?_;rfl
  ·refine rr (if_pos rfl ..) ?_;refine rr (if_neg hz ..) ?_;rfl
 ·refine rr (if_neg (fun e=>q e.symm) ..) ?_;refine rr (if_neg q ..) ?_;rfl
theorem wo_sub {h : Heap} {P b : Addr} {o : Obj} (e : (wo h P).get? b = some o) : h.get? b = some o:=by
 replace e:=wo_get ▸ e
 split at e
 ·exact nsm e
 ·exact e
theorem wo_keep {h : Heap} {P b : Addr} {o : Obj} {ps : Array Value} (hP : h.get? P = some (tabO ps)) (e : h.get? b = some o) (hne : o ≠ tabO ps) : (wo h P).get? b = some o:=by
 rewrite [wo_get,if_neg fun q=>?_]
 ·exact e
 ·replace e:=q ▸ e;replace e:=hP ▸ e
  obtain rfl:=si e
  exact hne rfl
theorem wo_ns {h : Heap} {P a : Addr} {ps : Array Value} {m : Str→Option Value} (hP : h.get? P = some (tabO ps)) (n : h.Ns a m) : (wo h P).Ns a m:=by
 obtain ⟨o,es,ep,ho,hd,r⟩:=n
 exact ⟨o,es,ep,wo_keep hP ho (fun q=>by replace hd:=q ▸ hd;cases hd),hd,r⟩
theorem wo_in {K : Frag} {h : Heap} {P : Addr} (X : K.In h) (hP : K.lookup P = none) : K.In (wo h P):=fun a o e=>by
 rewrite [wo_get,if_neg fun q=>?_]
 ·exact X a o e
 ·replace e:=q ▸ e;replace e:=hP ▸ e;exact nsm e
theorem and_eq_true {a b : Bool} (h : (a && b) = true) : a = true∧b = true:=by
 cases a with
 | true=>exact ⟨rfl,h⟩
 | false=>exact ftm h
noncomputable def fdO : Data→Option FuncData
 | .func fd=>some fd
 | _=>none
noncomputable def vsO : Data→Option (Array Value)
 | .fields vs=>some vs
 | _=>none
noncomputable def clO : Data→Option ClassData
 | .cls cd=>some cd
 | _=>none
noncomputable def sqO : Data→Option (Array Value × Nat)
 | .seq x n=>some (x,n)
 | _=>none
theorem fdO_eq {d : Data} {x : FuncData} (h : fdO d = some x) : d = .func x:=by
 cases d with
 | func=>exact congrArg Data.func (Option.some.inj h)
 | _=>exact nsm h
theorem vsO_eq {d : Data} {x : Array Value} (h : vsO d = some x) : d = .fields x:=by
 cases d with
 | fields=>exact congrArg Data.fields (Option.some.inj h)
 | _=>exact nsm h
theorem clO_eq {d : Data} {x : ClassData} (h : clO d = some x) : d = .cls x:=by
 cases d with
 | cls=>exact congrArg Data.cls (Option.some.inj h)
 | _=>exact nsm h
theorem sqO_eq {d : Data} {x : Array Value × Nat} (h : sqO d = some x) : d = .seq x.1 x.2:=by
 cases d with
 | seq=>obtain rfl:=si h;rfl
 | _=>exact nsm h
theorem any_some {α : Type} {x : Option α} {f : α→Bool} (h : x.any f = true) : ∃ o,x = some o∧f o = true:=by
 cases x with
 | none=>exact ftm h
 | some o=>exact ⟨o,rfl,h⟩
noncomputable def fdE (K : Frag) (f : Addr) : FuncData:=((K.lookup f).bind fun o=>fdO o.data).getD default
noncomputable def fnOk (K : Frag) (f : Addr) : Bool:=(K.lookup f).any fun o=>o.cls == .type "function" && (fdO o.data).any fun _=>true
structure FnIn (K : Frag) (f : Addr) (d : Fn) : Prop where
 is : fnOk K f = true
 eq : fdE K f = fnX d.name d.qual d.params d.body d.scope [] .none .none (fdE K f).doc (fdE K f).pyModule (fdE K f).annotations (fdE K f).code (fdE K f).closureTuple
 cd : codeIn K (fdE K f).code d.qual = true
theorem FnIn.at {K : Frag} {f : Addr} {d : Fn} {h : Heap} (x : FnIn K f d) (X : K.In h) : FnAt h f d (fdE K f).code∧∃ o,h.get? f = some o∧o.cls = .type "function":=by
 obtain ⟨o,ho,c⟩:=any_some x.is
 obtain ⟨c1,c2⟩:=and_eq_true c
 obtain ⟨fd,e,_⟩:=any_some c2
 haveI e2 : fdE K f = fd:=by unfold fdE;refine rr ho ?_;exact congrArg (·.getD default) e
 exact ⟨⟨o,_,_,_,_,X _ _ ho,(fdO_eq e).trans (congrArg Data.func (e2.symm.trans x.eq)),codeRec_of X x.cd⟩,o,X _ _ ho,eq_of_beq c1⟩
structure GIn (K : Frag) (x : Str) (f : Addr) (d : Fn) : Prop where
 g : nsIn K mainGlobals x = some (some (.ref f))
 fn : FnIn K f d
theorem GIn.at {K : Frag} {x : Str} {f : Addr} {d : Fn} {h h' : Heap} {mg : Str→Option Value} (c : GIn K x f d) (X : K.In h) (X' : K.In h') (G : h.Ns mainGlobals mg) : GAt h' mg x d :=
 ⟨f,_,mg_of X G c.g,(c.fn.at X').1⟩
noncomputable def bareNames : List Str:=["len","range","enumerate","zip","sum","max","min","str","sorted","ord","chr","bytes","tuple","list","dict"]
noncomputable def noNames (K : Frag) : Bool:=bareNames.all fun x=>nsIn K mainGlobals x == some none
theorem nb_of {K : Frag} {h : Heap} {mg : Str→Option Value} (X : K.In h) (G : h.Ns mainGlobals mg) (c : noNames K = true) : Nb mg:=by
 haveI key : ∀ (i : Nat) {x},bareNames[i]? = some x→mg x = none:=fun i x e=>mg_none_of X G (eq_of_beq (List.all_eq_true.mp c x (List.mem_of_getElem? e)))
 exact ⟨key 0 rfl,key 1 rfl,key 2 rfl,key 3 rfl,key 4 rfl,key 5 rfl,key 6 rfl,key 7 rfl,key 8 rfl,key 9 rfl,key 10 rfl,key 11 rfl,key 12 rfl,key 13 rfl,key 14 rfl⟩
structure ChkG (K : Frag) : Prop where
 nn : noNames K = true
 quote : GIn K "_quote_periods" 55 d_quote
 eols : GIn K "_fix_eols" 62 d_eols
 unm : GIn K "unmatched" 69 d_unm
 hdn : GIn K "liberal_is_HDN" 81 d_hdn
 fmt : GIn K "format_witnesses" 195 d_fmt
 heaps : GIn K "_law_heaps" 200 d_heaps
 leads : GIn K "_law_leads" 207 d_leads
 read : GIn K "_law_read" 214 d_read
 news : GIn K "_law_news" 219 d_news
 cols : GIn K "_law_columns" 226 d_cols
 lefter : GIn K "_law_lefter" 231 d_lefter
 plain : GIn K "_law_plain" 236 d_plain
 least : GIn K "_law_least" 241 d_least
theorem gl_of {K : Frag} {h h' : Heap} {mg mb : Str→Option Value} (c : ChkG K) (X : K.In h) (X' : K.In h') (G : h.Ns mainGlobals mg) (T : Tx h' mg mb) : Gl h' mg mb :=
 ⟨T,nb_of X G c.nn,c.quote.at X X' G,c.eols.at X X' G,c.unm.at X X' G,c.hdn.at X X' G,c.fmt.at X X' G,c.heaps.at X X' G,c.leads.at X X' G,c.read.at X X' G,c.news.at X X' G,c.cols.at X X' G,c.lefter.at X X' G,c.plain.at X X' G,c.least.at X X' G⟩
structure MIn (K : Frag) (C : Addr) (x : Str) (f : Addr) (d : Fn) : Prop where
 g : findIn K (.ref C) x = some (some (.ref f))
 ty : typeIn K (.ref f) = some (.type "function")
 fn : FnIn K f d
theorem MIn.at {K : Frag} {C : Addr} {x : Str} {f : Addr} {d : Fn} {h : Heap} (c : MIn K C x f d) (X : K.In h) : MethAt K C h x d:=⟨f,_,c.g,c.ty,(c.fn.at X).1⟩
noncomputable def cfV : CFound→Option Value
 | .val v=>some v
 | _=>none
theorem cfV_eq {x : Option CFound} {v : Value} (h : (x.bind cfV == some v) = true) : x = some (.val v):=by
 have e:=eq_of_beq h
 cases x with
 | none=>exact nsm e
 | some y=>cases y with
  | val u=>exact congrArg (fun u=>some (CFound.val u)) (Option.some.inj e)
  | get=>exact nsm e
noncomputable def ownNames : List Str:=["raw","n","nt","norm","is_simple"]
structure ChkW (K : Frag) (C : Addr) : Prop where
 ga : findIn K (.ref C) "__getattribute__" = some (some (.builtin "object.__getattribute__"))
 gk : findIn K (.ref C) "__getattr__" = some none
 sa : findIn K (.ref C) "__setattr__" = some (some (.builtin "object.__setattr__"))
 hd : (clsIn K C).any (·.hasDict) = true
 po : plainOver K C = true
 mks : makesIn K C = true
 kp : keepIn K (.ref C) = true
 gW : nsIn K mainGlobals "Whitespace" = some (some (.ref C))
 own : (ownNames.all fun x=>findIn K (.ref C) x == some none) = true
 rd : readsIn K C (.type "type") = true
 rS : ((findCls K (.ref C) (.type "type") "S").bind cfV == some (.str (mkS [32]) 482)) = true
 rT : ((findCls K (.ref C) (.type "type") "T").bind cfV == some (.str (mkS [9]) 483)) = true
 init : MIn K C "__init__" 139 d_winit
 long : MIn K C "longest_run_of_spaces" 146 d_wlong
 indent : MIn K C "indent_level" 153 d_windent
 equal : MIn K C "equal" 160 d_wequal
 wit : MIn K C "not_equal_witness" 167 d_wwit
 less : MIn K C "less" 174 d_wless
theorem wc_of {K : Frag} {C : Addr} {h h' : Heap} {mg : Str→Option Value} (c : ChkW K C) (X : K.In h) (X' : K.In h') (G : h.Ns mainGlobals mg) : Wc K C h' mg:=by
 exact ⟨X',⟨c.ga,c.gk,c.sa,c.hd,c.po⟩,c.mks,c.kp,mg_of X G c.gW,fun a ha=>eq_of_beq (List.all_eq_true.mp c.own a ha),⟨_,_,_,c.rd,cfV_eq c.rS,cfV_eq c.rT⟩,c.init.at X',c.long.at X',c.indent.at X',c.equal.at X',c.wit.at X',c.less.at X'⟩
noncomputable def patD (q : Addr) (kind : Nat) (fs : Array Value) : Bool:=fs.getD 2 .none == .int 0 0 && fs.getD 5 .none == .ref q && Builtin.Re.reRawNat (fs.getD 6 .none) == kind
noncomputable def patO (q : Addr) (code : Array Nat) (kind : Nat) (o oq : Obj) : Bool:=o.cls == .type "re.Pattern" && o.dict == none && (vsO o.data).any (patD q kind) && (sqO oq.data).any fun x=>(x.1.map Builtin.Re.reRawOf).map (·.toNat) == code
noncomputable def patIn (K : Frag) (p q : Addr) (code : Array Nat) (kind : Nat) : Bool:=(K.lookup p).any fun o=>(K.lookup q).any fun oq=>patO q code kind o oq
theorem pat_of {K : Frag} {p q : Addr} {code : Array Nat} {kind : Nat} {h : Heap} (X : K.In h) (c : patIn K p q code kind = true) : PatAt h p code kind:=by
 obtain ⟨o,ho,c⟩:=any_some c
 obtain ⟨oq,hq,c⟩:=any_some c
 obtain ⟨c,c4⟩:=and_eq_true c
 obtain ⟨c,c3⟩:=and_eq_true c
 obtain ⟨c1,c2⟩:=and_eq_true c
 obtain ⟨fs,e,c3⟩:=any_some c3
 obtain ⟨x,e2,g⟩:=any_some c4
 obtain ⟨c3,f3⟩:=and_eq_true c3
 obtain ⟨f1,f2⟩:=and_eq_true c3
 exact ⟨o,fs,q,oq,x.1,x.2,X _ _ ho,eq_of_beq c1,eq_of_beq c2,vsO_eq e,eq_of_beq f1,eq_of_beq f2,eq_of_beq f3,X _ _ hq,sqO_eq e2,eq_of_beq g⟩
structure ChkR (K : Frag) : Prop where
 g1 : nsIn K mainGlobals "_twin_re_1" = some (some (.ref 43))
 g2 : nsIn K mainGlobals "_twin_re_2" = some (some (.ref 48))
 g3 : nsIn K mainGlobals "IPV4_RE" = some (some (.ref 74))
 g4 : nsIn K mainGlobals "CRLF" = some (some (.str (mkS [13,10]) 349))
 p1 : patIn K 43 42 qc 1 = true
 p2 : patIn K 48 47 ec 0 = true
 p3 : patIn K 74 73 ipc 0 = true
theorem rx_of {K : Frag} {h h' : Heap} {mg : Str→Option Value} (c : ChkR K) (X : K.In h) (X' : K.In h') (G : h.Ns mainGlobals mg) : Rx h' mg:=by
 exact ⟨⟨48,mg_of X G c.g2,pat_of X' c.p2⟩,⟨43,mg_of X G c.g1,pat_of X' c.p1⟩,⟨74,mg_of X G c.g3,pat_of X' c.p3⟩,⟨_,mg_of X G c.g4⟩⟩
noncomputable def nagD (K : Frag) (C N : Addr) (cd : ClassData) : Bool:=cd.mro == .ref C :: ExcMro && !cd.hasDel && cd.hasDict && cd.ns == N && nsOkIn K cd.ns
noncomputable def nagO (K : Frag) (C N : Addr) (o : Obj) : Bool:=o.cls == .type "type" && (clO o.data).any (nagD K C N) && o.slots.toList == [o.slots.toList.getD 0 none,o.slots.toList.getD 1 none,o.slots.toList.getD 2 none,o.slots.toList.getD 3 none,some (.builtin "Exception.__new__"),o.slots.toList.getD 5 none]
noncomputable def nagIn (K : Frag) (C N : Addr) : Bool:=(K.lookup C).any (nagO K C N)
theorem obj_eq {o : Obj} {c : Value} {d : Data} {l : List (Option Value)} (h1 : o.cls = c) (h2 : o.data = d) (h3 : o.slots.toList = l) : o = ⟨c,o.dict,d,⟨l⟩⟩:=by
 subst h1 h2 h3
 rfl
theorem cls_eq {c : ClassData} {m : List Value} {a b : Bool} (h1 : c.mro = m) (h2 : c.hasDel = a) (h3 : c.hasDict = b) : c = ⟨c.name,c.bases,m,c.ns,c.qualname,b,c.slotNames,c.subclasses,c.abstract,c.collection,a⟩:=by
 subst h1 h2 h3
 rfl
theorem nag_of {K : Frag} {C N : Addr} {h : Heap} (X : K.In h) (q : nagIn K C N = true) : NagC h C (h.nsMap N)∧h.Ns N (h.nsMap N):=by
 obtain ⟨o,ho,q⟩:=any_some q
 obtain ⟨q,q3⟩:=and_eq_true q
 obtain ⟨q1,q2⟩:=and_eq_true q
 obtain ⟨cd,e,c⟩:=any_some q2
 obtain ⟨c,h5⟩:=and_eq_true c
 obtain ⟨c,h4⟩:=and_eq_true c
 obtain ⟨c,h3⟩:=and_eq_true c
 obtain ⟨h1,h2⟩:=and_eq_true c
 obtain rfl : cd.ns = N:=eq_of_beq h4
 haveI hN:=Heap.Ns.of_isNs (isNs_of_in X h5)
 exact ⟨⟨cd.name,cd.qualname,cd.ns,cd.bases,cd.slotNames,cd.subclasses,cd.abstract,cd.collection,o.dict,_,_,_,_,_,(X _ _ ho).trans (congrArg some (obj_eq (eq_of_beq q1) ((clO_eq e).trans (congrArg Data.cls (cls_eq (eq_of_beq h1) ((Bool.not_eq_true' _).mp h2) h3))) (eq_of_beq q3))),hN⟩,hN⟩
theorem ns_val {K : Frag} {h : Heap} {N : Addr} {m : Str→Option Value} {x : Str} {v : Value} (X : K.In h) (G : h.Ns N m) (e : nsIn K N x = some (some v)) : m x = some v:=by
 obtain ⟨o,es,ep,ho,hd,_,hf⟩:=G
 unfold nsIn at e
 cases q : K.lookup N with
 | none=>replace e:=q ▸ e;exact nsm e
 | some y =>
  obtain rfl : o = y:=Option.some.inj (ho.symm.trans (X _ _ q))
  replace e:=q ▸ e
  obtain ⟨c,d,dt,sl⟩:=o
  cases hd
  dsimp only at e
  rw [← hf]
  unfold nsFind findBy
  refine rl (Array.find?_toList ..) ?_
  cases he : es.toList.find? (·.key.isStr x) with
  | none =>
   replace e:=he ▸ e
   cases z : es.toList.any (·.refKey) <;> rw [z] at e <;> cases e
  | some en =>
   replace e:=he ▸ e
   cases e
   rfl
structure NIn (K : Frag) (N : Addr) (x : Str) (f : Addr) (d : Fn) : Prop where
 g : nsIn K N x = some (some (.ref f))
 fn : FnIn K f d
theorem NIn.at {K : Frag} {N : Addr} {x : Str} {f : Addr} {d : Fn} {h : Heap} {m : Str→Option Value} (c : NIn K N x f d) (X : K.In h) (G : h.Ns N m) : NagM m h x d:=by
 obtain ⟨h1,o,h2,h3⟩:=c.fn.at X
 exact ⟨f,_,o,ns_val X G c.g,h1,h2,h3⟩
noncomputable def nagNames : List Str:=["__setattr__","__getattribute__","__getattr__","lineno","msg","line"]
structure ChkN (K : Frag) : Prop where
 kp : keepIn K (.ref 119) = true
 gN : nsIn K mainGlobals "NannyNag" = some (some (.ref 119))
 nag : nagIn K 119 118 = true
 no : (nagNames.all fun x=>nsIn K 118 x == some none) = true
 init : NIn K 118 "__init__" 95 d_ninit
 getn : NIn K 118 "get_lineno" 102 d_ngetn
 getm : NIn K 118 "get_msg" 109 d_ngetm
 getl : NIn K 118 "get_line" 116 d_ngetl
theorem ng_of {K : Frag} {h h' : Heap} {mg : Str→Option Value} (c : ChkN K) (X : K.In h) (X' : K.In h') (G : h.Ns mainGlobals mg) : Ng K 119 h' mg (h'.nsMap 118):=by
 obtain ⟨n1,n2⟩:=nag_of X' c.nag
 exact ⟨X',c.kp,mg_of X G c.gN,n1,fun a ha=>ns_none_of X' n2 (eq_of_beq (List.all_eq_true.mp c.no a ha)),c.init.at X' n2,c.getn.at X' n2,c.getm.at X' n2,c.getl.at X' n2⟩
noncomputable def fmtV (vs : Array Value) : Bool:=vs.getD 11 .none == .ref 190 && vs.getD 18 .none == .str (mkS [47,99,108,97,105,109,47,99,117,116,46,112,121]) 579 && vs.getD 7 .none == .int 3 0 && vs.getD 9 .none == .bool true && vs.getD 10 .none == .int 276 0
noncomputable def fmtIn (K : Frag) : Bool:=(K.lookup 194).any fun o=>o.cls == .type "code" && (vsO o.data).any fmtV
theorem code_of {K : Frag} {h : Heap} (X : K.In h) (c : fmtIn K = true) : CodeBut h 194 190:=by
 obtain ⟨o,ho,c⟩:=any_some c
 obtain ⟨c0,c⟩:=and_eq_true c
 obtain ⟨vs,e,c⟩:=any_some c
 obtain ⟨c,c5⟩:=and_eq_true c
 obtain ⟨c,c4⟩:=and_eq_true c
 obtain ⟨c,c3⟩:=and_eq_true c
 obtain ⟨c1,c2⟩:=and_eq_true c
 exact ⟨o,vs,_,_,_,_,_,_,_,X _ _ ho,eq_of_beq c0,vsO_eq e,eq_of_beq c1,eq_of_beq c2,eq_of_beq c3,eq_of_beq c4,eq_of_beq c5,by decide⟩
structure ChkA (K : Frag) (V : Program) : Prop where
 g : ChkG K
 w : ChkW K 184
 r : ChkR K
 n : ChkN K
 law : GIn K "law" 246 d_law
 fc : (fdE K 195).code = .ref 194
 f : fmtIn K = true
 no : K.lookup 190 = none
 rcd : ∃ (i : Nat) (pos : Pos),(recsOf V)[i]? = some ⟨d_fmt.name,d_fmt.params,d_fmt.body,d_fmt.scope,pos⟩
 imp : importsNone V = true
theorem ints_vr {C : Addr} {I : Im} : ∀ {vs : List Value} {ns : List Int},IntsAre vs ns→VRs C I (ns.map .int) vs:=by
 intro vs ns h
 induction h with
 | nil=>exact .nil
 | cons _ _ _ ih=>exact .cons (.int _ _) ih
noncomputable def topFc (h : Heap) : Fc:={ env:=envOfC d_law.qual d_law.scope 0 0 .none,slots:=[],h₀:=wo h 190,frames:=some [],hd:=none,lvl:=6,gs:=fun g _=>AllBare g }
noncomputable def EndOk (s₁ : Shared) (r : Result) (s' : Shared) : Prop:=r = .ok (.ret (.bool true))∧OldK s₁.heap s'.heap∧s'.os = s₁.os∧AllBare s'.gens
theorem top {prog : Program} {w : World} {K : Frag} {V : Program} {loose : List Str} {mean : ExcName→Option Value} {mg mb : Str→Option Value} {s₁ : Shared} (c : ChkA K V) (X : K.In s₁.heap) (T : Top V loose mean mg mb s₁.heap) (hg : s₁.gens = #[])
  {a : Addr} {vs : List Value} {n : Nat} {ns : List Int} (ha : s₁.heap.get? a = some (listOf vs.toArray n)) (hi : IntsAre vs ns) (hz : ns.length ≤ 63) : codeAny (model prog w) callerA (.call (.ref 246) ⟨[.ref a],[]⟩) (EndOk s₁) s₁:=by
 obtain ⟨i,pos,hrec⟩:=c.rcd
 obtain ⟨fa,fo,fd,cc,P,t1,t2,t3,t4,t5,t6⟩:=T.tab _ (List.mem_of_getElem? hrec)
 haveI hfmt : mg "format_witnesses" = some (.ref 195):=mg_of X T.g c.g.fmt.g
 haveI t1' : mg "format_witnesses" = some (.ref fa):=t1
 replace t1':=hfmt ▸ t1'
 obtain rfl : 195 = fa:=by injection t1' with e;injection e
 obtain ⟨⟨o5,_,_,_,_,f1,f2,f3⟩,_⟩:=c.g.fmt.fn.at X
 replace f1:=t2 ▸ f1
 obtain rfl : fo = o5:=Option.some.inj f1
 replace f2:=t3 ▸ f2
 haveI f4 : fd = _:=Data.func.inj f2
 haveI f5 : fd.code = (fdE K 195).code:=by refine rr f4 ?_;rfl
 replace f5:=t4 ▸ f5;replace f5:=(c.fc ..) ▸ f5
 obtain rfl : cc = 194:=by injection f5
 obtain ⟨o,ws,file,tf,flags,tg,inF,text,tt,h1,h2,h3,h4,_⟩:=code_of X c.f
 obtain ⟨⟨o',ws',g1,g2,g3,g4⟩,hP⟩:=id t6
 replace g1:=h1 ▸ g1
 obtain rfl : o = o':=Option.some.inj g1
 replace g3:=h3 ▸ g3
 obtain rfl : ws = ws':=Data.fields.inj g3
 haveI hP190 : P = 190:=by
  replace h4:=(Array.getD_eq_getD_getElem? ..) ▸ h4;replace h4:=g4 ▸ h4
  simpa using h4
 subst hP190
 replace hP : s₁.heap.get? 190 = some (tabO #[]):=hP
 haveI X' : K.In (wo s₁.heap 190):=wo_in X c.no
 haveI hN:=T.seer c.imp
 haveI TX : Tx (topFc s₁.heap).h₀ mg mb:=⟨wo_ns hP T.g,wo_ns hP T.b,T.builtins,let ⟨mc,n1,n2⟩:=T.nolimit;⟨mc,wo_ns hP n1,n2⟩⟩
 haveI G : Gl (topFc s₁.heap).h₀ mg mb:=gl_of c.g X X' T.g TX
 haveI W : Wc K 184 (topFc s₁.heap).h₀ mg:=wc_of c.w X X' T.g
 haveI B : Ng K 119 (topFc s₁.heap).h₀ mg ((wo s₁.heap 190).nsMap 118):=ng_of c.n X X' T.g
 haveI Rr : Rx (topFc s₁.heap).h₀ mg:=rx_of c.r X X' T.g
 haveI hsm : ∃ o,(topFc s₁.heap).h₀.get? sysModules = some o:=by
  obtain ⟨mm,n1,_⟩:=hN.mods
  obtain ⟨o,_,_,ho,_⟩:=wo_ns hP n1
  exact ⟨o,ho⟩
 obtain ⟨bm,ob,M⟩:=bmod_of_top T
 haveI M' : BMod (topFc s₁.heap).h₀ mainGlobals mg bm ob:=⟨wo_ns hP M.ns,M.name,M.ne,wo_keep hP M.obj (fun q=>by have:=M.data;replace this:=q ▸ this;cases this),M.cls,M.dict,M.data⟩
 haveI hff:=(c.g.fmt.fn.at X').1
 replace hff:=(c.fc ..) ▸ hff
 haveI Y : Fm (topFc s₁.heap).h₀ mg 195 190 #[]:=⟨⟨194,bm,ob,hff,M',code_of X' c.f⟩,trivial,rfl⟩
 haveI hlaw:=(c.law.fn.at X').1
 haveI R0 : Rel0 w.params 184 (topFc s₁.heap) (wo s₁.heap 190).get? [(190,.raw (· = tabO #[]))] s₁:=by
  refine ⟨fun b o e=>wo_sub e,fun b o e=>e,fun b cl hm=>?_,fun b hb=>?_,List.nodup_cons.mpr ⟨(fun h=>nomatch h),List.nodup_nil⟩,?_⟩
  ·obtain ⟨rfl,rfl⟩:=Prod.mk.inj (List.mem_singleton.mp hm)
   exact ⟨_,hP,rfl⟩
  ·obtain rfl : b = 190:=List.mem_singleton.mp hb
   refine rr wo_get ?_;refine rr (if_pos rfl ..) ?_;rfl
  ·show AllBare s₁.gens
   refine rr hg ?_;exact .empty
 haveI A0 : AOk (topFc s₁.heap) callerA:=⟨rfl,rfl,by show 1 + claimMargin + 20 * 6 ≤ 600;decide,by show 4 + 50 * 6 ≤ 5000;decide⟩
 haveI haI : (wo s₁.heap 190).get? a = some (listOf vs.toArray n):=wo_keep hP ha (fun q=>by injection q with q1;cases q1)
 haveI hx : VRs 184 (wo s₁.heap 190).get? [VI ns] [.ref a]:=.one (.mk_lst haI (ints_vr hi))
 haveI L:=law_ok (heapsOf ns) rfl
 haveI PO:=page_ok (heapsOf ns) rfl
 refine enter_fn0 (Φ:=topFc s₁.heap) ok_law (by show 2 ≤ 6;decide) TX hlaw bind_law A0 R0 hx rfl fun s₂ a' R' K₀ hfresh k₁=>?_
 haveI ex:=law_fn (prog:=prog) (w:=w) (Φ:=topFc s₁.heap) G W B Rr hfmt Y hsm rfl (by show 5 ≤ 6;decide) rfl rfl (script:=ns) (by lia) PO.l50 PO.sp PO.pg PO.pe L
  (Q:=fun v σ'=>v = .bool true∧∃ p,(190,Cell.raw p)∈σ'∧∀ o,p o→TabX o) (fun σ' p h1 h2=>⟨rfl,p,h1,h2⟩)
 refine ex s₁.heap.objs.size 246 _ _ _ s₂ a' R' _ _ fun fl ρ' σ' I' s' flow q hfl R₂ k₂=>?_
 haveI k:=K₀.trans k₂ R'.apartI
 cases hfl with
 | next=>exact nomatch q.1
 | brk=>exact nomatch q.1
 | cont=>exact nomatch q.1
 | ret hv =>
  obtain ⟨rfl,p,hp1,hp2⟩:=q
  obtain ⟨_,rfl⟩:=hv.inv
  refine ⟨rfl,⟨fun b o e=>?_,fun b o e=>?_⟩,k.os,R₂.gens⟩
  ·by_cases hb : b = 190
   ·subst hb
    replace e:=hP ▸ e
    obtain rfl:=Option.some.inj e
    obtain ⟨o',ho',hpo⟩:=R₂.cell 190 _ hp1
    obtain ⟨ps,rfl⟩:=hp2 o' hpo
    exact .inr (.inl ⟨t6.isCodeTable,rfl,#[],ps,rfl,by refine rr ho' ?_;simp [tabO]⟩)
   ·refine .inl (k.keep b o e (fun q=>hb (List.mem_singleton.mp q)) fun q=>?_)
    replace e:=(hfresh b q ..) ▸ e;exact nsm e
  ·obtain ⟨o',ho'⟩:=Option.isSome_iff_exists.mp (k.alive b (by refine rr e ?_;rfl))
   exact ⟨o',ho'⟩
noncomputable def Kof (h : Heap) : Frag:=(List.range 247).filterMap fun a=>if a = 190 then none else (h.get? a).map fun o=>(a,o)
theorem kof_mem {h : Heap} {a : Addr} {o : Obj} (m : (a,o)∈Kof h) : a ≠ 190∧h.get? a = some o:=by
 obtain ⟨b,_,e⟩:=List.mem_filterMap.mp m
 by_cases q : b = 190
 ·replace e:=if_pos q ▸ e
  exact nsm e
 ·replace e:=if_neg q ▸ e
  obtain ⟨x,hx,e⟩:=Option.map_eq_some_iff.mp e
  cases e
  exact ⟨q,hx⟩
theorem kof_in (h : Heap) : (Kof h).In h:=fun a o e=>(kof_mem (lookup_mem e)).2
theorem kof_no (h : Heap) : (Kof h).lookup 190 = none:=by
 cases e : (Kof h).lookup 190 with
 | none=>rfl
 | some o=>exact absurd rfl (kof_mem (lookup_mem e)).1
noncomputable abbrev FnView:=FuncData
noncomputable def viewF (fd : FuncData) : FnView:={ fd with doc:=default,pyModule:=default,annotations:=default,code:=default,closureTuple:=default }
noncomputable def viewD (d : Fn) : FnView:=fnX d.name d.qual d.params d.body d.scope [] .none .none default default default default default
theorem view_eq {fd : FuncData} {d : Fn} (h : viewF fd = viewD d) : fd = fnX d.name d.qual d.params d.body d.scope [] .none .none fd.doc fd.pyModule fd.annotations fd.code fd.closureTuple :=
 congrArg (fun x : FuncData=>{ x with doc:=fd.doc,pyModule:=fd.pyModule,annotations:=fd.annotations,code:=fd.code,closureTuple:=fd.closureTuple }) h
noncomputable def gFns : List (Str × Addr × Fn):=[("_quote_periods",55,d_quote),("_fix_eols",62,d_eols),("unmatched",69,d_unm),("liberal_is_HDN",81,d_hdn),("format_witnesses",195,d_fmt),("_law_heaps",200,d_heaps),("_law_leads",207,d_leads),("_law_read",214,d_read),
 ("_law_news",219,d_news),("_law_columns",226,d_cols),("_law_lefter",231,d_lefter),("_law_plain",236,d_plain),("_law_least",241,d_least),("law",246,d_law)]
noncomputable def wFns : List (Str × Addr × Fn):=[("__init__",139,d_winit),("longest_run_of_spaces",146,d_wlong),("indent_level",153,d_windent),("equal",160,d_wequal),("not_equal_witness",167,d_wwit),("less",174,d_wless)]
noncomputable def nFns : List (Str × Addr × Fn):=[("__init__",95,d_ninit),("get_lineno",102,d_ngetn),("get_msg",109,d_ngetm),("get_line",116,d_ngetl)]
noncomputable def fnB (K : Frag) (p : Str × Addr × Fn) : Bool:=fnOk K p.2.1 && codeIn K (fdE K p.2.1).code p.2.2.qual
noncomputable def chkL (K : Frag) : List Bool:=[noNames K,
 gFns.all fun p=>fnB K p && nsIn K mainGlobals p.1 == some (some (.ref p.2.1)),
 wFns.all fun p=>fnB K p && findIn K (.ref 184) p.1 == some (some (.ref p.2.1)) && typeIn K (.ref p.2.1) == some (.type "function"),
 nFns.all fun p=>fnB K p && nsIn K 118 p.1 == some (some (.ref p.2.1)),
 findIn K (.ref 184) "__getattribute__" == some (some (.builtin "object.__getattribute__")),
 findIn K (.ref 184) "__getattr__" == some none,
 findIn K (.ref 184) "__setattr__" == some (some (.builtin "object.__setattr__")),
 (clsIn K 184).any (·.hasDict),
 plainOver K 184,
 makesIn K 184,
 keepIn K (.ref 184),
 nsIn K mainGlobals "Whitespace" == some (some (.ref 184)),
 ownNames.all fun x=>findIn K (.ref 184) x == some none,
 readsIn K 184 (.type "type"),
 (findCls K (.ref 184) (.type "type") "S").bind cfV == some (.str (mkS [32]) 482),
 (findCls K (.ref 184) (.type "type") "T").bind cfV == some (.str (mkS [9]) 483),
 nsIn K mainGlobals "_twin_re_1" == some (some (.ref 43)),
 nsIn K mainGlobals "_twin_re_2" == some (some (.ref 48)),
 nsIn K mainGlobals "IPV4_RE" == some (some (.ref 74)),
 nsIn K mainGlobals "CRLF" == some (some (.str (mkS [13,10]) 349)),
 patIn K 43 42 qc 1,
 patIn K 48 47 ec 0,
 patIn K 74 73 ipc 0,
 keepIn K (.ref 119),
 nsIn K mainGlobals "NannyNag" == some (some (.ref 119)),
 nagIn K 119 118,
 nagNames.all fun x=>nsIn K 118 x == some none,
 fmtIn K,
 (fdE K 195).code == .ref 194]
noncomputable def chkB (K : Frag) : Bool:=(chkL K).all id
theorem chk_at {l : List Bool} (h : l.all id = true) {b : Bool} (i : Nat) (e : l[i]? = some b) : b = true:=List.all_eq_true.mp h b (List.mem_of_getElem? e)
noncomputable def views (K : Frag) : List FnView:=(gFns ++ wFns ++ nFns).map fun p=>viewF (fdE K p.2.1)
noncomputable def goodV : List FnView:=(gFns ++ wFns ++ nFns).map fun p=>viewD p.2.2
theorem map_all {α β : Type} {f g : α→β} : ∀ {l : List α},l.map f = l.map g→∀ x∈l,f x = g x
 | a :: l,h,x,hx=>by
  replace h:=(List.map_cons ..) ▸ h;replace h:=(List.map_cons ..) ▸ h
  obtain ⟨h1,h2⟩:=List.cons.inj h
  rcases List.mem_cons.mp hx with rfl | hx
  ·exact h1
  ·exact map_all h2 x hx
theorem chkA_of {K : Frag} {V : Program} (hb : chkB K = true) (hv : views K = goodV) (hn : K.lookup 190 = none) (hr : ∃ (i : Nat) (pos : Pos),(recsOf V)[i]? = some ⟨d_fmt.name,d_fmt.params,d_fmt.body,d_fmt.scope,pos⟩) (hi : importsNone V = true) : ChkA K V:=by
 haveI B : ∀ {b : Bool} (i : Nat),(chkL K)[i]? = some b→b = true:=fun i e=>chk_at hb i e
 haveI all:=map_all hv
 have fn : ∀ p∈gFns ++ wFns ++ nFns,fnB K p = true→FnIn K p.2.1 p.2.2:=fun p hp h =>
  ⟨(and_eq_true h).1,view_eq (all p hp),(and_eq_true h).2⟩
 have g : ∀ (i : Nat) p,gFns[i]? = some p→GIn K p.1 p.2.1 p.2.2:=fun i p e=>by
  have hp:=List.mem_of_getElem? e
  obtain ⟨h1,h2⟩:=and_eq_true (List.all_eq_true.mp (B 1 rfl) p hp)
  exact ⟨eq_of_beq h2,fn p (List.mem_append_left _ (List.mem_append_left _ hp)) h1⟩
 have w : ∀ (i : Nat) p,wFns[i]? = some p→MIn K 184 p.1 p.2.1 p.2.2:=fun i p e=>by
  have hp:=List.mem_of_getElem? e
  obtain ⟨h1,h2⟩:=and_eq_true (List.all_eq_true.mp (B 2 rfl) p hp)
  obtain ⟨h1,h3⟩:=and_eq_true h1
  exact ⟨eq_of_beq h3,eq_of_beq h2,fn p (List.mem_append_left _ (List.mem_append_right _ hp)) h1⟩
 have n : ∀ (i : Nat) p,nFns[i]? = some p→NIn K 118 p.1 p.2.1 p.2.2:=fun i p e=>by
  have hp:=List.mem_of_getElem? e
  obtain ⟨h1,h2⟩:=and_eq_true (List.all_eq_true.mp (B 3 rfl) p hp)
  exact ⟨eq_of_beq h2,fn p (List.mem_append_right _ hp) h1⟩
 refine ⟨⟨B 0 rfl,g 0 _ rfl,g 1 _ rfl,g 2 _ rfl,g 3 _ rfl,g 4 _ rfl,g 5 _ rfl,g 6 _ rfl,g 7 _ rfl,g 8 _ rfl,g 9 _ rfl,g 10 _ rfl,g 11 _ rfl,g 12 _ rfl⟩,
  ⟨eq_of_beq (B 4 rfl),eq_of_beq (B 5 rfl),eq_of_beq (B 6 rfl),B 7 rfl,B 8 rfl,B 9 rfl,B 10 rfl,eq_of_beq (B 11 rfl),B 12 rfl,B 13 rfl,B 14 rfl,B 15 rfl,w 0 _ rfl,w 1 _ rfl,w 2 _ rfl,w 3 _ rfl,w 4 _ rfl,w 5 _ rfl⟩,
  ⟨eq_of_beq (B 16 rfl),eq_of_beq (B 17 rfl),eq_of_beq (B 18 rfl),eq_of_beq (B 19 rfl),B 20 rfl,B 21 rfl,B 22 rfl⟩,
  ⟨B 23 rfl,eq_of_beq (B 24 rfl),B 25 rfl,B 26 rfl,n 0 _ rfl,n 1 _ rfl,n 2 _ rfl,n 3 _ rfl⟩,g 13 _ rfl,?_,B 27 rfl,hn,hr,hi⟩
 exact eq_of_beq (B 28 rfl)
end Mine
set_option tactic.hygienic true
namespace Mine
theorem args_form {w : World} {vals : List Value} {s₀ s₁ : Shared} {args : List WData} {as : List Addr} (hpre : PySem.Challenge.rw_xe0032_01.row.toRowW.claim.pre args = true) (hlay : WData.layableAll args = true) (hrd : ReadsAllW PySem.Challenge.rw_xe0032_01.row.toRowW.records (classAt s₀.heap) s₁.heap vals args as) (hwl : WellAll w.params s₁.heap vals args) (hlo : ∀ a ∈ as, (a == sysModules) = false) :
    ∃ (ns : List Int) (a : Addr) (vs : List Value) (n : Nat), vals = [.ref a] ∧ s₁.heap.get? a = some (listOf vs.toArray n) ∧ IntsAre vs ns ∧ ns.length ≤ 63 := by
  wrow_args hpre hlay hrd hwl hlo
  rename_i ns hs h0 h1 h2 h3 as₁ as₂ a vs as₃ hL hra hw hr0 hi hr hc _
  obtain ⟨o, ho, c1, n, c2⟩ := hL
  cases hw with
  | list hg hall =>
    rw [ho] at hg
    obtain rfl := Option.some.inj hg
    cases c2
    exact ⟨ns, a, vs, _, rfl, ho, hi, by omega⟩
theorem post_ok (args : List WData) (ds : List WData) : PySem.Challenge.rw_xe0032_01.row.toRowW.claim.post args (.bool true) ds = true := by kernel_rfl
noncomputable def posOf : Stmt → Pos
  | .FunctionDef _ _ _ _ _ _ _ _ _ pos => pos
  | _ => ⟨0, 0, 0, 0⟩
noncomputable def viewV : Program := { PySem.Challenge.pw_xe0032_01 with main := { PySem.Challenge.pw_xe0032_01.main with body := [0, 1, 2, 5, 6, 7, 8, 9, 11, 12, 13, 15, 16, 17, 18, 19, 20, 21, 22, 23, 24, 25].map stmtAt } }
noncomputable def looseV : List Str := ["_twin_re_1", "_twin_re_2", "IPV4_RE", "Whitespace"]
noncomputable def obsH (s : Shared) : Bool × List FnView := (chkB (Kof s.heap), views (Kof s.heap))
noncomputable def EndsV (w : World) : Prop := (openEnds treeTable PySem.Challenge.pw_xe0032_01 w 3170).map (fun s => (openSeen viewV looseV (importedModules PySem.Challenge.pw_xe0032_01.main.body) (fun _ => true) true s, obsH s)) = some (openGood viewV looseV, (true, goodV))
theorem leftF (w : World) : EndsV (w.withFollow "special-get-raises" false) := by
  unfold EndsV openEnds fencedOpening topFrom
  rw [PySem.W.Fast.te10274390034422433532, PySem.W.Fast.te14082659384304107361, PySem.W.Fast.te4187177175401517315, PySem.W.Fast.te14289696077712309145, PySem.W.Fast.te1435165496053646825, PySem.W.Fast.te14364793385576792824]
  kernel_rfl
theorem leftT (w : World) : EndsV (w.withFollow "special-get-raises" true) := by
  unfold EndsV openEnds fencedOpening topFrom
  rw [PySem.W.Fast.te10274390034422433532, PySem.W.Fast.te14082659384304107361, PySem.W.Fast.te4187177175401517315, PySem.W.Fast.te14289696077712309145, PySem.W.Fast.te1435165496053646825, PySem.W.Fast.te14364793385576792824]
  kernel_rfl
theorem left : LeftO PySem.Challenge.pw_xe0032_01 viewV looseV (fun _ => true) obsH (fun _ => (true, goodV)) 3170 := byRow2 "special-get-raises" (P := EndsV) leftF leftT
theorem rec5 : ∃ (i : Nat) (pos : Pos), (recsOf viewV)[i]? = some ⟨d_fmt.name, d_fmt.params, d_fmt.body, d_fmt.scope, pos⟩ := ⟨5, posOf (stmtAt 15), by kernel_rfl⟩
theorem imp0 : importsNone viewV = true := by kernel_rfl
theorem name_ok : PySem.Challenge.rw_xe0032_01.row.name = ("law" : Str) := by rfl
theorem ref_eq {a b : Addr} (h : some (Value.ref a) = some (Value.ref b)) : a = b := by injection h with e; injection e
theorem well : PySem.Challenge.rw_xe0032_01.wellSaid = true := by kernel_rfl
noncomputable def saysH (_ : World) (h : Heap) : Prop := ∃ K : Frag, K.In h ∧ K.lookup 190 = none ∧ chkB K = true ∧ views K = goodV
end Mine
set_option maxRecDepth 100000 in
set_option maxHeartbeats 8000000 in
theorem PySem.Challenge.cw_xe0032_01_holds : PySem.Challenge.rw_xe0032_01.Holds := by
  w_on
  refine holds_law Mine.well fun said => ?_
  refine holds_open (q := Mine.viewV) (loose := Mine.looseV) (Xt := fun _ => true) (XP := fun _ _ => True) (Yf := Mine.obsH) (Ya := fun _ => (true, Mine.goodV)) (YP := Mine.saysH) (N := 3170) Mine.left (fun w s e => ?hY) (fun w h h' x k => ?hYk) (fun _ _ => trivial) (fun _ _ _ _ _ => trivial) (by rfl) (by rfl) (by rfl) (fun s e => recFacts_of (by rfl)) (by rfl) (by first | assumption | decide +kernel) (by decide +kernel) ⟨rfl, rfl, rfl, rfl, rfl, by decide +kernel⟩ ?hw ?hc
  case hY => exact ⟨Mine.Kof s.heap, Mine.kof_in _, Mine.kof_no _, congrArg Prod.fst e, congrArg Prod.snd e⟩
  case hYk =>
    obtain ⟨K, x1, x2⟩ := x
    exact ⟨K, x1.keeps k, x2⟩
  case hw => w_witness2
  case hc =>
    intro w s₀ s₁ mg mb G Y fa o pm cd doc dV kV ho hd' hcd hD hmg hg args vals as hpre hlay hrd hwl hlo
    obtain ⟨K, KX, kn, kb, kv⟩ := Y
    have c : Mine.ChkA K Mine.viewV := Mine.chkA_of kb kv kn Mine.rec5 Mine.imp0
    obtain ⟨ns, a, vs, n, rfl, ha, hi, hz⟩ := Mine.args_form hpre hlay hrd hwl hlo
    have hfa : mg "law" = some (.ref 246) := mg_of KX G.T.g c.law.g
    have hmg' : mg "law" = some (.ref fa) := Eq.mp (congrArg (fun x => mg x = some (.ref fa)) Mine.name_ok) hmg
    have e246 : 246 = fa := Mine.ref_eq (hfa.symm.trans hmg')
    subst e246
    refine enter_call (codeAny_mono (Mine.top c KX G.T hg ha hi hz) fun r s' g => ?_)
    obtain ⟨rfl, g2, g3, g4⟩ := g
    exact ⟨.inl ⟨.bool true, .bool true, [], rfl, fun _ => rfl, .bool true, Mine.post_ok _ _, fun _ => ⟨List.nodup_nil, fun _ h => absurd h List.not_mem_nil⟩⟩, g2, g3, g4⟩
