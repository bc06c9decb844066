import PyProof.Rows.All
import Wide.All
import OpenK.AllK
import Wide.FinOn
import PySem.Challenge.RW_tc0011_01
set_option linter.all false
set_option Elab.async false
set_option tactic.hygienic false
set_option genSizeOf false
set_option genSizeOfSpec false
set_option genInjectivity false
set_option maxRecDepth 100000
set_option maxHeartbeats 4000000
namespace Mine
open PySem PySem.Calls PyProof.Rows
theorem nsf {α:Type} {x:α} {P:Prop} (h:none=some x):P:=nomatch h
theorem snf {α:Type} {x:α} {P:Prop} (h:some x=none):P:=nomatch h
theorem ftf {P:Prop} (h:false=true):P:=nomatch h
theorem zav {α:Type} {L:List α} {x:α} {n:Nat} (h:L.length=n):(L++[x])[n]?=some x:=by subst h;exact List.getElem?_concat_length
theorem bj {α β:Type} {x:Option α} {f:α→Option β} {a:α} {r:Option β} (e:x=some a) (h:f a=r):(x >>= f)=r:=by subst e;exact h
theorem sj {α:Type} {a b:α} (h:some a=some b):a=b:=Option.some.inj h
theorem opj {α β:Type} {a c:α} {b d:β} (h:some (a,b)=some (c,d)):a=c∧b=d:=by cases h;exact ⟨rfl,rfl⟩
theorem opjk {α β:Type} {a c:α} {b d:β} (h:some (a,b)=some (c,d)) {Γ:Prop} (κ:a=c→b=d→Γ):Γ:=by cases h;exact κ rfl rfl
@[elab_as_elim] theorem opjs {α β:Type} {M:α→β→Prop} {a c:α} {b d:β} (h:some (a,b)=some (c,d)) (κ:M a b):M c d:=by cases h;exact κ
theorem op3 {α β γ:Type} {a a':α} {b b':β} {c c':γ} (h:some (a,b,c)=some (a',b',c')):a=a'∧b=b'∧c=c':=by cases h;exact ⟨rfl,rfl,rfl⟩
theorem op3k {α β γ:Type} {a a':α} {b b':β} {c c':γ} (h:some (a,b,c)=some (a',b',c')) {Γ:Prop} (κ:a=a'→b=b'→c=c'→Γ):Γ:=by cases h;exact κ rfl rfl rfl
theorem ifn {α:Type} {p:Bool} {x:Option α} {y:α} (h:(if p=true then none else x)=some y):p=false∧x=some y:=by
 cases p with
 | true=>exact nsf h
 | false=>exact ⟨rfl,h⟩
theorem ifnk {α:Type} {p:Bool} {x:Option α} {y:α} (h:(if p=true then none else x)=some y) {Γ:Prop} (κ:p=false→x=some y→Γ):Γ:=by
 cases p with
 | true=>exact nsf h
 | false=>exact κ rfl h
theorem ifs {α:Type} {p:Prop} [Decidable p] {x:Option α} {y:α} (h:(if p then x else none)=some y):p∧x=some y:=by
 split at h
 ·rename_i q;exact ⟨q,h⟩
 ·exact nsf h
theorem ifsk {α:Type} {p:Prop} [Decidable p] {x:Option α} {y:α} (h:(if p then x else none)=some y) {Γ:Prop} (κ:p→x=some y→Γ):Γ:=by
 split at h
 ·rename_i q;exact κ q h
 ·exact nsf h
inductive AV where
 | lit (v:Value)
 | int (i:Int)
 | str (s:Str)
 | obj (k:Nat)
 /-- some number below n -/
 | rng (n:Nat)
 deriving DecidableEq
inductive AO where
 | list (xs:List AV)
 | range (lo hi st:Int)
 | opq (P:Obj→Prop)
 /-- a list that is this very object (a given one,only read) -/
 | arg (o:Obj) (xs:List AV)
 /-- a table of code objects -/
 | tab (xs:List AV)
 /-- the code object of the lambda -/
 | code
noncomputable def lamNm:Str:="_law_counts.<locals>.<lambda>"
noncomputable def AV.Rel (σ:List Addr):AV→Value→Prop
 | .lit v,x=>x=v
 | .int i,x=>∃ t,x=.int i t
 | .str s,x=>∃ t,x=.str s t
 | .obj k,x=>∃ a,σ[k]?=some a∧x=.ref a
 | .rng n,x=>∃ (i:Nat) (t:Tok),i < n∧x=.int (i:Int) t
noncomputable def RelL (σ:List Addr):List AV→List Value→Prop
 | [],[]=>True
 | x::xs,v::vs=>x.Rel σ v∧RelL σ xs vs
 | _,_=>False
noncomputable def AO.At (σ:List Addr) (h:Heap) (a:Addr):AO→Prop
 | .list xs=>∃ vs n,h.get? a=some { cls:=.type "list",dict:=none,data:=.seq vs.toArray n,slots:=#[] }∧RelL σ xs vs∧xs.length≤1048576
 | .range lo hi st=>∃ t u v,IsRange h a lo hi st t u v
 | .opq P=>∃ o,h.get? a=some o∧P o
 | .arg o xs=>h.get? a=some o∧∃ vs n,o={ cls:=.type "list",dict:=none,data:=.seq vs.toArray n,slots:=#[] }∧RelL σ xs vs∧xs.length≤1048576
 | .tab xs=>∃ vs,h.get? a=some (PySem.W.tabObj vs.toArray)∧RelL σ xs vs
 | .code=>∃ o vs t,h.get? a=some o∧o.data=.fields vs∧vs[1]?=some (.str lamNm t)
theorem AV.Rel.mono {σ τ:List Addr} {x:AV} {v:Value} (r:x.Rel σ v):x.Rel (σ++τ) v:=by
 cases x with
 | lit _=>exact r
 | int _=>exact r
 | str _=>exact r
 | rng _=>exact r
 | obj k =>
  obtain ⟨a,h,e⟩:=r
  exact ⟨a,by rw [List.getElem?_append_left (List.getElem?_eq_some_iff.mp h).1];exact h,e⟩
theorem RelL.mono {σ τ:List Addr}:∀ {xs:List AV} {vs:List Value},RelL σ xs vs→RelL (σ++τ) xs vs
 | [],[],_=>trivial
 | _::_,_::_,⟨a,b⟩=>⟨a.mono,RelL.mono b⟩
 | [],_::_,h=>h.elim
 | _::_,[],h=>h.elim
theorem RelL.length {σ:List Addr}:∀ {xs:List AV} {vs:List Value},RelL σ xs vs→vs.length=xs.length
 | [],[],_=>rfl
 | _::_,_::_,⟨_,b⟩=>congrArg (· + 1) (RelL.length b)
 | [],_::_,h=>h.elim
 | _::_,[],h=>h.elim
theorem RelL.get {σ:List Addr}:∀ {xs:List AV} {vs:List Value},RelL σ xs vs→∀ {i:Nat} {x:AV},xs[i]?=some x→∃ v,vs[i]?=some v∧x.Rel σ v
 | [],[],_,_,_,h=>nsf h
 | _::_,v::_,⟨a,_⟩,0,_,h=>⟨v,rfl,sj h▸a⟩
 | _::_,_::_,⟨_,b⟩,_ + 1,_,h=>RelL.get b h
 | [],_::_,h,_,_,_=>h.elim
 | _::_,[],h,_,_,_=>h.elim
theorem RelL.get' {σ:List Addr}:∀ {xs:List AV} {vs:List Value},RelL σ xs vs→∀ {i:Nat} {v:Value},vs[i]?=some v→∃ x,xs[i]?=some x∧x.Rel σ v
 | [],[],_,_,_,h=>nsf h
 | x::_,_::_,⟨a,_⟩,0,_,h=>⟨x,rfl,sj h▸a⟩
 | _::_,_::_,⟨_,b⟩,_ + 1,_,h=>RelL.get' b h
 | [],_::_,h,_,_,_=>h.elim
 | _::_,[],h,_,_,_=>h.elim
theorem RelL.append {σ:List Addr}:∀ {xs ys:List AV} {vs us:List Value},RelL σ xs vs→RelL σ ys us→RelL σ (xs++ys) (vs++us)
 | [],_,[],_,_,h=>h
 | _::_,_,_::_,_,⟨a,b⟩,h=>⟨a,RelL.append b h⟩
 | [],_,_::_,_,h,_=>h.elim
 | _::_,_,[],_,h,_=>h.elim
theorem RelL.take {σ:List Addr}:∀ {xs:List AV} {vs:List Value} (n:Nat),RelL σ xs vs→RelL σ (xs.take n) (vs.take n)
 | [],[],n,_=>by cases n<;>exact trivial
 | _::_,_::_,0,_=>trivial
 | _::_,_::_,n + 1,⟨a,b⟩=>⟨a,RelL.take n b⟩
 | [],_::_,_,h=>h.elim
 | _::_,[],_,h=>h.elim
theorem RelL.drop {σ:List Addr}:∀ {xs:List AV} {vs:List Value} (n:Nat),RelL σ xs vs→RelL σ (xs.drop n) (vs.drop n)
 | [],[],n,_=>by cases n<;>exact trivial
 | _::_,_::_,0,h=>h
 | _::_,_::_,n + 1,⟨_,b⟩=>RelL.drop n b
 | [],_::_,_,h=>h.elim
 | _::_,[],_,h=>h.elim
theorem RelL.set {σ:List Addr} {y:AV} {u:Value} (r:y.Rel σ u):∀ {xs:List AV} {vs:List Value} (n:Nat),RelL σ xs vs→RelL σ (xs.set n y) (vs.set n u)
 | [],[],n,_=>by cases n<;>exact trivial
 | _::_,_::_,0,⟨_,b⟩=>⟨r,b⟩
 | _::_,_::_,n + 1,⟨a,b⟩=>⟨a,RelL.set r n b⟩
 | [],_::_,_,h=>h.elim
 | _::_,[],_,h=>h.elim
theorem RelL.reverse {σ:List Addr}:∀ {xs:List AV} {vs:List Value},RelL σ xs vs→RelL σ xs.reverse vs.reverse
 | [],[],_=>trivial
 | _::_,_::_,⟨a,b⟩=>by
  rw [List.reverse_cons,List.reverse_cons]
  exact RelL.append (RelL.reverse b) ⟨a,trivial⟩
 | [],_::_,h=>h.elim
 | _::_,[],h=>h.elim
theorem AO.At.mono {σ τ:List Addr} {h:Heap} {a:Addr} {o:AO} (x:o.At σ h a):o.At (σ++τ) h a:=by
 cases o with
 | list xs=>obtain ⟨vs,n,e,r,l⟩:=x;exact ⟨vs,n,e,r.mono,l⟩
 | range _ _ _=>exact x
 | opq _=>exact x
 | arg _ _=>obtain ⟨e,vs,n,eo,r,l⟩:=x;exact ⟨e,vs,n,eo,r.mono,l⟩
 | tab _=>obtain ⟨vs,e,r⟩:=x;exact ⟨vs,e,r.mono⟩
 | code=>exact x
theorem AO.At.keep {σ:List Addr} {h h':Heap} {a:Addr} {o:AO} (x:o.At σ h a) (hk:∀ ob,h.get? a=some ob→h'.get? a=some ob):o.At σ h' a:=by
 cases o with
 | list xs=>obtain ⟨vs,n,e,r,l⟩:=x;exact ⟨vs,n,hk _ e,r,l⟩
 | range _ _ _=>obtain ⟨t,u,v,e⟩:=x;exact ⟨t,u,v,hk _ e⟩
 | opq _=>obtain ⟨ob,e,p⟩:=x;exact ⟨ob,hk _ e,p⟩
 | arg _ _=>obtain ⟨e,r⟩:=x;exact ⟨hk _ e,r⟩
 | tab _=>obtain ⟨vs,e,r⟩:=x;exact ⟨vs,hk _ e,r⟩
 | code=>obtain ⟨ob,vs,t,e,r⟩:=x;exact ⟨ob,vs,t,hk _ e,r⟩
theorem AO.At.ex {σ:List Addr} {h:Heap} {a:Addr} {o:AO} (x:o.At σ h a):∃ ob,h.get? a=some ob:=by
 cases o with
 | list xs=>obtain ⟨vs,n,e,_⟩:=x;exact ⟨_,e⟩
 | range _ _ _=>obtain ⟨t,u,v,e⟩:=x;exact ⟨_,e⟩
 | opq _=>obtain ⟨ob,e,p⟩:=x;exact ⟨_,e⟩
 | arg _ _=>exact ⟨_,x.1⟩
 | tab _=>obtain ⟨vs,e,r⟩:=x;exact ⟨_,e⟩
 | code=>obtain ⟨ob,vs,t,e,r⟩:=x;exact ⟨_,e⟩
noncomputable def GMore (g g':Array GenState):Prop:=∃ more:Array GenState,g'=g++more∧∀ y∈more,y.bare=true
theorem GMore.refl (g:Array GenState):GMore g g:=⟨#[],by simp -iota,by simp -iota⟩
theorem GMore.trans {a b d:Array GenState} (x:GMore a b) (y:GMore b d):GMore a d:=by
 obtain ⟨m,rfl,hm⟩:=x
 obtain ⟨n,rfl,hn⟩:=y
 refine ⟨m++n,by simp -iota,fun z hz=>?_⟩
 rcases Array.mem_append.mp hz with h | h
 ·exact hm z h
 ·exact hn z h
structure Pres (W:List Addr) (s s':Shared):Prop where
 keep:∀ b o,b∉W→s.heap.get? b=some o→s'.heap.get? b=some o
 there:∀ b o,s.heap.get? b=some o→∃ o',s'.heap.get? b=some o'
 gens:GMore s.gens s'.gens
 os:s'.os=s.os
theorem Pres.refl (W:List Addr) (s:Shared):Pres W s s:=⟨fun _ _ _ e=>e,fun _ o e=>⟨o,e⟩,.refl _,rfl⟩
theorem Pres.trans {W V:List Addr} {s s' s'':Shared} (x:Pres W s s') (y:Pres V s' s'') (hV:∀ b∈V,b∈W∨s.heap.get? b=none):Pres W s s'':=by
 refine ⟨fun b o hb e=>?_,fun b o e=>?_,x.gens.trans y.gens,y.os.trans x.os⟩
 ·refine y.keep b o (fun hv=>?_) (x.keep b o hb e)
  rcases hV b hv with h | h
  ·exact hb h
  ·rw [h] at e;exact nsf e
 ·obtain ⟨o',e'⟩:=x.there b o e;exact y.there b o' e'
theorem Pres.weaken {W V:List Addr} {s s':Shared} (x:Pres W s s') (h:∀ b∈W,b∈V):Pres V s s' :=
 ⟨fun b o hb e=>x.keep b o (fun q=>hb (h b q)) e,x.there,x.gens,x.os⟩
theorem Pres.ext {s:Shared} {h':Heap} {tk:Nat} (W:List Addr) (hk:∀ b o,s.heap.get? b=some o→h'.get? b=some o) :
  Pres W s { s with heap:=h',toks:=tk }:=⟨fun b o _ e=>hk b o e,fun b o e=>⟨o,hk b o e⟩,.refl _,rfl⟩
structure Cx where
 prog:Program
 w:World
 hb:Heap
 Wb:List Addr
 fx:List Addr
 nfx:Nat
 G:Str→Option AV
structure Cx.Ok (c:Cx):Prop where
 glob:∀ x av,c.G x=some av→∃ v mg,av.Rel c.fx v∧c.hb.Ns mainGlobals mg∧(mg x=some v∨(mg x=none∧∃ mb,c.hb.Ns builtinsNs mb∧mb x=some v))
 nolim:c.hb.NoLimit
 wg:mainGlobals∉c.Wb
 wb:builtinsNs∉c.Wb
 ws:cStatics∉c.Wb
structure St (c:Cx) (σ:List Addr) (H:List AO) (s:Shared):Prop where
 base:∀ b o,b∉c.Wb→c.hb.get? b=some o→s.heap.get? b=some o
 len:σ.length=H.length
 objs:∀ (k:Nat) (a:Addr) (o:AO),σ[k]?=some a→H[k]?=some o→o.At σ s.heap a
 nodup:σ.Nodup
 fresh:∀ k a,σ[k]?=some a→c.nfx≤k→c.hb.get? a=none∨a∈c.Wb
 fix:∃ t,σ=c.fx++t
 fixed:∀ k,k < c.nfx→∃ P,H[k]?=some (.opq P)
 live:∀ b o,c.hb.get? b=some o→∃ o',s.heap.get? b=some o'
 nle:c.nfx≤c.fx.length
theorem St.fixLen {c:Cx} {σ:List Addr} {H:List AO} {s:Shared} (S:St c σ H s):c.fx.length≤σ.length:=by
 obtain ⟨t,e⟩:=S.fix
 rw [e,List.length_append];omega
theorem St.free {c:Cx} {σ:List Addr} {H:List AO} {s:Shared} (S:St c σ H s) {k:Nat} {o:AO} (h:H[k]?=some o) (ho:∀ P,o≠.opq P):c.nfx≤k:=by
 by_cases q:k < c.nfx
 ·obtain ⟨P,e⟩:=S.fixed k q
  rw [h] at e;obtain rfl:=sj e;exact absurd rfl (ho P)
 ·omega
theorem nodup_idx {l:List Addr} (hn:l.Nodup) {i j:Nat} {a:Addr} (hi:l[i]?=some a) (hj:l[j]?=some a):i=j:=by
 have P:=List.pairwise_iff_getElem.mp hn
 obtain ⟨h1,g1⟩:=List.getElem?_eq_some_iff.mp hi
 obtain ⟨h2,g2⟩:=List.getElem?_eq_some_iff.mp hj
 rcases Nat.lt_trichotomy i j with q | q | q
 ·exact absurd (g1.trans g2.symm) (P i j h1 h2 q)
 ·exact q
 ·exact absurd (g2.trans g1.symm) (P j i h2 h1 q)
theorem zc2 {h h':Heap} {a:Addr} {m:Str→Option Value} (x:h.Ns a m) (hk:∀ o,h.get? a=some o→h'.get? a=some o):h'.Ns a m :=
 let ⟨o,es,ep,e,r⟩:=x;⟨o,es,ep,hk o e,r⟩
section
variable {c:Cx} {σ:List Addr} {H:List AO} {s s':Shared}
theorem St.nolim (S:St c σ H s) (O:c.Ok):s.heap.NoLimit:=by
 obtain ⟨mc,h,e⟩:=O.nolim
 exact ⟨mc,zc2 h fun o e'=>S.base _ o O.ws e',e⟩
theorem St.alloc (S:St c σ H s) {a:Addr} {o:AO} (hk:∀ b ob,s.heap.get? b=some ob→s'.heap.get? b=some ob) (hn:s.heap.get? a=none) (ha:o.At (σ++[a]) s'.heap a):St c (σ++[a]) (H++[o]) s':=by
 have hσ:∀ k b,σ[k]?=some b→∃ ob,s.heap.get? b=some ob:=fun k b e=>by
  have hk:k < H.length:=by have:=(List.getElem?_eq_some_iff.mp e).1;rw [S.len] at this;exact this
  exact (S.objs k b H[k] e (List.getElem?_eq_getElem hk)).ex
 have hne:a∉σ:=fun hm=>by
  obtain ⟨k,hk⟩:=List.mem_iff_getElem?.mp hm
  obtain ⟨ob,e⟩:=hσ k a hk
  rw [hn] at e;exact nsf e
 refine ⟨fun b o' hb e=>hk b o' (S.base b o' hb e),by simp -iota [S.len],fun k b o' e e'=>?_,?_,fun k b hb hkf=>?_,?_,fun k hkf=>?_,fun b o e=>let ⟨o',e'⟩:=S.live b o e;⟨o',hk b o' e'⟩,S.nle⟩
 ·by_cases h:k < σ.length
  ·rw [List.getElem?_append_left h] at e
   rw [List.getElem?_append_left (S.len▸h)] at e'
   exact ((S.objs k b o' e e').mono).keep fun ob q=>hk b ob q
  ·have hk0:k=σ.length:=by
    have:=(List.getElem?_eq_some_iff.mp e).1
    simp -iota at this;omega
   subst hk0
   rw [List.getElem?_append_right (Nat.le_refl _)] at e
   rw [List.getElem?_append_right (by rw [S.len];exact Nat.le_refl _)] at e'
   simp -iota at e
   simp -iota [S.len] at e'
   subst e e'
   exact ha
 ·rw [List.nodup_append]
  exact ⟨S.nodup,by simp -iota,fun x hx y hy=>by simp -iota at hy;subst hy;exact fun q=>hne (q▸hx)⟩
 ·by_cases h:k < σ.length
  ·rw [List.getElem?_append_left h] at hb
   exact S.fresh k b hb hkf
  ·have hk0:k=σ.length:=by
    have:=(List.getElem?_eq_some_iff.mp hb).1
    simp -iota at this;omega
   subst hk0
   rw [List.getElem?_append_right (Nat.le_refl _)] at hb
   simp -iota at hb
   subst hb
   cases e:c.hb.get? a with
   | none=>exact .inl rfl
   | some ob =>
    by_cases hw:a∈c.Wb
    ·exact .inr hw
    ·rw [S.base a ob hw e] at hn;exact snf hn
 ·obtain ⟨t,e⟩:=S.fix
  exact ⟨t++[a],by rw [e,List.append_assoc]⟩
 ·obtain ⟨P,e⟩:=S.fixed k hkf
  exact ⟨P,by rw [List.getElem?_append_left (by have:=S.fixLen;have:=S.nle;rw [← S.len];omega)];exact e⟩
theorem St.keep (S:St c σ H s) (hk:∀ b ob,s.heap.get? b=some ob→s'.heap.get? b=some ob):St c σ H s' :=
 ⟨fun b o hb e=>hk b o (S.base b o hb e),S.len,fun k a o e e'=>(S.objs k a o e e').keep fun ob q=>hk a ob q,S.nodup,S.fresh,S.fix,S.fixed,fun b o e=>let ⟨o',e'⟩:=S.live b o e;⟨o',hk b o' e'⟩,S.nle⟩
theorem St.there (S:St c σ H s) {a:Addr} (ha:a∈σ):∃ ob,s.heap.get? a=some ob:=by
 obtain ⟨k,e⟩:=List.mem_iff_getElem?.mp ha
 have hk:k < H.length:=by have:=(List.getElem?_eq_some_iff.mp e).1;rw [S.len] at this;exact this
 exact (S.objs k a H[k] e (List.getElem?_eq_getElem hk)).ex
theorem St.setAt (S:St c σ H s) {k:Nat} {a:Addr} {o:AO} (hkf:c.nfx≤k) (e:σ[k]?=some a) (hk:∀ b ob,b≠a→s.heap.get? b=some ob→s'.heap.get? b=some ob) (ha:o.At σ s'.heap a):St c σ (H.set k o) s':=by
 have hmem:a∈σ:=List.mem_of_getElem? e
 refine ⟨fun b ob hb q=>?_,by simp -iota [S.len],fun j b o' e1 e2=>?_,S.nodup,S.fresh,S.fix,fun j hj=>?_,fun b ob q=>?_,S.nle⟩
 ·refine hk b ob (fun z=>?_) (S.base b ob hb q)
  subst z
  rcases S.fresh k b e hkf with h | h
  ·rw [h] at q;exact nsf q
  ·exact hb h
 ·by_cases h:j=k
  ·subst h
   rw [e] at e1
   obtain rfl:=sj e1
   have hj:j < H.length:=by have:=(List.getElem?_eq_some_iff.mp e).1;rw [S.len] at this;exact this
   rw [List.getElem?_set_self hj] at e2
   obtain rfl:=sj e2
   exact ha
  ·rw [List.getElem?_set_ne (Ne.symm h)] at e2
   refine (S.objs j b o' e1 e2).keep fun ob q=>hk b ob (fun z=>?_) q
   subst z
   exact h (nodup_idx S.nodup e1 e)
 ·obtain ⟨P,q⟩:=S.fixed j hj
  exact ⟨P,by rw [List.getElem?_set_ne (by omega)];exact q⟩
 ·obtain ⟨o',e'⟩:=S.live b ob q
  by_cases hba:b=a
  ·subst hba;exact ha.ex
  ·exact ⟨o',hk b o' hba e'⟩
end
structure Room (A:Around) (n:Nat):Prop where
 handled:A.handled=none
 depth:A.depth + n < recursionLimit
 units:A.units + 8 * n < cLine
theorem Room.le {A:Around} {n k:Nat} (r:Room A n) (h:k≤n):Room A k:=⟨r.handled,by have:=r.depth;omega,by have:=r.units;omega⟩
theorem Room.deeper {A:Around} {n:Nat} (r:Room A (n + 1)) (env:Env):Room (A.deeper env) n:=⟨r.handled,by show A.depth + 1 + n < _;have:=r.depth;omega,by show A.units + 3 + 8 * n < _;have:=r.units;omega⟩
structure Aft (c:Cx) (σ:List Addr) (H':List AO) (s:Shared) (τ:List Addr) (s':Shared):Prop where
 st:St c (σ++τ) H' s'
 pres:Pres σ s s'
 new:∀ a∈τ,s.heap.get? a=none
theorem Aft.trans {c:Cx} {σ τ τ':List Addr} {H H':List AO} {s s' s'':Shared} (x:Aft c σ H s τ s') (y:Aft c (σ++τ) H' s' τ' s''):Aft c σ H' s (τ++τ') s'':=by
 refine ⟨by rw [← List.append_assoc];exact y.st,x.pres.trans y.pres fun b hb=>?_,fun a ha=>?_⟩
 ·rcases List.mem_append.mp hb with h | h
  ·exact .inl h
  ·exact .inr (x.new b h)
 ·rcases List.mem_append.mp ha with h | h
  ·exact x.new a h
  ·cases e:s.heap.get? a with
   | none=>rfl
   | some o =>
    obtain ⟨o',e'⟩:=x.pres.there a o e
    rw [y.new a h] at e';exact nsf e'
noncomputable def WP {α:Type} (c:Cx) (A:Around) (t:Sem α) (σ:List Addr) (H':List AO) (s:Shared) (R:List Addr→α→Prop):Prop :=
 ∀ (Q:α→Shared→Prop) (E:Value→Shared→Prop),(∀ τ s' x,Aft c σ H' s τ s'→R (σ++τ) x→Q x s')→wpAny (model c.prog c.w) A t Q E s
section
variable {c:Cx} {A:Around} {σ:List Addr} {H H' H'':List AO} {s:Shared}
theorem Aft.refl (S:St c σ H s):Aft c σ H s [] s:=⟨by rw [List.append_nil];exact S,.refl _ _,fun _ h=>nomatch h⟩
theorem Aft.toks (S:St c σ H s) (tk:Nat):Aft c σ H s [] { s with toks:=tk } :=
 ⟨by rw [List.append_nil];exact S.keep fun _ _ e=>e,Pres.ext σ (fun _ _ e=>e),fun _ h=>nomatch h⟩
theorem Aft.heap (S:St c σ H s) {h':Heap} (tk:Nat) (hk:∀ b o,s.heap.get? b=some o→h'.get? b=some o):Aft c σ H s [] { s with heap:=h',toks:=tk } :=
 ⟨by rw [List.append_nil];exact S.keep hk,Pres.ext σ hk,fun _ h=>nomatch h⟩
theorem Aft.list (S:St c σ H s) {h':Heap} (tk:Nat) {a:Addr} {xs:List AV} {vs:List Value} {n:Nat} (hk:∀ b o,s.heap.get? b=some o→h'.get? b=some o)
  (hn:s.heap.get? a=none) (he:h'.get? a=some { cls:=.type "list",dict:=none,data:=.seq vs.toArray n,slots:=#[] }) (r:RelL σ xs vs) (hl:xs.length≤1048576) :
  Aft c σ (H++[.list xs]) s [a] { s with heap:=h',toks:=tk } :=
 ⟨S.alloc (s':={ s with heap:=h',toks:=tk }) hk hn ⟨vs,n,he,r.mono,hl⟩,Pres.ext σ hk,fun b hb=>by simp -iota at hb;subst hb;exact hn⟩
theorem get?_size (h:Heap):h.get? h.objs.size=none:=Heap.get?_none_of_le (Nat.le_refl _)
theorem Aft.pushList (S:St c σ H s) (tk:Nat) {xs:List AV} {vs:List Value} {its:Array Value} (e:its=vs.toArray) (r:RelL σ xs vs) (hl:xs.length≤1048576) :
  Aft c σ (H++[.list xs]) s [s.heap.objs.size] { s with heap:=s.heap.push { cls:=.type "list",data:=.seq its },toks:=tk }:=by
 subst e
 exact Aft.list S tk (fun b o q=>Heap.get?_push_of_some _ q) (get?_size _) (Heap.get?_push_size _ rfl) r hl
theorem WP.mono {α:Type} {t:Sem α} {R R':List Addr→α→Prop} (x:WP c A t σ H' s R) (h:∀ τ v,R τ v→R' τ v):WP c A t σ H' s R' :=
 fun Q E hq=>x Q E fun τ s' v a r=>hq τ s' v a (h _ _ r)
theorem WP.pure {α:Type} {v:α} {R:List Addr→α→Prop} (S:St c σ H s) (r:R σ v):WP c A (pure v:Sem α) σ H s R:=fun Q E hq=>wpAny_pure (hq [] s v (.refl S) (by rw [List.append_nil];exact r))
theorem WP.use {α:Type} {t:Sem α} {R:List Addr→α→Prop} {Q:α→Shared→Prop} {E:Value→Shared→Prop} (x:WP c A t σ H' s R) (h:∀ τ s' v,Aft c σ H' s τ s'→R (σ++τ) v→Q v s') :
  wpAny (model c.prog c.w) A t Q E s:=x Q E h
end
noncomputable def smallI (i:Int):Bool:=decide (-9223372036854775808 < i) && decide (i < 9223372036854775808)
noncomputable def nth {α:Type} (l:List α):Nat→Option α:=List.rec (motive:=fun _=>Nat→Option α) (fun _=>none) (fun x _ ih k=>Nat.rec (motive:=fun _=>Option α) (some x) (fun j _=>ih j) k) l
theorem zaw {α:Type}:∀ (l:List α) (k:Nat),nth l k=l[k]?
 | [],_=>by simp [nth]
 | x::l,0=>rfl
 | x::l,k + 1=>by
  show nth l k=_
  rw [zaw l k];simp
noncomputable def zah (H:List AO):AV→Option (List AV)
 | .obj k=>match nth H k with
  | some (.list xs)=>some xs
  | some (.arg _ xs)=>some xs
  | _=>none
 | _=>none
noncomputable def newL (H:List AO) (xs:List AV):Option (AV×List AO):=if xs.length≤1048576 then some (.obj H.length,H++[.list xs]) else none
noncomputable def repeatL (n:Nat) (xs:List AV):List AV:=(List.replicate n xs).flatten
noncomputable def zc0:AV→Option Int
 | .int i=>some i
 | _=>none
noncomputable def strOf:AV→Option Str
 | .str i=>some i
 | _=>none
noncomputable def binAdd (a b:AV) (H:List AO):Option (AV×List AO) :=
 match zc0 a with
 | some x=>(zc0 b).bind fun y=>some (.int (x + y),H)
 | none=>match strOf a with
  | some x=>(strOf b).bind fun y=>if x.length + y.length≤1048576 then some (.str (x++y),H) else none
  | none=>(zah H a).bind fun xs=>(zah H b).bind fun ys=>newL H (xs++ys)
noncomputable def binMul (a b:AV) (H:List AO):Option (AV×List AO):=(zc0 b).bind fun n =>
 match zc0 a with
 | some x=>if smallI x || smallI n then some (.int (x * n),H) else none
 | none=>match strOf a with
  | some x=>if decide (0≤n) && decide (n < 1000) && decide (x.length < 1000) then some (.str (Txt.mul x n),H) else none
  | none=>(zah H a).bind fun xs=>if decide (0≤n) && decide (n < 1000) && decide (xs.length < 1000) && decide (xs≠[]) then newL H (repeatL n.toNat xs) else none
noncomputable def binDiv (f:Int→Int→Int) (a b:AV) (H:List AO):Option (AV×List AO) :=
 (zc0 a).bind fun x=>(zc0 b).bind fun y=>if decide (0 < y) && decide (y < 1000000) then some (.int (f x y),H) else none
noncomputable def binop (op:Operator) (a b:AV) (H:List AO):Option (AV×List AO) :=
 match op with
 | .Add=>binAdd a b H
 | .Sub=>(zc0 a).bind fun x=>(zc0 b).bind fun y=>some (.int (x - y),H)
 | .Mult=>binMul a b H
 | .FloorDiv=>binDiv Int.fdiv a b H
 | .Mod=>binDiv Int.fmod a b H
 | _=>none
noncomputable def asInt:AV→Option Int
 | .int i=>some i
 | .lit (.bool b)=>some (if b then 1 else 0)
 | _=>none
noncomputable def eqF (a b:AV):Option Bool :=
 match asInt a,asInt b with
 | some x,some y=>some (x == y)
 | _,_=>match a,b with
  | .str x,.str y=>some (x == y)
  | _,_=>none
noncomputable def eqAll:List AV→List AV→Option Bool
 | [],[]=>some true
 | x::xs,y::ys=>do
  let b ← eqF x y
  let r ← eqAll xs ys
  some (b && r)
 | _,_=>some false
noncomputable def anyEq (x:AV):List AV→Option Bool
 | []=>some false
 | y::ys=>do
  let b ← eqF y x
  let r ← anyEq x ys
  some (b || r)
noncomputable def eqL (xs ys:List AV):Option Bool:=if xs.length=ys.length then eqAll xs ys else some false
noncomputable def noneOf:AV→Option Bool
 | .lit .none=>some true
 | .int _=>some false
 | .obj _=>some false
 | _=>none
noncomputable def two {α β:Type} (x y:Option α) (f:α→α→β):Option β:=x.bind fun i=>y.bind fun j=>some (f i j)
noncomputable def cmpEq (a b:AV) (H:List AO):Option Bool :=
 match zc0 a with
 | some x=>(zc0 b).map fun y=>x == y
 | none=>match strOf a with
  | some x=>(strOf b).map fun y=>x == y
  | none=>(zah H a).bind fun xs=>(zah H b).bind fun ys=>eqL xs ys
noncomputable def cmpIs (a b:AV):Option Bool:=match noneOf b with
 | some true=>noneOf a
 | _=>none
noncomputable def cmp (op:CmpOp) (a b:AV) (H:List AO):Option Bool :=
 match op with
 | .Lt=>two (asInt a) (asInt b) fun x y=>decide (x < y)
 | .LtE=>two (zc0 a) (zc0 b) fun x y=>decide (x≤y)
 | .Gt=>two (zc0 a) (zc0 b) fun x y=>decide (y < x)
 | .GtE=>two (zc0 a) (zc0 b) fun x y=>decide (y≤x)
 | .Eq=>cmpEq a b H
 | .NotEq=>(cmpEq a b H).map not
 | .Is=>cmpIs a b
 | .IsNot=>(cmpIs a b).map not
 | .In=>(zah H b).bind (anyEq a)
 | .NotIn=>((zah H b).bind (anyEq a)).map not
noncomputable def truth (a:AV) (H:List AO):Option Bool :=
 match a with
 | .lit .none=>some false
 | .lit (.bool b)=>some b
 | .int i=>some (i != 0)
 | .str x=>if x.length≤1048576 then some (x.length != 0) else none
 | .obj k=>match zah H (.obj k) with
  | some xs=>some (!xs.isEmpty)
  | none=>none
 | _=>none
noncomputable def unop (op:UnaryOp) (a:AV):Option AV :=
 match op,a with
 | .USub,.int i=>some (.int (-i))
 | _,_=>none
section
variable {c:Cx} {A:Around} {σ:List Addr} {H H':List AO} {s:Shared}
theorem WP.toks {α:Type} {t:Sem α} {R:List Addr→α→Prop} (S:St c σ H s) (h:∀ (Q:α→Shared→Prop) (E:Value→Shared→Prop),(∀ v tk,R σ v→Q v { s with toks:=tk })→wpAny (model c.prog c.w) A t Q E s):WP c A t σ H s R :=
 fun Q E hq=>h Q E fun v tk r=>hq [] _ v (Aft.toks S tk) (by rw [List.append_nil];exact r)
set_option tactic.hygienic true in
theorem zd9 (S:St c σ H s) {k:Nat} {xs:List AV} {v:Value} (r:(AV.obj k).Rel σ v) (e:zah H (.obj k)=some xs) {Γ:Prop} (κ:∀ a vs n,v=.ref a→σ[k]?=some a→s.heap.get? a=some { cls:=.type "list",dict:=none,data:=.seq vs.toArray n,slots:=#[] }→RelL σ xs vs→xs.length≤1048576→Γ):Γ:=by
 obtain ⟨a,ha,rfl⟩:=r
 simp only [zah,zaw] at e
 split at e
 ·rename_i ys hk
  obtain rfl:=sj e
  obtain ⟨vs,n,h1,h2,h3⟩:=S.objs k a _ ha hk
  exact κ a vs n rfl ha h1 h2 h3
 ·rename_i o ys hk
  obtain rfl:=sj e
  obtain ⟨h0,vs,n,h1,h2,h3⟩:=S.objs k a _ ha hk
  subst h1
  exact κ a vs n rfl ha h0 h2 h3
 ·exact nsf e
theorem smallI_mul {x y:Int} (h:(smallI x || smallI y)=true):IntMulOk x y:=by
 unfold IntMulOk
 intro q
 simp -iota only [Bool.and_eq_true,decide_eq_true_eq] at q
 rcases Bool.or_eq_true_iff.mp h with h | h<;>simp -iota only [smallI,Bool.and_eq_true,decide_eq_true_eq] at h
 ·have:=intBits_le_64 (k:=x) (by omega) (by omega)
  have e:shortFactorBits=64:=rfl
  omega
 ·have:=intBits_le_64 (k:=y) (by omega) (by omega)
  have e:shortFactorBits=64:=rfl
  omega
theorem rel_replicate {xs:List AV} {vs:List Value} (r:RelL σ xs vs):∀ n,RelL σ (repeatL n xs) (List.replicate n vs).flatten
 | 0=>trivial
 | n + 1=>by
  have:=rel_replicate r n
  simp -iota only [repeatL,List.replicate_succ,List.flatten_cons] at this ⊢
  exact r.append this
theorem zbe:sizeLine=16777216:=by decide
theorem length_repeatL (n:Nat) (xs:List AV):(repeatL n xs).length=n * xs.length:=by
 induction n with
 | zero=>simp -iota [repeatL]
 | succ n ih=>simp -iota only [repeatL,List.replicate_succ,List.flatten_cons,List.length_append] at ih ⊢;rw [ih,Nat.succ_mul];omega
theorem mulOk {x:Str} {n:Int} (h0:0≤n) (h1:n < 1000) (h2:x.length < 1000):MulOk x n:=by
 refine ⟨?_,fun h3 _=>?_,fun h3 _=>?_⟩
 ·simp -iota;omega
 ·have:(1000:Int)≤(2 ^ 63 - 1) / n:=by rw [Int.le_ediv_iff_mul_le (by omega)];omega
  omega
 ·have:x.length * n.toNat≤1000 * 1000:=Nat.mul_le_mul (by omega) (by omega)
  simp -iota only [Builtin.Str.tooLong,zbe]
  simp -iota
  omega
theorem mul_list_raw {prog:Program} {w:World} {E:Value→Shared→Prop} {l:Addr} {items:Array Value} {k:Nat} {x:Int} {u:Tok} {Q:Value→Shared→Prop}
  (hl:s.heap.get? l=some { cls:=.type "list",dict:=none,data:=.seq items k,slots:=#[] })
  (hlo:-(2 ^ 63:Int)≤x) (hhi:x < 2 ^ 63) (hsz:items.size * x.toNat≤2 ^ 24)
  (h:Q (.ref s.heap.objs.size) { s with heap:=s.heap.push { cls:=.type "list",data:=.seq (List.foldl (fun x1 x2=>x1++x2) #[] (List.replicate (if items.isEmpty=true then 0 else x.toNat) items)) } }) :
  wpAny (model prog w) A (binaryOp .Mult (.ref l) (.int x u)) Q E s :=
 wpAny_binaryOp_repeat_ref (T:="list") (U:="int") (by decide) ⟨_,hl,rfl⟩ (fun s'=>typeIs_int s' x u) noFill_list_mul F.fills_int_mul F.slot_int_rmul repeat_list F.slot_int_index.lookup
  (call_meets F.slot_int_rmul (typeIs_int s x u) F.entry_int_rmul (F.args_int_rmul_2 _ _) (int___rmul___int_list x u l items k)
   ⟨hl,rfl,⟨_,hl,rfl⟩,call_meets F.slot_list_mul ⟨_,hl,rfl⟩ F.entry_list_mul (F.args_list_mul_2 _ _)
    (AutoListH.list___mul___list_int_3 l items k x u (by simp -iota [Builtin.List.listFitsIndex];omega) (by omega) (by simp -iota [Builtin.List.listTooLong,sizeLine];assumption))
    ⟨hl,h⟩⟩)
theorem two_some {α β:Type} {x y:Option α} {f:α→α→β} {r:β} (e:two x y f=some r) {Γ:Prop} (κ:∀ i j,x=some i→y=some j→f i j=r→Γ):Γ:=by
 cases x with
 | none=>exact nsf e
 | some i=>cases y with
  | none=>exact nsf e
  | some j=>exact κ i j rfl rfl (Option.some.inj e)
theorem za3 {α β:Type} {x:Option α} {f:α→Option β} {r:β} (h:x.bind f=some r) {Γ:Prop} (κ:∀ a,x=some a→f a=some r→Γ):Γ:=by
 cases x with
 | none=>exact nsf h
 | some a=>exact κ a rfl h
theorem zdp {α γ β:Type} {x:Option (α×γ)} {f:α×γ→Option β} {r:β} (h:x.bind f=some r) {Γ:Prop} (κ:∀ a c,x=some (a,c)→f (a,c)=some r→Γ):Γ:=by
 cases x with
 | none=>exact nsf h
 | some a=>exact κ a.1 a.2 rfl h
theorem map_some2 {α β:Type} {x:Option α} {f:α→β} {r:β} (e:x.map f=some r) {Γ:Prop} (κ:∀ i,x=some i→f i=r→Γ):Γ:=by
 cases x with
 | none=>exact nsf e
 | some i=>exact κ i rfl (Option.some.inj e)
theorem zax {a:AV} {i:Int} {v:Value} (e:zc0 a=some i) (r:a.Rel σ v) {Γ:Prop} (κ:∀ t,v=.int i t→Γ):Γ:=by
 cases a with
 | int j=>obtain rfl:=sj e;exact r.elim κ
 | _=>exact nsf e
theorem strOf_at {a:AV} {i:Str} {v:Value} (e:strOf a=some i) (r:a.Rel σ v) {Γ:Prop} (κ:∀ t,v=.str i t→Γ):Γ:=by
 cases a with
 | str j=>obtain rfl:=sj e;exact r.elim κ
 | _=>exact nsf e
theorem asInt_at {a:AV} {i:Int} {v:Value} (e:asInt a=some i) (r:a.Rel σ v):(∃ t,v=.int i t)∨∃ b:Bool,v=.bool b∧i=if b then 1 else 0:=by
 cases a with
 | int j=>obtain rfl:=sj e;exact .inl r
 | lit w=>cases w with
  | bool b=>obtain rfl:=sj e;subst r;exact .inr ⟨b,rfl,rfl⟩
  | _=>exact nsf e
 | _=>exact nsf e
theorem noneOf_at {a:AV} {b:Bool} {v:Value} (e:noneOf a=some b) (r:a.Rel σ v):(b=true∧v=.none)∨(b=false∧((∃ i t,v=.int i t)∨∃ l,v=.ref l)):=by
 cases a with
 | int j=>obtain rfl:=sj e;obtain ⟨t,rfl⟩:=r;exact .inr ⟨rfl,.inl ⟨j,t,rfl⟩⟩
 | obj j=>obtain rfl:=sj e;obtain ⟨l,_,rfl⟩:=r;exact .inr ⟨rfl,.inr ⟨l,rfl⟩⟩
 | lit w=>cases w with
  | none=>obtain rfl:=sj e;subst r;exact .inl ⟨rfl,rfl⟩
  | _=>exact nsf e
 | _=>exact nsf e
theorem zd8 {a:AV} {xs:List AV} {v:Value} (S:St c σ H s) (r:a.Rel σ v) (e:zah H a=some xs) {Γ:Prop} (κ:∀ l vs n,v=.ref l→s.heap.get? l=some { cls:=.type "list",dict:=none,data:=.seq vs.toArray n,slots:=#[] }→RelL σ xs vs→xs.length≤1048576→Γ):Γ:=by
 cases a with
 | obj k=>exact zd9 S r e fun l vs n h0 _ h1 h2 h3=>κ l vs n h0 h1 h2 h3
 | _=>exact nsf e
theorem zcm {α:Type} {p:Prop} [Decidable p] {x y:α} (e:(if p then some x else none)=some y) {Γ:Prop} (κ:p→x=y→Γ):Γ:=by
 refine ifsk e fun h e=>?_
 exact κ h (Option.some.inj e)
theorem newL_ok {xs:List AV} {vs:List Value} {its:Array Value} {r:AV×List AO} {Q:Value→Shared→Prop} (S:St c σ H s) (e:newL H xs=some r) (hi:its=vs.toArray) (h:RelL σ xs vs)
  (hq:∀ τ s' v,Aft c σ r.2 s τ s'→r.1.Rel (σ++τ) v→Q v s'):xs.length≤1048576∧Q (.ref s.heap.objs.size) { s with heap:=s.heap.push { cls:=.type "list",data:=.seq its } }:=by
 refine zcm e ?_;rintro hl rfl
 exact ⟨hl,hq [s.heap.objs.size] _ _ (Aft.pushList S s.toks hi h hl) ⟨_,by rw [← S.len,List.getElem?_append_right (Nat.le_refl _)];simp -iota,rfl⟩⟩
theorem and4 {p q:Bool} (h:(p && q)=true):p=true∧q=true:=Bool.and_eq_true_iff.mp h
theorem and4k {p q:Bool} (h:(p && q)=true) {Γ:Prop} (κ:p=true→q=true→Γ):Γ:=κ (and4 h).1 (and4 h).2
theorem binAdd_ok {a b:AV} {r:AV×List AO} {va vb:Value} (S:St c σ H s) (ra:a.Rel σ va) (rb:b.Rel σ vb) (e:binAdd a b H=some r):WP c A (binaryOp .Add va vb) σ r.2 s fun τ v=>r.1.Rel τ v:=by
 unfold binAdd at e
 cases ea:zc0 a with
 | some x =>
  rw [ea] at e
  refine za3 e fun y eb e=>?_
  refine zax ea ra ?_;rintro t rfl;refine zax eb rb ?_;rintro u rfl;obtain rfl:=sj e
  exact WP.toks S fun Q E hq=>PyProof.Rows.add_int (hq _ _ ⟨_,rfl⟩)
 | none =>
  cases es:strOf a with
  | some x =>
   rw [ea,es] at e
   refine za3 e fun y eb e=>?_
   refine strOf_at es ra ?_;rintro t rfl;refine strOf_at eb rb ?_;rintro u rfl
   refine zcm e ?_;rintro hs rfl
   exact WP.toks S fun Q E hq=>PyProof.Rows.add_str (fun t' k=>hq _ _ ⟨_,rfl⟩) (by rw [zbe];omega)
  | none =>
   rw [ea,es] at e
   refine za3 e fun xs e1 e=>?_
   refine za3 e fun ys e2 e=>?_
   refine zd8 S ra e1 ?_;rintro l vs n rfl h2 h3 h4
   refine zd8 S rb e2 ?_;rintro l' us n' rfl g2 g3 g4
   intro Q E hq
   obtain ⟨hl,h⟩:=newL_ok (vs:=vs++us) (its:=vs.toArray++us.toArray) S e (by simp -iota) (h3.append g3) hq
   rw [List.length_append,← h3.length,← g3.length] at hl
   exact P.add_list h2 g2 h (by rw [List.size_toArray,List.size_toArray,zbe];omega)
theorem binMul_ok {a b:AV} {r:AV×List AO} {va vb:Value} (S:St c σ H s) (ra:a.Rel σ va) (rb:b.Rel σ vb) (e:binMul a b H=some r):WP c A (binaryOp .Mult va vb) σ r.2 s fun τ v=>r.1.Rel τ v:=by
 unfold binMul at e
 refine za3 e fun n eb e=>?_
 refine zax eb rb ?_;rintro u rfl
 cases ea:zc0 a with
 | some x =>
  rw [ea] at e
  refine zax ea ra ?_;rintro t rfl
  refine zcm e ?_;rintro hs rfl
  exact WP.toks S fun Q E hq=>PyProof.Rows.mul_int (hq _ _ ⟨_,rfl⟩) (smallI_mul hs)
 | none =>
  cases es:strOf a with
  | some x =>
   rw [ea,es] at e
   refine strOf_at es ra ?_;rintro t rfl
   refine zcm e ?_;rintro hs rfl
   exact WP.toks S fun Q E hq=>SB.mul (mulOk (of_decide_eq_true (and4 (and4 hs).1).1) (of_decide_eq_true (and4 (and4 hs).1).2) (of_decide_eq_true (and4 hs).2)) (fun t' k=>hq _ _ ⟨_,rfl⟩)
  | none =>
   rw [ea,es] at e
   refine za3 e fun xs e1 e=>?_
   refine zd8 S ra e1 ?_;rintro l vs k rfl h2 h3 h4
   replace e:(if (decide (0≤n) && decide (n < 1000) && decide (xs.length < 1000) && decide (xs≠[]))=true then newL H (repeatL n.toNat xs) else none)=some r:=e
   refine ifsk e fun hc e=>?_
   refine and4k hc fun hc c4=>?_
   refine and4k hc fun hc c3=>?_
   have c1:=of_decide_eq_true (and4 hc).1
   have c2:=of_decide_eq_true (and4 hc).2
   intro Q E hq
   have he:vs.toArray.isEmpty=false:=by
    cases vs with
    | nil=>exact absurd (List.eq_nil_of_length_eq_zero h3.length.symm) (of_decide_eq_true c4)
    | cons _ _=>rfl
   obtain ⟨hl,h⟩:=newL_ok (vs:=(List.replicate n.toNat vs).flatten) (its:=List.foldl (fun x1 x2=>x1++x2) #[] (List.replicate (if vs.toArray.isEmpty=true then 0 else n.toNat) vs.toArray)) S e (by rw [he];simp -iota only [Bool.false_eq_true,if_false,listMul_foldl];exact rfl) (rel_replicate h3 _) hq
   rw [length_repeatL,Nat.mul_comm,← h3.length] at hl
   exact mul_list_raw h2 (by omega) (by omega) (by rw [List.size_toArray];omega) h
theorem binop_mulI (x y:Int) (H:List AO):binop .Mult (.int x) (.int y) H=if (smallI x || smallI y)=true then some (.int (x * y),H) else none:=rfl
theorem binDiv_ok {f:Int→Int→Int} {op:Operator} (hop:∀ (x y:Int) (t u:Tok) (Q:Value→Shared→Prop) (E:Value→Shared→Prop),0 < y→y < 1000000→(∀ v tk,(∃ t',v=.int (f x y) t')→Q v { s with toks:=tk })→wpAny (model c.prog c.w) A (binaryOp op (.int x t) (.int y u)) Q E s)
  {a b:AV} {r:AV×List AO} {va vb:Value} (S:St c σ H s) (ra:a.Rel σ va) (rb:b.Rel σ vb) (e:binDiv f a b H=some r):WP c A (binaryOp op va vb) σ r.2 s fun τ v=>r.1.Rel τ v:=by
 refine za3 e fun x ea e=>?_
 refine za3 e fun y eb e=>?_
 refine zcm e ?_;rintro hs rfl
 refine zax ea ra ?_;rintro t rfl;refine zax eb rb ?_;rintro u rfl
 exact WP.toks S fun Q E hq=>hop x y t u Q E (of_decide_eq_true (and4 hs).1) (of_decide_eq_true (and4 hs).2) hq
theorem binop_sound {op:Operator} {a b r:AV} {va vb:Value} (S:St c σ H s) (ra:a.Rel σ va) (rb:b.Rel σ vb) (e:binop op a b H=some (r,H')):WP c A (binaryOp op va vb) σ H' s fun τ v=>r.Rel τ v:=by
 cases op with
 | Add=>exact binAdd_ok S ra rb e
 | Sub =>
  refine za3 e fun x ea e=>?_
  refine za3 e fun y eb e=>?_
  refine zax ea ra ?_;rintro t rfl;refine zax eb rb ?_;rintro u rfl;refine opjs e ?_
  exact WP.toks S fun Q E hq=>PyProof.Rows.sub_int (hq _ _ ⟨_,rfl⟩)
 | Mult=>exact binMul_ok S ra rb e
 | FloorDiv=>exact binDiv_ok (fun x y t u Q E h1 h2 hq=>PyProof.Rows.floordiv_int (by omega) (hq _ _ ⟨_,rfl⟩) (.inl (PyProof.noPylong_small (by omega)))) S ra rb e
 | Mod=>exact binDiv_ok (fun x y t u Q E h1 h2 hq=>PyProof.Rows.mod_int' (by omega) (hq _ _ ⟨_,rfl⟩)) S ra rb e
 | _=>exact nsf e
theorem unop_sound {op:UnaryOp} {a r:AV} {va:Value} (S:St c σ H s) (ra:a.Rel σ va) (e:unop op a=some r):WP c A (unaryOp op va) σ H s fun τ v=>r.Rel τ v:=by
 unfold unop at e
 split at e
 ·obtain ⟨t,rfl⟩:=ra;obtain rfl:=sj e
  exact WP.toks S fun Q E hq=>PySem.P.neg_int (hq _ _ ⟨_,rfl⟩)
 ·exact nsf e
theorem lt_int_bool {prog:Program} {w:World} {E:Value→Shared→Prop} {Q:Value→Shared→Prop} {a:Int} {t:Tok} {b:Bool} (h:Q (.bool (decide (a < if b then 1 else 0))) s) :
  wpAny (model prog w) A (compareOp .Lt (.int a t) (.bool b)) Q E s :=
 SeqAt.rc_sub_first_or (op:=.Lt) (typeIs_int s a t) rfl (by decide) F.sub_bool_int F.slot_bool_gt_refl
  (call_gives F.slot_bool_gt_refl rfl F.entry_int_gt (F.args_int_gt_2 _ _) (m:=.val (.bool (decide ((if b then (1:Int) else 0) > a))))
   (.of_wp fun M A E s Q h=>by obtain ⟨hp,g,d,tk,os⟩:=s;wp_walk;exact ⟨_,rfl,h⟩) ⟨nofun,h⟩) (.inl rfl)
theorem lt_bool_int {prog:Program} {w:World} {E:Value→Shared→Prop} {Q:Value→Shared→Prop} {a:Bool} {b:Int} {u:Tok} (h:Q (.bool (decide ((if a then 1 else 0) < b))) s) :
  wpAny (model prog w) A (compareOp .Lt (.bool a) (.int b u)) Q E s :=
 SeqAt.rc_left_or (op:=.Lt) rfl (typeIs_int s b u) (by decide) F.sub_int_bool F.slot_bool_lt
  (call_gives F.slot_bool_lt rfl F.entry_int_lt (F.args_int_lt_2 _ _) (m:=.val (.bool (decide ((if a then (1:Int) else 0) < b))))
   (.of_wp fun M A E s Q h=>by obtain ⟨hp,g,d,tk,os⟩:=s;wp_walk;exact ⟨_,rfl,h⟩) ⟨nofun,h⟩) (.inl rfl)
theorem b2i_eq (p q:Bool):((if p=true then (1:Int) else 0) == if q=true then 1 else 0)=(p == q):=by cases p<;>(first | exact nsf q | exact ftf q | exact snf q | obtain rfl:=sj q | refine opjs q ?_ | refine op3k q ?_;rintro rfl rfl rfl | subst q | cases q)<;>rfl
set_option tactic.hygienic true in
theorem eqF_at {x y:AV} {vx vy:Value} {b:Bool} (rx:x.Rel σ vx) (ry:y.Rel σ vy) (e:eqF x y=some b):SeqAt.EqAt A s vx vy b:=by
 unfold eqF at e
 split at e
 ·rename_i i j hi hj
  obtain rfl:=sj e
  unfold asInt at hi hj
  split at hi<;>split at hj<;>(first | exact nsf hi | exact ftf hi | exact snf hi | obtain rfl:=sj hi)<;>(first | exact nsf hj | exact ftf hj | exact snf hj | obtain rfl:=sj hj)
  ·obtain ⟨t,rfl⟩:=rx;obtain ⟨u,rfl⟩:=ry;exact SeqAt.EqAt.int_int _ _ _ _
  ·obtain ⟨t,rfl⟩:=rx;subst ry;exact SeqAt.EqAt.int_bool _ _ _
  ·subst rx;obtain ⟨u,rfl⟩:=ry;exact SeqAt.EqAt.bool_int _ _ _
  ·subst rx;subst ry
   rw [b2i_eq];exact SeqAt.EqAt.bool_bool _ _
 ·split at e
  ·obtain rfl:=sj e
   obtain ⟨t,rfl⟩:=rx;obtain ⟨u,rfl⟩:=ry;exact SeqAt.EqAt.str_str _ _ _ _
  ·exact nsf e
theorem eqAll_get:∀ {xs ys:List AV} {b:Bool},xs.length=ys.length→eqAll xs ys=some b →
  ∃ e:Nat→Bool,(∀ (j:Nat) (x y:AV),xs[j]?=some x→ys[j]?=some y→eqF x y=some (e j))∧b=(List.range xs.length).all e
 | [],[],b,_,h=>by obtain rfl:=sj h;exact ⟨fun _=>true,by simp -iota,rfl⟩
 | x::xs,y::ys,b,hl,h=>by
  refine za3 (x:=eqF x y) (f:=fun b=>(eqAll xs ys).bind fun r=>some (b && r)) h fun p e1 h=>?_
  refine za3 h fun r e2 h=>?_
  obtain rfl:=sj h
  obtain ⟨e,he,hr⟩:=eqAll_get (Nat.succ.inj hl) e2
  refine ⟨fun j=>match j with | 0=>p | j + 1=>e j,fun j u v hu hv=>?_,?_⟩
  ·cases j with
   | zero=>obtain rfl:=sj hu;obtain rfl:=sj hv;exact e1
   | succ j=>exact he j u v hu hv
  ·rw [List.length_cons,List.range_succ_eq_map,List.all_cons,List.all_map,hr];rfl
 | [],_::_,_,h,_=>nomatch h
 | _::_,[],_,h,_=>nomatch h
noncomputable def ofV:Value→AV
 | .int i _=>.int i
 | .str s _=>.str s
 | v=>.lit v
theorem eqF_ofV {y x:AV} {v:Value} {p:Bool} (r:y.Rel σ v) (e:eqF y x=some p):eqF (ofV v) x=some p:=by
 cases y with
 | int i=>obtain ⟨t,rfl⟩:=r;exact e
 | str i=>obtain ⟨t,rfl⟩:=r;exact e
 | obj k=>cases h:asInt x<;>simp -iota [eqF,asInt] at e
 | rng k=>cases h:asInt x<;>simp -iota [eqF,asInt] at e
 | lit u =>
  subst r
  cases v with
  | bool b=>exact e
  | _=>cases h:asInt x<;>simp -iota [eqF,asInt] at e
theorem eqL_rc {xs ys:List AV} {vs us:List Value} {l l':Addr} {n n':Nat} {b:Bool} (hu:A.units < cLine)
  (h1:s.heap.get? l=some { cls:=.type "list",dict:=none,data:=.seq vs.toArray n,slots:=#[] }) (h2:s.heap.get? l'=some { cls:=.type "list",dict:=none,data:=.seq us.toArray n',slots:=#[] })
  (r1:RelL σ xs vs) (r2:RelL σ ys us) (e:eqL xs ys=some b):SeqAt.RcAt A s (.ref l) (.ref l') b∧SeqAt.RcNeAt A s (.ref l) (.ref l') (!b):=by
 unfold eqL at e
 have l1:=r1.length
 have l2:=r2.length
 have L1:s.heap.IsList l vs.toArray:=⟨_,h1,rfl,n,rfl⟩
 have L2:s.heap.IsList l' us.toArray:=⟨_,h2,rfl,n',rfl⟩
 split at e
 ·rename_i hl
  obtain ⟨f,hf,rfl⟩:=eqAll_get hl e
  have he:∀ j (p:j < vs.toArray.size) (q:j < us.toArray.size),SeqAt.EqAt A.in1 s vs.toArray[j] us.toArray[j] (f j):=fun j p q=>by
   simp -iota only [List.size_toArray] at p q
   obtain ⟨x,hx,rx⟩:=r1.get' (i:=j) (v:=vs[j]) (List.getElem?_eq_getElem p)
   obtain ⟨y,hy,ry⟩:=r2.get' (i:=j) (v:=us[j]) (List.getElem?_eq_getElem q)
   simpa -iota using eqF_at rx ry (hf j x y hx hy)
  have e1:xs.length=vs.toArray.size:=by simp -iota [l1]
  rw [e1]
  exact ⟨SeqAt.RcAt.lists L1 L2 (by simp -iota;omega) hu he,SeqAt.RcNeAt.lists L1 L2 (by simp -iota;omega) hu he⟩
 ·rename_i hl
  obtain rfl:=sj e
  exact ⟨SeqAt.RcAt.lists_lengths L1 L2 (by simp -iota;omega) hu,SeqAt.RcNeAt.lists_lengths L1 L2 (by simp -iota;omega) hu⟩
theorem anyEq_get {x:AV} {vx:Value} (rx:x.Rel σ vx):∀ {ys:List AV} {us:List Value} {b:Bool},RelL σ ys us→anyEq x ys=some b →
  (∀ y∈us,SeqAt.EqAt A s y vx ((eqF (ofV y) x).getD false))∧b=us.any fun y=>(eqF (ofV y) x).getD false
 | [],[],_,_,h=>by obtain rfl:=sj h;exact ⟨by simp -iota,rfl⟩
 | [],_::_,_,r,_=>r.elim
 | _::_,[],_,r,_=>r.elim
 | y::ys,u::us,b,⟨ry,r⟩,h=>by
  refine za3 (x:=eqF y x) (f:=fun b=>(anyEq x ys).bind fun r=>some (b || r)) h fun p e1 h=>?_
  refine za3 h fun q e2 h=>?_
  obtain rfl:=sj h
  obtain ⟨h1,h2⟩:=anyEq_get rx r e2
  have hp:(eqF (ofV u) x).getD false=p:=by rw [eqF_ofV ry e1];rfl
  refine ⟨fun v hv=>?_,?_⟩
  ·rcases List.mem_cons.mp hv with rfl | hv
   ·rw [hp];exact eqF_at ry rx e1
   ·exact h1 v hv
  ·rw [List.any_cons,hp,← h2]
theorem cmpLt_ok {x y:Int} {va vb:Value} (ha:(∃ t,va=.int x t)∨∃ b:Bool,va=.bool b∧x=if b then 1 else 0) (hb:(∃ t,vb=.int y t)∨∃ b:Bool,vb=.bool b∧y=if b then 1 else 0) {Q:Value→Shared→Prop} {E:Value→Shared→Prop}
  (h:Q (.bool (decide (x < y))) s):wpAny (model c.prog c.w) A (compareOp .Lt va vb) Q E s:=by
 rcases ha with ⟨t,rfl⟩ | ⟨p,rfl,rfl⟩<;>rcases hb with ⟨u,rfl⟩ | ⟨q,rfl,rfl⟩
 ·exact PySem.P.lt_int h
 ·exact lt_int_bool h
 ·exact lt_bool_int h
 ·exact PyProof.Rows.lt_bool h
theorem cmpEq_ok {n:Nat} {a b:AV} {r:Bool} {va vb:Value} (Rm:Room A n) (S:St c σ H s) (ra:a.Rel σ va) (rb:b.Rel σ vb) (e:cmpEq a b H=some r) {Q:Value→Shared→Prop} {E:Value→Shared→Prop} :
  (Q (.bool r) s→wpAny (model c.prog c.w) A (compareOp .Eq va vb) Q E s)∧(Q (.bool (!r)) s→wpAny (model c.prog c.w) A (compareOp .NotEq va vb) Q E s):=by
 unfold cmpEq at e
 cases ea:zc0 a with
 | some x =>
  rw [ea] at e
  refine map_some2 e ?_;rintro y eb rfl
  refine zax ea ra ?_;rintro t rfl;refine zax eb rb ?_;rintro u rfl
  exact ⟨PySem.P.eq_int,PySem.P.ne_int⟩
 | none =>
  cases es:strOf a with
  | some x =>
   rw [ea,es] at e
   refine map_some2 e ?_;rintro y eb rfl
   refine strOf_at es ra ?_;rintro t rfl;refine strOf_at eb rb ?_;rintro u rfl
   exact ⟨PyProof.Rows.eq_str,PyProof.Rows.ne_str⟩
  | none =>
   rw [ea,es] at e
   refine za3 e fun xs e1 e=>?_
   refine za3 e fun ys e2 e=>?_
   refine zd8 S ra e1 ?_;rintro l vs k rfl h2 h3 h4
   refine zd8 S rb e2 ?_;rintro l' us k' rfl g2 g3 g4
   have hu:A.units < cLine:=by have:=Rm.units;omega
   have x:=eqL_rc hu h2 g2 h3 g3 e
   exact ⟨fun h=>W.cmp_ofEq (x.1 _ _ _ _ h),fun h=>W.cmp_ofNotEq (x.2 _ _ _ _ h)⟩
theorem cmpIs_ok {a b:AV} {r:Bool} {va vb:Value} (ra:a.Rel σ va) (rb:b.Rel σ vb) (e:cmpIs a b=some r) {Q:Value→Shared→Prop} {E:Value→Shared→Prop} :
  (Q (.bool r) s→wpAny (model c.prog c.w) A (compareOp .Is va vb) Q E s)∧(Q (.bool (!r)) s→wpAny (model c.prog c.w) A (compareOp .IsNot va vb) Q E s):=by
 unfold cmpIs at e
 cases eb:noneOf b with
 | none=>rw [eb] at e;exact nsf e
 | some q =>
  rw [eb] at e
  cases q with
  | false=>exact nsf e
  | true =>
   rcases noneOf_at eb rb with ⟨_,rfl⟩ | ⟨h,_⟩
   ·rcases noneOf_at (show noneOf a=some r from e) ra with ⟨rfl,rfl⟩ | ⟨rfl,⟨i,t,rfl⟩ | ⟨l,rfl⟩⟩
    ·exact ⟨fun h=>wpAny_is_plain (by rfl) h,fun h=>wpAny_isNot_plain (by rfl) h⟩
    ·exact ⟨PyProof.Rows.is_none_ne nofun,PyProof.Rows.isnot_none_ne nofun⟩
    ·exact ⟨PyProof.Rows.is_none_ne nofun,PyProof.Rows.isnot_none_ne nofun⟩
   ·cases h
theorem cmpIn_ok {a b:AV} {r:Bool} {va vb:Value} (S:St c σ H s) (ra:a.Rel σ va) (rb:b.Rel σ vb) (e:(zah H b).bind (anyEq a)=some r) {Q:Value→Shared→Prop} {E:Value→Shared→Prop} :
  (Q (.bool r) s→wpAny (model c.prog c.w) A (compareOp .In va vb) Q E s)∧(Q (.bool (!r)) s→wpAny (model c.prog c.w) A (compareOp .NotIn va vb) Q E s):=by
 refine za3 e fun ys e2 e=>?_
 refine zd8 S rb e2 ?_;rintro l' us k' rfl g2 g3 g4
 obtain ⟨hf,rfl⟩:=anyEq_get (A:=A.in1) (s:=s) ra g3 e
 refine ⟨fun h=>SeqAt.in_listAt _ ⟨_,g2,rfl,k',rfl⟩ (fun y hy=>hf y (by simpa -iota using hy)) (by simpa -iota using h),fun h=>SeqAt.notIn_listAt _ ⟨_,g2,rfl,k',rfl⟩ (fun y hy=>hf y (by simpa -iota using hy)) (by simpa -iota using h)⟩
theorem cmp_sound {n:Nat} {op:CmpOp} {a b:AV} {r:Bool} {va vb:Value} (Rm:Room A n) (S:St c σ H s) (ra:a.Rel σ va) (rb:b.Rel σ vb) (e:cmp op a b H=some r) :
  WP c A (compareOp op va vb) σ H s fun _ v=>v=.bool r:=by
 refine WP.toks S fun Q E hq=>?_
 have hq:=hq (.bool r) s.toks rfl
 cases op with
 | Lt=>refine two_some e ?_;rintro x y ea eb rfl;exact cmpLt_ok (asInt_at ea ra) (asInt_at eb rb) hq
 | LtE=>refine two_some e ?_;rintro x y ea eb rfl;refine zax ea ra ?_;rintro t rfl;refine zax eb rb ?_;rintro u rfl;exact PySem.P.le_int hq
 | Gt=>refine two_some e ?_;rintro x y ea eb rfl;refine zax ea ra ?_;rintro t rfl;refine zax eb rb ?_;rintro u rfl;exact PySem.P.gt_int hq
 | GtE=>refine two_some e ?_;rintro x y ea eb rfl;refine zax ea ra ?_;rintro t rfl;refine zax eb rb ?_;rintro u rfl;exact PySem.P.ge_int hq
 | Eq=>exact (cmpEq_ok Rm S ra rb e).1 hq
 | NotEq=>refine map_some2 e ?_;rintro q e1 rfl;exact (cmpEq_ok Rm S ra rb e1).2 hq
 | Is=>exact (cmpIs_ok ra rb e).1 hq
 | IsNot=>refine map_some2 e ?_;rintro q e1 rfl;exact (cmpIs_ok ra rb e1).2 hq
 | In=>exact (cmpIn_ok S ra rb e).1 hq
 | NotIn=>refine map_some2 e ?_;rintro q e1 rfl;exact (cmpIn_ok S ra rb e1).2 hq
set_option tactic.hygienic true in
theorem truth_sound {a:AV} {r:Bool} {va:Value} (S:St c σ H s) (ra:a.Rel σ va) (e:truth a H=some r):WP c A (truthy va) σ H s fun _ v=>v=r:=by
 unfold truth at e
 split at e
 ·subst ra;obtain rfl:=sj e
  exact WP.toks S fun Q E hq=>fun _ _ _=>hq _ s.toks rfl
 ·subst ra;obtain rfl:=sj e
  exact WP.toks S fun Q E hq=>wpAny_truthy_bool (hq _ s.toks rfl)
 ·obtain ⟨t,rfl⟩:=ra;obtain rfl:=sj e
  exact WP.toks S fun Q E hq=>PySem.P.truthy_int (hq _ s.toks rfl)
 ·obtain ⟨t,rfl⟩:=ra
  refine ifsk e fun hl e=>?_
  obtain rfl:=sj e
  refine WP.toks S fun Q E hq=>PySem.P.truthy_str (by omega) ?_
  exact hq _ _ (by rw [Bool.eq_iff_iff];simp -iota)
 ·split at e
  ·rename_i xs e1
   obtain rfl:=sj e
   refine zd9 S ra e1 ?_;rintro l vs k rfl h1 h2 h3 h4
   refine WP.toks S fun Q E hq=>wpAny_truthy_list (items:=vs.toArray) ⟨_,h2,rfl,k,rfl⟩ (by have:=h3.length;simp -iota only [List.size_toArray];omega) ?_
   have:(!vs.toArray.isEmpty)=!xs.isEmpty:=by have:=h3.length;cases vs<;>(first | exact nsf xs | exact ftf xs | exact snf xs | obtain rfl:=sj xs | refine opjs xs ?_ | refine op3k xs ?_;rintro rfl rfl rfl | subst xs | cases xs)<;>simp_all
   rw [this];exact hq _ _ rfl
  ·exact nsf e
 ·exact nsf e
end
noncomputable def keyL:List Nat→Nat
 | []=>0
 | c::cs=>2 ^ c * (2 * keyL cs + 1)
noncomputable def key (x:Str):Nat:=keyL x.cps.toList
theorem keyL_inj:∀ {xs ys:List Nat},keyL xs=keyL ys→xs=ys
 | [],[],_=>rfl
 | [],d::ds,h=>by
  have:0 < keyL (d::ds):=Nat.mul_pos (Nat.two_pow_pos _) (by omega)
  rw [← h] at this
  exact absurd this (Nat.lt_irrefl _)
 | c::cs,[],h=>by
  have:0 < keyL (c::cs):=Nat.mul_pos (Nat.two_pow_pos _) (by omega)
  rw [h] at this
  exact absurd this (Nat.lt_irrefl _)
 | c::cs,d::ds,h=>by
  have key:∀ (c d a b:Nat),2 ^ c * (2 * a + 1)=2 ^ d * (2 * b + 1)→c=d∧a=b:=by
   intro c
   induction c with
   | zero =>
    intro d a b h
    cases d with
    | zero=>simp -iota at h;exact ⟨rfl,by omega⟩
    | succ d =>
     rw [Nat.pow_succ,Nat.pow_zero,Nat.one_mul,Nat.mul_assoc,Nat.mul_left_comm] at h
     omega
   | succ c ih =>
    intro d a b h
    cases d with
    | zero =>
     rw [Nat.pow_succ,Nat.pow_zero,Nat.one_mul,Nat.mul_assoc,Nat.mul_left_comm] at h
     omega
    | succ d =>
     rw [Nat.pow_succ,Nat.pow_succ,Nat.mul_assoc,Nat.mul_assoc,Nat.mul_left_comm _ 2,Nat.mul_left_comm _ 2] at h
     obtain ⟨h1,h2⟩:=ih d a b (Nat.eq_of_mul_eq_mul_left (by decide) h)
     exact ⟨by rw [h1],h2⟩
  obtain ⟨h1,h2⟩:=key c d _ _ h
  rw [h1,keyL_inj h2]
theorem key_inj {x y:Str} (h:key x=key y):x=y:=by
 obtain ⟨⟨a⟩⟩:=x
 obtain ⟨⟨b⟩⟩:=y
 have:=keyL_inj h
 simp -iota at this
 rw [this]
noncomputable abbrev Vars:=List (Nat×AV)
noncomputable def look (k:Nat):Vars→Option AV
 | []=>none
 | y::ys=>if Nat.beq y.1 k then some y.2 else look k ys
theorem zan {k j:Nat} {v:AV} {vs:Vars}:look k ((j,v)::vs)=if j=k then some v else look k vs:=by
 show (if Nat.beq j k=true then some v else look k vs)=_
 by_cases h:j=k
 ·subst h;rw [if_pos rfl,if_pos (Nat.beq_refl j)]
 ·rw [if_neg h,if_neg (fun q=>h (Nat.eq_of_beq_eq_true q))]
noncomputable def isVar:Option NameKind→Bool
 | some .local | some .cell | some .free=>true
 | _=>false
noncomputable def VarAt (env:Env) (σ:List Addr) (h:Heap) (x:Str) (av:AV):Prop :=
 (env.kindOf x=some .local∧∃ m v,h.Ns env.locals m∧m x=some v∧av.Rel σ v) ∨
 ((env.kindOf x=some .cell∨(env.kindOf x=some .free∧(x == ("__classdict__":Str))=false))∧∃ a v,env.cells.lookup x=some a∧h.IsCell a (some v)∧av.Rel σ v)
structure Frm (sc:Scope) (vars:Vars) (env:Env) (σ:List Addr) (h:Heap):Prop where
 kind:env.scope.kind=.function
 glob:env.globals=mainGlobals
 blt:env.builtins=builtinsNs
 gk:∀ x,sc.names.lookup x=some .globalImplicit→env.kindOf x=some .globalImplicit
 vk:∀ x av,look (key x) vars=some av→isVar (sc.names.lookup x)=true→VarAt env σ h x av
 ns:∃ m,h.Ns env.locals m
 outL:env.locals∉σ
 outC:∀ x a,env.cells.lookup x=some a→a∉σ
 nodot:look (key ".0") vars=none
theorem VarAt.keep {env:Env} {σ τ:List Addr} {h h':Heap} {x:Str} {av:AV} (v:VarAt env σ h x av) (hl:∀ o,h.get? env.locals=some o→h'.get? env.locals=some o)
  (hc:∀ a o,env.cells.lookup x=some a→h.get? a=some o→h'.get? a=some o):VarAt env (σ++τ) h' x av:=by
 rcases v with ⟨k,m,v,hn,hm,r⟩ | ⟨k,a,v,ha,⟨o,ho,hd⟩,r⟩
 ·exact .inl ⟨k,m,v,zc2 hn hl,hm,r.mono⟩
 ·exact .inr ⟨k,a,v,ha,⟨o,hc a o ha ho,hd⟩,r.mono⟩
theorem Frm.keep {sc:Scope} {vars:Vars} {env:Env} {σ τ:List Addr} {h h':Heap} (F:Frm sc vars env σ h) (hk:∀ b o,b∉σ→h.get? b=some o→h'.get? b=some o) (ht:∀ a∈τ,h.get? a=none)
  (hC:∀ x a,env.cells.lookup x=some a→∃ o,h.get? a=some o):Frm sc vars env (σ++τ) h':=by
 obtain ⟨m,hm⟩:=F.ns
 refine ⟨F.kind,F.glob,F.blt,F.gk,fun x av e k=>(F.vk x av e k).keep (fun o q=>hk _ o F.outL q) fun a o q q'=>hk a o (F.outC x a q) q',⟨m,zc2 hm fun o q=>hk _ o F.outL q⟩,fun q=>?_,fun x a e q=>?_,F.nodot⟩
 ·rcases List.mem_append.mp q with q | q
  ·exact F.outL q
  ·obtain ⟨o,_,_,ho,_⟩:=hm
   rw [ht _ q] at ho;exact nsf ho
 ·rcases List.mem_append.mp q with q | q
  ·exact F.outC x a e q
  ·obtain ⟨o,ho⟩:=hC x a e
   rw [ht _ q] at ho;exact nsf ho
noncomputable def CellsUp (env:Env) (h:Heap):Prop:=∀ x a,env.cells.lookup x=some a→∃ v,h.IsCell a v
theorem CellsUp.there {env:Env} {h:Heap} (C:CellsUp env h) (x:Str) (a:Addr) (e:env.cells.lookup x=some a):∃ o,h.get? a=some o:=let ⟨_,o,ho,_⟩:=C x a e;⟨o,ho⟩
structure Fr' (sc:Scope) (vars:Vars) (env:Env) (σ:List Addr) (h:Heap):Prop extends Frm sc vars env σ h where
 up:CellsUp env h
 all:∀ x,sc.names.lookup x=some .cell∨sc.names.lookup x=some .free→∃ a,env.cells.lookup x=some a
 ck:∀ x,sc.names.lookup x=some .cell∨sc.names.lookup x=some .free→env.kindOf x=some .cell∨env.kindOf x=some .free
theorem Fr'.aft {c:Cx} {sc:Scope} {vars:Vars} {env:Env} {σ τ:List Addr} {H:List AO} {s s':Shared} (F:Fr' sc vars env σ s.heap) (a:Aft c σ H s τ s'):Fr' sc vars env (σ++τ) s'.heap :=
 ⟨F.toFrm.keep (fun b o hb e=>a.pres.keep b o hb e) a.new F.up.there,fun x b e=>let ⟨v,o,ho,hd⟩:=F.up x b e;⟨v,o,a.pres.keep b o (F.outC x b e) ho,hd⟩,F.all,F.ck⟩
noncomputable abbrev CallT:=AV→List AV→List (Str×AV)→List AO→Option (AV×List AO)
noncomputable def notStar:Expr→Bool
 | .Starred ..=>false
 | _=>true
noncomputable def evs (f:Expr→List AO→Option (AV×List AO)):List Expr→List AO→Option (List AV×List AO)
 | [],H=>some ([],H)
 | e::es,H=>if notStar e then do
  let (v,H) ← f e H
  let (vs,H) ← evs f es H
  some (v::vs,H)
  else none
noncomputable def evKw (f:Expr→List AO→Option (AV×List AO)):List Keyword→List AO→Option (List (Str×AV)×List AO)
 | [],H=>some ([],H)
 | ⟨some x,e,_⟩::ks,H=>do
  let (v,H) ← f e H
  let (vs,H) ← evKw f ks H
  some ((x,v)::vs,H)
 | ⟨none,_,_⟩::_,_=>none
noncomputable def evPart (f:Expr→List AO→Option (AV×List AO)):Option Expr→List AO→Option (Option Int×List AO)
 | none,H=>some (none,H)
 | some e,H=>do
  let (v,H) ← f e H
  match v with
  | .int i=>some (some i,H)
  | .lit .none=>some (none,H)
  | _=>none
noncomputable def tstAll (t:Expr→List AO→Option (Bool×List AO)) (op:BoolOp):List Expr→List AO→Option (Bool×List AO)
 | [],H=>some (op == .And,H)
 | e::es,H=>do
  let (b,H) ← t e H
  match op,b with
  | .And,false=>some (false,H)
  | .Or,true=>some (true,H)
  | _,_=>tstAll t op es H
noncomputable def evBool (f:Expr→List AO→Option (AV×List AO)) (op:BoolOp):List Expr→List AO→Option (AV×List AO)
 | [],_=>none
 | [e],H=>f e H
 | e::es,H=>do
  let (v,H) ← f e H
  let b ← truth v H
  match op,b with
  | .And,false=>some (v,H)
  | .Or,true=>some (v,H)
  | _,_=>evBool f op es H
noncomputable def sliceA (xs:List AV) (lo hi st:Option Int):List AV :=
 (sliceRange (sliceBounds lo hi st xs.length).1 (sliceBounds lo hi st xs.length).2.1 (sliceBounds lo hi st xs.length).2.2).filterMap (xs[·]?)
noncomputable def zdh (x:Str) (lo hi:Option Int):Str :=
 let p:=Builtin.Str.strSliceIndices lo hi 1 x.length
 if p.length == x.length then x else ⟨(p.filterMap (x.cps[·]?)).toArray⟩
noncomputable def itemAt (o i:AV) (H:List AO):Option AV :=
 match o,i with
 | .obj k,.int j=>do
  let xs ← zah H (.obj k)
  let n ← seqIndex? j xs.length
  xs[n]?
 | .str x,.int j=>do
  if x.length≤1048576 then
   let n ← seqIndex? j x.length
   let c ← x.cps[n]?
   some (.str ⟨#[c]⟩)
  else none
 | _,_=>none
noncomputable def zc4 (lo hi st:Int):List AV:=(List.range (Builtin.Range.rangeSize lo hi st).toNat).map fun (j:Nat)=>AV.int (lo + st * (j:Int))
noncomputable def zdo (H:List AO):AV→Option (Bool×List AV)
 | .obj k=>match nth H k with
  | some (.list xs)=>some (true,xs)
  | some (.range lo hi st)=>if decide (st≠0) && Builtin.Range.small lo hi st && decide ((Builtin.Range.rangeSize lo hi st).toNat≤1048576) then some (false,zc4 lo hi st) else none
  | _=>none
 | _=>none
noncomputable def still (isL:Bool) (H:List AO) (it:AV) (all:List AV):Bool:=!isL || decide (zah H it=some all)
noncomputable def compGo (f:AV→List AO→Option (Option AV×List AO)) (it:AV) (isL:Bool) (all:List AV) (k:Nat):List AV→List AO→Option (List AO)
 | [],H=>if still isL H it all then some H else none
 | x::xs,H=>if still isL H it all then do
   let (y,H) ← f x H
   match y with
   | none=>compGo f it isL all k xs H
   | some v=>do
    let acc ← zah H (.obj k)
    if acc.length < 1048576 then compGo f it isL all k xs (H.set k (.list (acc++[v]))) else none
  else none
noncomputable def notSetD:Expr→Bool
 | .Set ..=>false
 | _=>true
noncomputable def notCall:Expr→Bool
 | .Call ..=>false
 | _=>true
noncomputable def compOk (sc sc':Scope) (x:Str):Bool :=
 sc'.kind == .function && sc'.names.lookup x == some .local && x != (".0":Str) && sc'.names.all (fun y=>y.2 != .cell && (y.2 != .local || sc'.names.lookup y.1 == some .local && (y.1 == x || y.1 == (".0":Str))) &&
  (y.2 != .free || (sc.names.lookup y.1 == some .cell || sc.names.lookup y.1 == some .free) && y.1 != "__classdict__" && sc'.names.lookup y.1 == some .free))
noncomputable def arg1:List AV→Option AV
 | [a]=>some a
 | _=>none
noncomputable def arg2:List AV→Option (AV×AV)
 | [a,b]=>some (a,b)
 | _=>none
noncomputable def arg3:List AV→Option (AV×AV×AV)
 | [a,b,c]=>some (a,b,c)
 | _=>none
noncomputable def objL (H:List AO) (a:AV):Option (Nat×List AV):=match a with
 | .obj k=>(zah H (.obj k)).map fun xs=>(k,xs)
 | _=>none
noncomputable def mAppend (o:AV) (args:List AV) (H:List AO):Option (AV×List AO):=(objL H o).bind fun p=>(arg1 args).bind fun x=>if p.2.length < 1048576 then some (.lit .none,H.set p.1 (.list (p.2++[x]))) else none
noncomputable def mInsert (o:AV) (args:List AV) (H:List AO):Option (AV×List AO):=(objL H o).bind fun p=>(arg2 args).bind fun q=>(zc0 q.1).bind fun i =>
 if decide (p.2.length < 1048576) && decide (0≤i) && decide (i≤p.2.length) then some (.lit .none,H.set p.1 (.list (p.2.take i.toNat++q.2::p.2.drop i.toNat))) else none
noncomputable def mLower (o:AV) (args:List AV) (H:List AO):Option (AV×List AO):=(strOf o).bind fun x=>match args with
 | []=>if x.length≤1000 then some (.str (Txt.lower x),H) else none
 | _::_=>none
noncomputable def method (name:Str) (o:AV) (args:List AV) (H:List AO):Option (AV×List AO) :=
 if name="append" then mAppend o args H
 else if name="insert" then mInsert o args H
 else if name="lower" then mLower o args H
 else none
noncomputable def selfOk (o:AV) (H:List AO):Bool:=match o with
 | .str _=>true
 | .obj k=>(zah H (.obj k)).isSome
 | _=>false
noncomputable abbrev EvF:=Expr→List AO→Option (AV×List AO)
noncomputable abbrev TsF:=Expr→List AO→Option (Bool×List AO)
noncomputable def evConst (k:Const) (H:List AO):Option (AV×List AO):=match k with
 | .int i=>some (.int i,H)
 | .str x=>some (.str x,H)
 | .none=>some (.lit .none,H)
 | .bool b=>some (.lit (.bool b),H)
 | _=>none
noncomputable def evName (G:Str→Option AV) (sc:Scope) (vars:Vars) (x:Str) (H:List AO):Option (AV×List AO) :=
 if x="__debug__" then none else match sc.names.lookup x with
  | some .globalImplicit=>(G x).map (·,H)
  | some .local | some .cell | some .free=>(look (key x) vars).map (·,H)
  | _=>none
noncomputable def evBin (f:EvF) (l:Expr) (op:Operator) (r:Expr) (H:List AO):Option (AV×List AO):=do
 let (a,H) ← f l H
 let (b,H) ← f r H
 binop op a b H
noncomputable def evUn (f:EvF) (op:UnaryOp) (x:Expr) (H:List AO):Option (AV×List AO):=do
 let (a,H) ← f x H
 match op with
 | .Not=>do some (.lit (.bool (!(← truth a H))),H)
 | _=>do some (← unop op a,H)
noncomputable def evIf (f:EvF) (tt:TsF) (t b o:Expr) (H:List AO):Option (AV×List AO):=do
 let (q,H) ← tt t H
 if q then f b H else f o H
noncomputable def evList (f:EvF) (es:List Expr) (H:List AO):Option (AV×List AO):=do
 let (xs,H) ← evs f es H
 newL H xs
noncomputable def evCmp (f:EvF) (l:Expr) (op:CmpOp) (r:Expr) (H:List AO):Option (AV×List AO) :=
 if behindInMarks op r then none else do
  let (a,H) ← f l H
  let (b,H) ← f r H
  some (.lit (.bool (← cmp op a b H)),H)
noncomputable def sliceOf (o:AV) (l u t:Option Int) (H:List AO):Option (AV×List AO):=match strOf o with
 | some x=>if t=none∧x.length≤1048576 then some (.str (zdh x l u),H) else none
 | none=>(zah H o).bind fun xs=>if t=some 0 then none else newL H (sliceA xs l u t)
noncomputable def evSlice (f:EvF) (v:Expr) (lo up st:Option Expr) (H:List AO):Option (AV×List AO):=do
 let (o,H) ← f v H
 let (l,H) ← evPart f lo H
 let (u,H) ← evPart f up H
 let (t,H) ← evPart f st H
 sliceOf o l u t H
noncomputable def evItem (f:EvF) (v sl:Expr) (H:List AO):Option (AV×List AO):=do
 let (o,H) ← f v H
 let (i,H) ← f sl H
 some (← itemAt o i H,H)
noncomputable def evSub (f:EvF) (v sl:Expr) (H:List AO):Option (AV×List AO):=match sl with
 | .Slice lo up st _=>evSlice f v lo up st H
 | sl=>evItem f v sl H
noncomputable def evMeth (f:EvF) (o:Expr) (name:Str) (apos:Pos) (args:List Expr) (pos:Pos) (H:List AO):Option (AV×List AO) :=
 if decide (args.length < 20) && apos.endLine == pos.line && notCall o then do
  let (ov,H) ← f o H
  if selfOk ov H then do
   let (vs,H) ← evs f args H
   method name ov vs H
  else none
 else none
noncomputable def evCallN (call:CallT) (f:EvF) (x:Str) (p:Pos) (args:List Expr) (kws:List Keyword) (H:List AO):Option (AV×List AO):=do
 let (g,H) ← f (.Name x p) H
 let (vs,H) ← evs f args H
 let (ks,H) ← evKw f kws H
 call g vs ks H
noncomputable def evCall (call:CallT) (f:EvF) (g:Expr) (args:List Expr) (kws:List Keyword) (pos:Pos) (H:List AO):Option (AV×List AO):=match g with
 | .Attribute o name apos=>match kws with
  | []=>evMeth f o name apos args pos H
  | _=>none
 | .Name x p=>evCallN call f x p args kws H
 | _=>none
noncomputable def compBody (f:Vars→EvF) (tt:Vars→TsF) (vars:Vars) (x:Str) (ifs:List Expr) (elt:Expr) (a:AV) (H:List AO):Option (Option AV×List AO):=do
 let vars':=(key x,a)::vars
 let (ok,H) ← tstAll (tt vars') .And ifs H
 if ok then do
  let (r,H) ← f vars' elt H
  some (some r,H)
 else some (none,H)
noncomputable def evComp (f:EvF) (fi:Vars→EvF) (ti:Vars→TsF) (sc sc':Scope) (vars:Vars) (elt:Expr) (x:Str) (iter:Expr) (ifs:List Expr) (H:List AO):Option (AV×List AO) :=
 if compOk sc sc' x && notSetD iter then do
  let (it,H) ← f iter H
  let (isL,xs) ← zdo H it
  let H' ← compGo (compBody fi ti vars x ifs elt) it isL xs H.length xs (H++[.list []])
  some (.obj H.length,H')
 else none
noncomputable def tsNot (tt:TsF) (x:Expr) (H:List AO):Option (Bool×List AO):=do
 let (b,H) ← tt x H
 some (!b,H)
noncomputable def tsIf (tt:TsF) (t b o:Expr) (H:List AO):Option (Bool×List AO):=do
 let (q,H) ← tt t H
 if q then tt b H else tt o H
noncomputable def tsCmp (f:EvF) (l:Expr) (op:CmpOp) (r:Expr) (H:List AO):Option (Bool×List AO) :=
 if behindInMarks op r then none else do
  let (a,H) ← f l H
  let (b,H) ← f r H
  some (← cmp op a b H,H)
noncomputable def tsVal (f:EvF) (e:Expr) (H:List AO):Option (Bool×List AO):=do
 let (v,H) ← f e H
 some (← truth v H,H)
noncomputable def evCmps (f:EvF) (l:Expr) (ops:List CmpOp) (rs:List Expr) (H:List AO):Option (AV×List AO):=match ops,rs with
 | [op],[r]=>evCmp f l op r H
 | _,_=>none
noncomputable def tsCmps (f:EvF) (l:Expr) (ops:List CmpOp) (rs:List Expr) (H:List AO):Option (Bool×List AO):=match ops,rs with
 | [op],[r]=>tsCmp f l op r H
 | _,_=>none
noncomputable def evComps (f:EvF) (fi:Scope→Vars→EvF) (ti:Scope→Vars→TsF) (sc sc':Scope) (vars:Vars) (elt:Expr) (gens:List Comprehension) (H:List AO):Option (AV×List AO):=match gens with
 | [⟨.Name x _,iter,ifs,0⟩]=>evComp f (fi sc') (ti sc') sc sc' vars elt x iter ifs H
 | _=>none
mutual
noncomputable def ev (G:Str→Option AV) (call:CallT):Nat→Scope→Vars→Expr→List AO→Option (AV×List AO)
 | 0,_,_,_,_=>none
 | n + 1,sc,vars,e,H=>match e with
  | .Constant k _ _=>evConst k H
  | .Name x _=>evName G sc vars x H
  | .BinOp l op r _=>evBin (ev G call n sc vars) l op r H
  | .UnaryOp op x _=>evUn (ev G call n sc vars) op x H
  | .IfExp t b o _=>evIf (ev G call n sc vars) (tst G call n sc vars) t b o H
  | .BoolOp op es _=>evBool (ev G call n sc vars) op es H
  | .List es _=>evList (ev G call n sc vars) es H
  | .Compare l ops rs _=>evCmps (ev G call n sc vars) l ops rs H
  | .Subscript v sl _=>evSub (ev G call n sc vars) v sl H
  | .Call g args kws pos=>evCall call (ev G call n sc vars) g args kws pos H
  | .ListComp elt gens sc' _=>evComps (ev G call n sc vars) (ev G call n) (tst G call n) sc sc' vars elt gens H
  | _=>none
noncomputable def tst (G:Str→Option AV) (call:CallT):Nat→Scope→Vars→Expr→List AO→Option (Bool×List AO)
 | 0,_,_,_,_=>none
 | n + 1,sc,vars,e,H=>match e with
  | .UnaryOp .Not x _=>tsNot (tst G call n sc vars) x H
  | .BoolOp op es _=>tstAll (tst G call n sc vars) op es H
  | .IfExp t b o _=>tsIf (tst G call n sc vars) t b o H
  | .Compare l ops rs _=>tsCmps (ev G call n sc vars) l ops rs H
  | e=>tsVal (ev G call n sc vars) e H
end
section
variable {c:Cx} {A:Around} {σ:List Addr} {H H':List AO} {s:Shared} {env:Env} {sc:Scope} {vars:Vars}
noncomputable def ItAt (σ:List Addr) (h:Heap) (I:Addr) (it:AV) (isL:Bool) (all:List AV) (i:Nat):Prop :=
 match isL with
 | true=>∃ k l,it=.obj k∧σ[k]?=some l∧h.IsListIter I l i
 | false=>∃ lo hi st,all=zc4 lo hi st∧st≠0∧IsRangeIter h I (lo + st * (i:Int)) (Builtin.Range.rangeSize lo hi st - (i:Int)) st
theorem ItAt.keep {τ:List Addr} {h h':Heap} {I:Addr} {it:AV} {isL:Bool} {all:List AV} {i:Nat} (x:ItAt σ h I it isL all i) (hk:∀ o,h.get? I=some o→h'.get? I=some o):ItAt (σ++τ) h' I it isL all i:=by
 cases isL with
 | true =>
  obtain ⟨k,l,h1,h2,o,ho,r⟩:=x
  exact ⟨k,l,h1,by rw [List.getElem?_append_left (List.getElem?_eq_some_iff.mp h2).1];exact h2,o,hk o ho,r⟩
 | false =>
  obtain ⟨lo,hi,st,h1,h2,h3⟩:=x
  exact ⟨lo,hi,st,h1,h2,hk _ h3⟩
theorem ItAt.there {h:Heap} {I:Addr} {it:AV} {isL:Bool} {all:List AV} {i:Nat} (x:ItAt σ h I it isL all i):∃ o,h.get? I=some o:=by
 cases isL with
 | true=>obtain ⟨k,l,h1,h2,o,ho,r⟩:=x;exact ⟨o,ho⟩
 | false=>obtain ⟨lo,hi,st,h1,h2,h3⟩:=x;exact ⟨_,h3⟩
set_option tactic.hygienic true in
theorem iter_start {it:AV} {v:Value} {isL:Bool} {all:List AV} (S:St c σ H s) (r:it.Rel σ v) (e:zdo H it=some (isL,all)) {Q:Value→Shared→Prop} {E:Value→Shared→Prop}
  (hq:∀ I h',s.heap.get? I=none→(∀ b o,s.heap.get? b=some o→h'.get? b=some o)→ItAt σ h' I it isL all 0→Q (.ref I) { s with heap:=h' }) :
  wpAny (model c.prog c.w) A (pyIter v) Q E s:=by
 cases it with
 | obj k =>
  obtain ⟨a,ha,rfl⟩:=r
  simp only [zdo,zaw] at e
  split at e
  ·rename_i xs hk
   refine opjk e ?_;rintro rfl rfl
   obtain ⟨vs,n,h1,h2,h3⟩:=S.objs k a _ ha hk
   refine wpAny_pyIter_list ⟨_,h1,rfl,n,rfl⟩ (hq _ _ (get?_size _) (fun b o q=>Heap.get?_push_of_some _ q) ⟨k,a,rfl,ha,_,Heap.get?_push_size _ rfl,rfl,rfl⟩)
  ·rename_i lo hi st hk
   refine ifsk e fun hc e=>?_
   refine opjk e ?_;rintro rfl rfl
   simp only [Bool.and_eq_true,decide_eq_true_eq] at hc
   obtain ⟨t,u,w,h1⟩:=S.objs k a _ ha hk
   refine wpAny_pyIter_range h1 hc.1.2 (hq _ _ (get?_size _) (fun b o q=>Heap.get?_push_of_some _ q) ⟨lo,hi,st,rfl,hc.1.1,?_⟩)
   have e1:lo + st * ((0:Nat):Int)=lo:=by simp
   have e2:Builtin.Range.rangeSize lo hi st - ((0:Nat):Int)=Builtin.Range.rangeSize lo hi st:=by simp
   rw [e1,e2]
   exact Heap.get?_push_size _ rfl
  ·exact nsf e
 | _=>simp [zdo] at e
theorem rangeItems_get {lo hi st:Int} {i:Nat} {x:AV} (h:(zc4 lo hi st)[i]?=some x):x=.int (lo + st * (i:Int))∧(i:Int) < Builtin.Range.rangeSize lo hi st:=by
 unfold zc4 at h
 rw [List.getElem?_map] at h
 cases q:(List.range (Builtin.Range.rangeSize lo hi st).toNat)[i]? with
 | none=>rw [q] at h;exact nsf h
 | some j =>
  rw [q] at h
  obtain ⟨h1,h2⟩:=List.getElem?_eq_some_iff.mp q
  simp -iota at h1 h2
  subst h2
  obtain rfl:=sj h
  exact ⟨rfl,by omega⟩
theorem rangeItems_end {lo hi st:Int} {i:Nat} (h:(zc4 lo hi st)[i]?=none):Builtin.Range.rangeSize lo hi st≤(i:Int):=by
 have:=List.getElem?_eq_none_iff.mp h
 simp -iota [zc4] at this
 omega
theorem iter_next {it:AV} {isL:Bool} {all:List AV} {I:Addr} {i:Nat} {x:AV} (S:St c σ H s) (r:ItAt σ s.heap I it isL all i) (hs:still isL H it all=true) (hx:all[i]?=some x) {Q:Option Value→Shared→Prop} {E:Value→Shared→Prop}
  (hq:∀ v h' tk,x.Rel σ v→ItAt σ h' I it isL all (i + 1)→Heap.SameBut I s.heap h'→Q (some v) { s with heap:=h',toks:=tk }) :
  wpAny (model c.prog c.w) A (pyNext (.ref I)) Q E s:=by
 cases isL with
 | true =>
  obtain ⟨k,l,rfl,h2,h3⟩:=r
  have e:zah H (.obj k)=some all:=by simpa -iota [still] using hs
  refine zd9 S (v:=.ref l) ⟨l,h2,rfl⟩ e fun a vs n ea g1 g2 g3 g4=>?_
  cases ea
  obtain ⟨v,hv,rv⟩:=g3.get hx
  refine wpAny_pyNext_list_item h3 (items:=vs.toArray) ⟨_,g2,rfl,n,rfl⟩ (x:=v) (by simpa -iota using hv) fun h' hit hsb=>hq v h' s.toks rv ⟨k,l,rfl,h2,hit⟩ hsb
 | false =>
  obtain ⟨lo,hi,st,rfl,h2,h3⟩:=r
  obtain ⟨rfl,hlt⟩:=rangeItems_get hx
  refine wpAny_pyNext_range_item h3 (by omega) fun h' hit hsb=>hq _ h' _ ⟨_,rfl⟩ ⟨lo,hi,st,rfl,h2,?_⟩ hsb
  have e1:lo + st * (i:Int) + st=lo + st * ((i + 1:Nat):Int):=by rw [Int.natCast_add,Int.mul_add];omega
  have e2:Builtin.Range.rangeSize lo hi st - (i:Int) - 1=Builtin.Range.rangeSize lo hi st - ((i + 1:Nat):Int):=by omega
  rw [← e1,← e2];exact hit
theorem iter_end {it:AV} {isL:Bool} {all:List AV} {I:Addr} {i:Nat} (hh:A.handled=none) (S:St c σ H s) (r:ItAt σ s.heap I it isL all i) (hs:still isL H it all=true) (hx:all[i]?=none) {Q:Option Value→Shared→Prop} {E:Value→Shared→Prop}
  (hq:∀ h',Heap.ExtBut I s.heap h'→Q none { s with heap:=h' }):wpAny (model c.prog c.w) A (pyNext (.ref I)) Q E s:=by
 cases isL with
 | true =>
  obtain ⟨k,l,rfl,h2,h3⟩:=r
  have e:zah H (.obj k)=some all:=by simpa -iota [still] using hs
  refine zd9 S (v:=.ref l) ⟨l,h2,rfl⟩ e fun a vs n ea g1 g2 g3 g4=>?_
  cases ea
  have hl:=g3.length
  exact wpAny_pyNext_list_end hh h3 (items:=vs.toArray) ⟨_,g2,rfl,n,rfl⟩ (by have:=List.getElem?_eq_none_iff.mp hx;simp -iota;omega) hq
 | false =>
  obtain ⟨lo,hi,st,rfl,h2,h3⟩:=r
  have:=rangeItems_end hx
  exact wpAny_pyNext_range_end hh h3 (by omega) hq
end
noncomputable def RelK (σ:List Addr):List (Str×AV)→List (Str×Value)→Prop
 | [],[]=>True
 | x::xs,v::vs=>x.1=v.1∧x.2.Rel σ v.2∧RelK σ xs vs
 | _,_=>False
noncomputable def Callable (h:Heap) (v:Value):Prop:=(∀ a,v≠.ref a)∨∃ a o fd,v=.ref a∧h.get? a=some o∧o.data=.func fd
noncomputable def zbx (c:Cx) (call:CallT) (n:Nat):Prop :=
 ∀ (A:Around) (σ:List Addr) (H:List AO) (s:Shared) (f:AV) (vs:List AV) (ks:List (Str×AV)) (fv:Value) (vvs:List Value) (kvs:List (Str×Value)) (r:AV) (H':List AO),
  Room A n→St c σ H s→f.Rel σ fv→RelL σ vs vvs→RelK σ ks kvs→call f vs ks H=some (r,H')→Callable s.heap fv∧WP c A (PySem.call fv vvs kvs) σ H' s fun τ v=>r.Rel τ v
section
variable {c:Cx} {A:Around} {σ:List Addr} {H H':List AO} {s:Shared} {env:Env} {sc:Scope} {vars:Vars} {call:CallT} {n m:Nat}
noncomputable def IHe (c:Cx) (call:CallT) (n m:Nat):Prop :=
 ∀ (A:Around) (sc:Scope) (vars:Vars) (env:Env) (e:Expr) (H:List AO) (r:AV) (H':List AO) (σ:List Addr) (s:Shared),
  Room A m→Fr' sc vars env σ s.heap→St c σ H s→ev c.G call n sc vars e H=some (r,H')→WP c A (eval e env) σ H' s fun τ v=>r.Rel τ v
noncomputable def IHt (c:Cx) (call:CallT) (n m:Nat):Prop :=
 ∀ (A:Around) (sc:Scope) (vars:Vars) (env:Env) (e:Expr) (H:List AO) (r:Bool) (H':List AO) (σ:List Addr) (s:Shared),
  Room A m→Fr' sc vars env σ s.heap→St c σ H s→tst c.G call n sc vars e H=some (r,H')→WP c A (isTrue e env (eval e env)) σ H' s fun _ v=>v=r
theorem bind_some {α β:Type} {x:Option α} {f:α→Option β} {r:β} (h:(x >>= f)=some r) {Γ:Prop} (κ:∀ a,x=some a→f a=some r→Γ):Γ:=by
 cases x with
 | none=>exact nsf h
 | some a=>exact κ a rfl h
theorem za4 {α γ β:Type} {x:Option (α×γ)} {f:α×γ→Option β} {r:β} (h:(x >>= f)=some r) {Γ:Prop} (κ:∀ a c,x=some (a,c)→f (a,c)=some r→Γ):Γ:=by
 cases x with
 | none=>exact nsf h
 | some a=>exact κ a.1 a.2 rfl h
theorem star_no {x:Expr} {es:List Expr} (h:notStar x=true):starEach (x::es) env=(false,eval x env)::starEach es env:=by
 cases x<;>first | rfl | exact ftf h
theorem evs_cons {f:Expr→List AO→Option (AV×List AO)} {x:Expr} {es:List Expr} {r:List AV×List AO} (e:evs f (x::es) H=some r) {Γ:Prop} (κ:notStar x=true→∀ v H1 us,f x H=some (v,H1)→evs f es H1=some (us,r.2)→r.1=v::us→Γ):Γ:=by
 refine ifsk e fun h e=>?_
 refine za4 e fun v H1 e1 e=>?_
 refine za4 e fun us H2 e2 e=>?_
 obtain rfl:=sj e
 exact κ h v H1 us e1 e2 rfl
theorem spliced_sound (I:IHe c call n m) (Rm:Room A m) (pos:Pos):∀ (es:List Expr) {σ:List Addr} {H H':List AO} {s:Shared} {vs:List AV},Fr' sc vars env σ s.heap→St c σ H s →
  evs (ev c.G call n sc vars) es H=some (vs,H')→WP c A (spliced (backTo pos (starEach es env))) σ H' s fun τ v=>RelL τ vs v
 | [],σ,H,H',s,vs,F,S,e=>by
  refine opjs e ?_
  exact fun Q E hq=>spliced_nil (hq [] s [] (.refl S) trivial)
 | x::es,σ,H,H',s,vs,F,S,e=>by
  refine evs_cons e ?_;rintro hx v H1 us e1 e2 rfl
  rw [star_no hx]
  intro Q E hq
  refine spliced_cons ((I A sc vars env x H v H1 σ s Rm F S e1).use fun τ s1 v1 a1 r1=>?_)
  refine (spliced_sound I Rm pos es (F.aft a1) a1.st e2).use fun τ' s2 v2 a2 r2=>?_
  exact hq (τ++τ') s2 _ (a1.trans a2) (by rw [← List.append_assoc];exact ⟨r1.mono,r2⟩)
theorem evalAll_sound (I:IHe c call n m) (Rm:Room A m) (pos:Pos):∀ (ks:List Keyword) {σ:List Addr} {H H':List AO} {s:Shared} {vs:List (Str×AV)},Fr' sc vars env σ s.heap→St c σ H s →
  evKw (ev c.G call n sc vars) ks H=some (vs,H')→WP c A (evalAll ((backToKw pos (keywordEach ks env)).map (·.2))) σ H' s fun τ v=>RelK τ vs (((backToKw pos (keywordEach ks env)).filterMap (·.1)).zip v)
 | [],σ,H,H',s,vs,F,S,e=>by
  refine opjs e ?_
  intro Q E hq
  exact wpAny_evalAll_nil (hq [] s [] (.refl S) trivial)
 | ⟨none,_,_⟩::_,σ,H,H',s,vs,F,S,e=>by exact nsf e
 | ⟨some x,e0,p⟩::ks,σ,H,H',s,vs,F,S,e=>by
  refine za4 e fun v H1 e1 e'=>?_
  refine za4 e' fun us H2 e2 e'=>?_
  refine opjs e' ?_
  intro Q E hq
  show wpAny _ A (evalAll ((do let v ← eval e0 env;standAt pos;pure v)::(backToKw pos (keywordEach ks env)).map (·.2))) _ _ _
  refine wpAny_evalAll_cons (wpAny_bind ((I A sc vars env e0 H v H1 σ s Rm F S e1).use fun τ s1 v1 a1 r1=>wpAny_bind (wpAny_standAt (wpAny_pure ?_))))
  refine (evalAll_sound I Rm pos ks (F.aft a1) a1.st e2).use fun τ' s2 v2 a2 r2=>?_
  exact hq (τ++τ') s2 _ (a1.trans a2) (by rw [← List.append_assoc];exact ⟨rfl,r1.mono,r2⟩)
theorem zdu (pos:Pos):∀ (ks:List Keyword) {f:Expr→List AO→Option (AV×List AO)} {H:List AO} {r},evKw f ks H=some r→(backToKw pos (keywordEach ks env)).all (·.1.isSome)=true
 | [],_,_,_,_=>rfl
 | ⟨none,_,_⟩::_,_,_,_,e=>by exact nsf e
 | ⟨some x,e0,p⟩::ks,f,H,r,e=>by
  refine za4 e fun v H1 e1 e'=>?_
  refine za4 e' fun us H2 e2 e'=>?_
  show (true && _)=true
  rw [Bool.true_and]
  exact zdu pos ks e2
theorem zdb (pos:Pos):∀ (es:List Expr) {f:Expr→List AO→Option (AV×List AO)} {H:List AO} {r},evs f es H=some r→(backTo pos (starEach es env)).any (·.1)=false
 | [],_,_,_,_=>rfl
 | x::es,f,H,r,e=>by
  refine evs_cons e fun hx v H1 us e1 e2 _=>?_
  rw [star_no hx]
  exact zdb pos es e2
theorem zdn (I:IHe c call n m) (Rm:Room A m) (pos:Pos) (f:Value) {es:List Expr} {ks:List Keyword} {H1 H2:List AO} {vs:List AV} {kvs:List (Str×AV)} (F:Fr' sc vars env σ s.heap) (S:St c σ H s)
  (e1:evs (ev c.G call n sc vars) es H=some (vs,H1)) (e2:evKw (ev c.G call n sc vars) ks H1=some (kvs,H2)) :
  WP c A (evalArgs f true (backTo pos (starEach es env)) (backToKw pos (keywordEach ks env))) σ H2 s fun τ a=>RelL τ vs a.pos∧RelK τ kvs a.kw:=by
 intro Q E hq
 have hall:=zdu (env:=env) pos ks e2
 have hplain:=zdb (env:=env) pos es e1
 have key:wpAny (model c.prog c.w) A (spliced (backTo pos (starEach es env))) (fun vs s₁=>wpAny (model c.prog c.w) A (evalAll ((backToKw pos (keywordEach ks env)).map (·.2))) (fun kvs s₂=>Q ⟨vs,((backToKw pos (keywordEach ks env)).filterMap (·.1)).zip kvs⟩ s₂) E s₁) E s:=by
  refine (spliced_sound I Rm pos es F S e1).use fun τ s1 v1 a1 r1=>?_
  refine (evalAll_sound I Rm pos ks (F.aft a1) a1.st e2).use fun τ' s2 v2 a2 r2=>?_
  exact hq (τ++τ') s2 _ (a1.trans a2) (by rw [← List.append_assoc];exact ⟨r1.mono,r2⟩)
 generalize backTo pos (starEach es env)=T at key hplain ⊢
 cases T with
 | nil =>
  refine evalArgs_kw_nil hall ?_
  have:spliced []=pure []:=rfl
  rw [this] at key
  exact fun Γ p hΓ=>key Γ p hΓ Γ p hΓ
 | cons x rest =>
  obtain ⟨b,t⟩:=x
  have hb:b=false:=by simp -iota at hplain;exact hplain.1
  subst hb
  exact evalArgs_kw hall key
theorem tailCall {M:Model} {E:Value→Shared→Prop} {t:Sem Value} {Q:Value→Shared→Prop} (ht:wpAny M A t Q E s):wpAny M A (t >>= fun r=>holding [r] point >>= fun _=>pure r) Q E s :=
 wpAny_bind (wpAny_mono ht (fun r s₂ hr=>wpAny_bind (wpAny_holding (wpAny_point (wpAny_pure hr)))) fun _ _ x=>x)
theorem keeper_plain {f:Value} (hc:∀ a,f≠.ref a):keeperOf f=pure .machine:=by
 unfold keeperOf
 cases f<;>first | rfl | exact absurd rfl (hc _)
theorem callWith_any {M:Model} {E:Value→Shared→Prop} {pos:Pos} {f:Value} {first:List Value} {args:List (Bool×Sem Value)} {keywords:List (Option Str×Sem Value)} {Q:Value→Shared→Prop}
  (hplain:args.any (·.1)=false) (hkw:keywords.all (·.1.isSome)=true)
  (h:wpAny M A (evalArgs f true args keywords) (fun x s₁=>Callable s₁.heap f∧wpAny M A (PySem.call f (first++x.pos) x.kw) Q E s₁) E s) :
  wpAny M A (callWith pos f first args keywords) Q E s:=by
 unfold callWith
 refine wpAny_bind (wpAny_holding (wpAny_mono h (fun x s₁ h₁=>wpAny_bind (wpAny_standAt ?_)) fun _ _ x=>x))
 have hn:keywords.any (·.1.isNone)=false:=by
  rw [List.any_eq_false]
  intro x hx
  rw [Option.isNone_eq_false_iff.mpr (List.all_eq_true.mp hkw x hx)]
  exact Bool.false_ne_true
 simp -iota only [hplain,hn,Bool.or_false]
 obtain ⟨hc,hk⟩:=h₁
 rcases hc with hc | ⟨a,o,fd,rfl,ho,hd⟩
 ·rw [keeper_plain hc]
  exact wpAny_bind (wpAny_pure (tailCall hk))
 ·refine wpAny_bind (m:=keeperOf (.ref a)) ?_
  unfold keeperOf
  refine wpAny_bind (wpAny_load ho ?_)
  rw [hd]
  refine wpAny_pure ?_
  dsimp only
  split
  ·exact tailCall hk
  ·exact tailCall (by unfold callMarked;exact wpAny_keep hk)
theorem glob_sound {x:Str} {av:AV} (O:c.Ok) (S:St c σ H s) (hg:env.globals=mainGlobals) (hb:env.builtins=builtinsNs) (e:c.G x=some av):WP c A (loadGlobal env x) σ H s fun τ v=>av.Rel τ v:=by
 obtain ⟨v,mg,r,hm,hv⟩:=O.glob x av e
 have hm':s.heap.Ns env.globals mg:=by rw [hg];exact zc2 hm fun o q=>S.base _ o O.wg q
 have r':av.Rel σ v:=by obtain ⟨t,et⟩:=S.fix;rw [et];exact r.mono
 refine WP.toks S fun Q E hq=>?_
 rcases hv with hv | ⟨hn,mb,hmb,hv⟩
 ·exact loadGlobal_global hm' hv (hq v s.toks r')
 ·exact loadGlobal_builtin hm' hn (by rw [hb];exact zc2 hmb fun o q=>S.base _ o O.wb q) hv (hq v s.toks r')
theorem var_sound {x:Str} {av:AV} (S:St c σ H s) (hk:env.scope.kind=.function) (V:VarAt env σ s.heap x av):WP c A (loadName env x) σ H s fun τ v=>av.Rel τ v:=by
 refine WP.toks S fun Q E hq=>?_
 rcases V with ⟨k,m,v,hn,hm,r⟩ | ⟨k | ⟨k,hx⟩,a,v,ha,hc,r⟩
 ·exact wpAny_loadName_local hk k hn hm (hq v s.toks r)
 ·exact wpAny_loadName_cell hk k ha hc (hq v s.toks r)
 ·exact wpAny_loadName_free hk k ha hc (hq v s.toks r) hx
theorem name_sound {x:Str} {pos:Pos} {r:AV} (O:c.Ok) (F:Fr' sc vars env σ s.heap) (S:St c σ H s) (e:ev c.G call (n + 1) sc vars (.Name x pos) H=some (r,H')):WP c A (eval (.Name x pos) env) σ H' s fun τ v=>r.Rel τ v:=by
 replace e:evName c.G sc vars x H=some (r,H'):=e
 unfold evName at e
 split at e
 ·exact nsf e
 ·rename_i hd
  have hd':(x == ("__debug__":Str))=false:=by simpa -iota using hd
  have go:∀ {av:AV},WP c A (loadName env x) σ H s (fun τ v=>av.Rel τ v)→WP c A (eval (.Name x pos) env) σ H s fun τ v=>av.Rel τ v:=fun w Q E hq=>wpAny_Name (w Q E hq) hd'
  have hv:isVar (sc.names.lookup x)=true→look (key x) vars=some r→WP c A (eval (.Name x pos) env) σ H s fun τ v=>r.Rel τ v:=fun h1 h2=>go (var_sound S F.kind (F.vk x r h2 h1))
  split at e
  ·rename_i hl
   cases hg:c.G x with
   | none=>rw [hg] at e;exact nsf e
   | some av =>
    rw [hg] at e;refine opjs e ?_
    intro Q E hq
    exact Name_function_global F.kind (F.gk x hl) (glob_sound O S F.glob F.blt hg Q E hq) hd'
  all_goals first
   | (rename_i hl;cases hg:look (key x) vars with
     | none=>rw [hg] at e;exact nsf e
     | some av=>rw [hg] at e;(first | exact nsf e | exact ftf e | exact snf e | obtain rfl:=sj e | refine opjk e ?_;rintro rfl rfl);exact hv (by rw [hl];rfl) hg)
   | exact nsf e
theorem part_sound (I:IHe c call n m) (Rm:Room A m) {x:Option Expr} {r:Option Int} (F:Fr' sc vars env σ s.heap) (S:St c σ H s) (e:evPart (ev c.G call n sc vars) x H=some (r,H')) :
  WP c A (evalPart x env) σ H' s fun _ v=>IsPart v r:=by
 cases x with
 | none=>simp -iota only [evPart] at e;refine opjs e ?_;exact WP.pure S .none
 | some e0 =>
  refine za4 e fun v H1 e1 e'=>?_
  dsimp only at e'
  split at e'
  ·refine opjs e' ?_
   exact (I A sc vars env e0 H _ _ σ s Rm F S e1).mono fun τ v r=>by obtain ⟨t,rfl⟩:=r;exact .int _ _
  ·refine opjs e' ?_
   exact (I A sc vars env e0 H _ _ σ s Rm F S e1).mono fun τ v r=>by subst r;exact .none
  ·exact nsf e'
theorem all_sound (I:IHt c call n m) (Rm:Room A m) {op:BoolOp}:∀ (es:List Expr) {σ:List Addr} {H H':List AO} {s:Shared} {r:Bool},Fr' sc vars env σ s.heap→St c σ H s →
  tstAll (tst c.G call n sc vars) op es H=some (r,H')→WP c A (allTrue op es env) σ H' s fun _ v=>v=r
 | [],σ,H,H',s,r,F,S,e=>by
  refine opjs e ?_
  exact WP.pure S rfl
 | x::es,σ,H,H',s,r,F,S,e=>by
  refine za4 e fun b H1 e1 e'=>?_
  have w:=I A sc vars env x H b H1 σ s Rm F S e1
  intro Q E hq
  cases op with
  | And =>
   refine wpAny_allTrue_And_cons (w.use fun τ s1 v1 a1 r1=>?_)
   subst r1
   cases v1 with
   | false =>
    refine opjk e' ?_;rintro rfl rfl
    exact hq τ s1 _ a1 rfl
   | true =>
    exact (all_sound I Rm es (F.aft a1) a1.st e').use fun τ' s2 v2 a2 r2=>hq _ _ _ (a1.trans a2) r2
  | Or =>
   refine wpAny_allTrue_Or_cons (w.use fun τ s1 v1 a1 r1=>?_)
   subst r1
   cases v1 with
   | true =>
    refine opjk e' ?_;rintro rfl rfl
    exact hq τ s1 _ a1 rfl
   | false =>
    exact (all_sound I Rm es (F.aft a1) a1.st e').use fun τ' s2 v2 a2 r2=>hq _ _ _ (a1.trans a2) r2
theorem boolOp_sound (I:IHe c call n m) (Rm:Room A m) {op:BoolOp} {pos:Pos}:∀ (es:List Expr) {σ:List Addr} {H H':List AO} {s:Shared} {r:AV},Fr' sc vars env σ s.heap→St c σ H s →
  evBool (ev c.G call n sc vars) op es H=some (r,H')→WP c A (boolOp pos op (evalEach es env)) σ H' s fun τ v=>r.Rel τ v
 | [],σ,H,H',s,r,F,S,e=>by exact nsf e
 | [x],σ,H,H',s,r,F,S,e=>by
  show WP c A (eval x env) σ H' s _
  exact I A sc vars env x H r H' σ s Rm F S e
 | x::y::es,σ,H,H',s,r,F,S,e=>by
  refine za4 e fun v H1 e1 e'=>?_
  refine bind_some e' fun b e2 e'=>?_
  intro Q E hq
  show wpAny _ A (do let v ← eval x env;standAt pos;let t ← holding [v] (truthy v);match op,t with | .And,false | .Or,true=>pure v | _,_=>boolOp pos op (evalEach (y::es) env)) Q E s
  refine wpAny_bind ((I A sc vars env x H v H1 σ s Rm F S e1).use fun τ s1 v1 a1 r1=>wpAny_bind (wpAny_standAt (wpAny_bind (wpAny_holding ((truth_sound a1.st r1 e2).use fun τ' s2 v2 a2 r2=>?_)))))
  subst r2
  have next:evBool (ev c.G call n sc vars) op (y::es) H1=some (r,H')→wpAny (model c.prog c.w) A (boolOp pos op (evalEach (y::es) env)) Q E s2:=fun q =>
   (boolOp_sound I Rm (y::es) ((F.aft a1).aft a2) a2.st q).use fun τ'' s3 v3 a3 r3=>hq _ _ _ ((a1.trans a2).trans (by rw [← List.append_assoc];exact a3)) (by simpa -iota [List.append_assoc] using r3)
  have stop:some (v,H1)=some (r,H')→wpAny (model c.prog c.w) A (pure v1:Sem Value) Q E s2:=fun q=>by
   refine opjk q ?_;rintro rfl rfl
   exact wpAny_pure (hq _ _ _ (a1.trans a2) (by rw [← List.append_assoc];exact r1.mono))
  cases op<;>(first | exact nsf v2 | exact ftf v2 | exact snf v2 | obtain rfl:=sj v2 | refine opjs v2 ?_ | refine op3k v2 ?_;rintro rfl rfl rfl | subst v2 | cases v2)<;>first | exact next e' | exact stop e'
end
section
variable {c:Cx} {A:Around} {σ:List Addr} {H H':List AO} {s:Shared} {env:Env} {sc:Scope} {vars:Vars} {call:CallT} {n m:Nat}
noncomputable def notSlice:Expr→Bool
 | .Slice ..=>false
 | _=>true
theorem subscripted_plain {sl:Expr} {o i:Value} (h:notSlice sl=true):subscripted sl false o i=operate [o,i] (getItem o i):=by
 cases sl<;>first | rfl | exact ftf h
theorem seqIndex_some {j:Int} {len n:Nat} (h:seqIndex? j len=some n):(0≤j∧n=j.toNat∧n < len)∨(j < 0∧-(len:Int)≤j∧n=(j + len).toNat∧n < len):=by
 unfold seqIndex? at h
 dsimp only at h
 by_cases hj:j < 0
 ·rw [if_pos hj] at h
  by_cases q:(decide (0≤j + (len:Int)) && decide (j + (len:Int) < len))=true
  ·rw [if_pos q] at h
   simp -iota only [Bool.and_eq_true,decide_eq_true_eq] at q
   have:=Option.some.inj h
   exact .inr ⟨hj,by omega,this.symm,by omega⟩
  ·rw [if_neg q] at h;exact nsf h
 ·rw [if_neg hj] at h
  by_cases q:(decide (0≤j) && decide (j < (len:Int)))=true
  ·rw [if_pos q] at h
   simp -iota only [Bool.and_eq_true,decide_eq_true_eq] at q
   have:=Option.some.inj h
   exact .inl ⟨by omega,this.symm,by omega⟩
  ·rw [if_neg q] at h;exact nsf h
set_option tactic.hygienic true in
theorem item_sound {o i x:AV} {value sl:Expr} {ov iv:Value} (S:St c σ H s) (ro:o.Rel σ ov) (ri:i.Rel σ iv) (hs:notSlice sl=true) (e:itemAt o i H=some x) :
  WP c A (subscriptTail value sl ov iv) σ H s fun τ v=>x.Rel τ v:=by
 unfold itemAt at e
 split at e
 ·rename_i k j
  refine bind_some e fun xs e1 e=>?_
  refine bind_some e fun n e2 e=>?_
  refine zd9 S ro e1 ?_;rintro l vs ne rfl h1 h2 h3 h4
  obtain ⟨t,rfl⟩:=ri
  obtain ⟨v,hv,rv⟩:=h3.get e
  have hl:=h3.length
  have L:s.heap.IsList l vs.toArray:=⟨_,h2,rfl,ne,rfl⟩
  refine WP.toks S fun Q E hq=>?_
  refine tail_any L.typeIs slot_list_getitem.lookup ?_ (subscripted_plain hs)
  rcases seqIndex_some e2 with ⟨g1,g2,g3⟩ | ⟨g1,g2,g3,g4⟩
  ·subst g2
   exact wpAny_getItem_list L g1 (by omega) (x:=v) (by simpa -iota using hv) (hq v s.toks rv)
  ·subst g3
   exact wpAny_getItem_list_neg L g1 (by simp -iota;omega) (by omega) (x:=v) (by simpa -iota [hl] using hv) (hq v s.toks rv)
 ·rename_i xstr j
  refine ifsk e fun hlen e=>?_
  refine bind_some e fun n e2 e=>?_
  refine bind_some e fun ch e3 e=>?_
  obtain rfl:=sj e
  obtain ⟨t,rfl⟩:=ro
  obtain ⟨u,rfl⟩:=ri
  refine WP.toks S fun Q E hq=>?_
  refine tail_any (typeIs_str s _ _) F.slot_str_getitem.lookup ?_ (subscripted_plain hs)
  refine PySem.P.getItem_str ?_ (c:=ch) ?_ (hq _ _ ⟨_,rfl⟩)
  ·rcases seqIndex_some e2 with ⟨g1,g2,g3⟩ | ⟨g1,g2,g3,g4⟩<;>simp -iota<;>omega
  ·rw [e2];exact e3
 ·exact nsf e
theorem rel_pick {xs:List AV} {vs:List Value} (r:RelL σ xs vs) (is:List Nat):RelL σ (is.filterMap (xs[·]?)) (is.filterMap (vs.toArray[·]?)):=by
 induction is with
 | nil=>trivial
 | cons i is ih =>
  rw [List.filterMap_cons,List.filterMap_cons]
  cases hx:xs[i]? with
  | none =>
   have hv:vs.toArray[i]?=none:=by
    have:=List.getElem?_eq_none_iff.mp hx
    have hl:=r.length
    simp -iota;omega
   rw [hv];exact ih
  | some x =>
   obtain ⟨v,hv,rv⟩:=r.get hx
   have hv':vs.toArray[i]?=some v:=by simpa -iota using hv
   rw [hv'];exact ⟨rv,ih⟩
theorem partValue_of {v:Value} {r:Option Int} (h:IsPart v r) {Γ:Prop} (κ:∀ l:Option (Int×Tok),v=partValue l→l.map (·.1)=r→Γ):Γ:=by
 cases h with
 | none=>exact κ none rfl rfl
 | int i t=>exact κ (some (i,t)) rfl rfl
theorem subscripted_slice {lo up st:Option Expr} {p:Pos} {o i:Value}:∃ ops,subscripted (.Slice lo up st p) false o i=operate ops (getItem o i):=by
 cases st with
 | none=>exact ⟨_,rfl⟩
 | some _=>exact ⟨_,rfl⟩
noncomputable def sliced (s:Shared) (v2 v3 v4:Value):Shared:={ s with heap:=s.heap.push { cls:=.type "slice",data:=.fields #[v2,v3,v4] } }
theorem sliced_keep {v2 v3 v4:Value}:∀ b ob,s.heap.get? b=some ob→(sliced s v2 v3 v4).heap.get? b=some ob:=fun b ob q=>Heap.get?_push_of_some _ q
theorem slice_list {v:Expr} {lo up st:Option Expr} {p:Pos} {a:AV} {v1 v2 v3 v4:Value} {xs:List AV} {l u t:Option Int} {r:AV×List AO} (S:St c σ H s) (r1:a.Rel σ v1) (r2:IsPart v2 l) (r3:IsPart v3 u) (r4:IsPart v4 t) (g1:zah H a=some xs) (h0:¬ t=some 0) (e:newL H (sliceA xs l u t)=some r)
  {Q:Value→Shared→Prop} {E:Value→Shared→Prop} (hq:∀ τ s' v,Aft c σ r.2 s τ s'→r.1.Rel (σ++τ) v→Q v s'):wpAny (model c.prog c.w) A (subscriptTail v (.Slice lo up st p) v1 (.ref s.heap.objs.size)) Q E (sliced s v2 v3 v4):=by
 refine zcm e ?_;rintro hl rfl
 refine zd8 S r1 g1 ?_;rintro b vs ne rfl h2 h3 h4
 obtain ⟨ops,ho⟩:=subscripted_slice (lo:=lo) (up:=up) (st:=st) (p:=p) (o:=.ref b) (i:=.ref s.heap.objs.size)
 have L:(sliced s v2 v3 v4).heap.IsList b vs.toArray:=⟨_,sliced_keep _ _ h2,rfl,ne,rfl⟩
 refine tail_any (s:=sliced s v2 v3 v4) L.typeIs slot_list_getitem.lookup ?_ ho
 have hlen:=h3.length
 refine wpAny_getItem_list_slice L (Heap.IsSliceOf.new ..) r2 r3 r4 h0 ?_ (by rw [List.size_toArray,zbe];omega)
 have a5:Aft c σ H s [] (sliced s v2 v3 v4):=Aft.heap S s.toks sliced_keep
 have S6:=a5.st
 rw [List.append_nil] at S6
 have hr:RelL σ (sliceA xs l u t) (slicePick vs.toArray l u t).toList:=by
  have e0:vs.toArray.size=xs.length:=by rw [List.size_toArray,hlen]
  simp -iota only [slicePick,sliceA,e0]
  exact rel_pick h3 _
 have a6:=Aft.pushList S6 (sliced s v2 v3 v4).toks (its:=slicePick vs.toArray l u t) (vs:=(slicePick vs.toArray l u t).toList) (Array.toArray_toList ..).symm hr hl
 refine hq _ _ _ (a5.trans (by rw [List.append_nil];exact a6)) ⟨_,?_,rfl⟩
 rw [List.nil_append,← S.len]
 exact zav rfl
theorem slice_str {v:Expr} {lo up st:Option Expr} {p:Pos} {x:Str} {tk:Tok} {v2 v3 v4:Value} {l u:Option Int} (S:St c σ H s) (r2:IsPart v2 l) (r3:IsPart v3 u) (r4:IsPart v4 none) (hlen:x.length≤1048576)
  {Q:Value→Shared→Prop} {E:Value→Shared→Prop} (hq:∀ τ s' v,Aft c σ H s τ s'→(AV.str (zdh x l u)).Rel (σ++τ) v→Q v s'):wpAny (model c.prog c.w) A (subscriptTail v (.Slice lo up st p) (.str x tk) (.ref s.heap.objs.size)) Q E (sliced s v2 v3 v4):=by
 refine partValue_of r2 ?_;rintro l' rfl hl'
 refine partValue_of r3 ?_;rintro u' rfl hu'
 cases r4
 obtain ⟨ops,ho⟩:=subscripted_slice (lo:=lo) (up:=up) (st:=st) (p:=p) (o:=.str x tk) (i:=.ref s.heap.objs.size)
 refine tail_any (s:=sliced s _ _ _) (typeIs_str _ x tk) F.slot_str_getitem.lookup ?_ ho
 refine wpAny_getItem_str_slice (l:=l') (u:=u') (st:=none) ⟨_,Heap.get?_push_size _ rfl,rfl,rfl⟩ rfl ?_
 have S6:∀ tk',Aft c σ H s [] { sliced s (partValue l') (partValue u') .none with toks:=tk' }:=fun tk'=>Aft.heap S tk' sliced_keep
 have pk:slicePicked x l' u' none=Builtin.Str.strSliceIndices l u 1 x.length:=by simp -iota [slicePicked,hl',hu']
 unfold sliceMade
 rw [pk]
 simp -iota only [Option.map_none,Option.getD_none,beq_self_eq_true,Bool.true_and]
 by_cases hw:((Builtin.Str.strSliceIndices l u 1 x.length).length == x.length)=true
 ·rw [if_pos hw]
  refine hq _ _ _ (S6 s.toks) ⟨tk,?_⟩
  simp -iota [zdh,hw]
 ·rw [if_neg hw]
  refine ⟨?_,hq _ _ _ (S6 _) ⟨_,by simp -iota [zdh,hw];rfl⟩⟩
  have h1:=PyProof.Rows.indices_len_le l u x.length
  have h2:=List.length_filterMap_le (x.cps[·]?) (Builtin.Str.strSliceIndices l u 1 x.length)
  show ((Builtin.Str.strSliceIndices l u 1 x.length).filterMap (x.cps[·]?)).toArray.size≤_
  rw [List.size_toArray,zbe]
  omega
theorem slice_sound (I:IHe c call n m) (Rm:Room A m) {v:Expr} {lo up st:Option Expr} {p pos:Pos} {r:AV} (Fm:Fr' sc vars env σ s.heap) (S:St c σ H s)
  (e:ev c.G call (n + 1) sc vars (.Subscript v (.Slice lo up st p) pos) H=some (r,H')):WP c A (eval (.Subscript v (.Slice lo up st p) pos) env) σ H' s fun τ v=>r.Rel τ v:=by
 replace e:evSlice (ev c.G call n sc vars) v lo up st H=some (r,H'):=e
 refine za4 e fun o H1 e1 e=>?_
 refine za4 e fun l H2 e2 e=>?_
 refine za4 e fun u H3 e3 e=>?_
 refine za4 e fun t H4 e4 e=>?_
 intro Q E hq
 refine Subscript_ ((I A sc vars env v H o H1 σ s Rm Fm S e1).use fun τ1 s1 v1 a1 r1=>?_)
 refine wpAny_Slice ((part_sound I Rm (Fm.aft a1) a1.st e2).use fun τ2 s2 v2 a2 r2=>?_)
 refine (part_sound I Rm ((Fm.aft a1).aft a2) a2.st e3).use fun τ3 s3 v3 a3 r3=>?_
 refine (part_sound I Rm (((Fm.aft a1).aft a2).aft a3) a3.st e4).use fun τ4 s4 v4 a4 r4=>?_
 have a14:=((a1.trans a2).trans (by rw [← List.append_assoc];exact a3)).trans (by rw [← List.append_assoc,← List.append_assoc];exact a4)
 have hs:σ++τ1++τ2++τ3++τ4=σ++(τ1++τ2++τ3++τ4):=by rw [← List.append_assoc,← List.append_assoc,← List.append_assoc]
 have r1':o.Rel (σ++(τ1++τ2++τ3++τ4)) v1:=hs▸r1.mono.mono.mono
 have hq':∀ τ s' v,Aft c (σ++(τ1++τ2++τ3++τ4)) H' s4 τ s'→r.Rel (σ++(τ1++τ2++τ3++τ4)++τ) v→Q v s':=fun τ s' v a rr=>hq _ s' v (a14.trans a) (List.append_assoc ..▸rr)
 have S4:=a14.st
 clear hq a1 a2 a3 a4 a14 hs r1 e1 e2 e3 e4
 replace e:sliceOf o l u t H4=some (r,H'):=e
 unfold sliceOf at e
 cases es:strOf o with
 | some x =>
  rw [es] at e
  refine zcm e ?_;rintro ⟨rfl,hlen⟩ ee
  obtain ⟨rfl,rfl⟩:=Prod.mk.inj ee
  refine strOf_at es r1' ?_;rintro tk rfl
  exact slice_str S4 r2 r3 r4 hlen hq'
 | none =>
  rw [es] at e
  refine za3 e fun xs g1 e=>?_
  split at e
  ·exact nsf e
  ·rename_i h0
   exact slice_list S4 r1' r2 r3 r4 g1 h0 e hq'
end
section
variable {c:Cx} {A:Around} {σ:List Addr} {H H':List AO} {s:Shared} {env:Env} {sc:Scope} {vars:Vars} {call:CallT} {n m:Nat}
set_option tactic.hygienic true in
theorem upd_list {a:Addr} {k:Nat} {items:Array Value} {nn:Nat} {xs0 xs':List AV} {f:Array Value→Array Value} (S:St c σ H s) (hl0:zah H (.obj k)=some xs0) (ha:σ[k]?=some a)
  (h2:s.heap.get? a=some { cls:=.type "list",dict:=none,data:=.seq items nn,slots:=#[] }) (r:RelL σ xs' (f items).toList) (hl:xs'.length≤1048576) (tk:Nat) :
  Aft c σ (H.set k (.list xs')) s [] { s with heap:=s.heap.update a (Obj.mapSeq f),toks:=tk }:=by
 have hs:Heap.SameBut a s.heap (s.heap.update a (Obj.mapSeq f)):=Heap.SameBut.update ..
 have hg:=IsL.update h2 f
 refine ⟨?_,⟨fun b o hb e=>(hs.2 b fun q=>hb (q▸List.mem_of_getElem? ha)).trans e,fun b o e=>?_,.refl _,rfl⟩,fun _ h=>nomatch h⟩
 ·rw [List.append_nil]
  have hfree:c.nfx≤k:=by
   simp only [zah,zaw] at hl0
   split at hl0
   ·rename_i ys hk;exact S.free hk (fun P q=>nomatch q)
   ·rename_i o ys hk;exact S.free hk (fun P q=>nomatch q)
   ·exact nsf hl0
  exact S.setAt (s':={ s with heap:=s.heap.update a (Obj.mapSeq f),toks:=tk }) hfree ha (fun b ob hb e=>(hs.2 b hb).trans e) ⟨(f items).toList,_,by rw [Array.toArray_toList];exact hg,r,hl⟩
 ·by_cases q:b=a
  ·subst q;exact ⟨_,hg⟩
  ·exact ⟨o,(hs.2 b q).trans e⟩
noncomputable def methTI (name:Str):String×String :=
 if name="append" then ("list","list.append") else if name="insert" then ("list","list.insert") else ("str","str.lower")
theorem ifelse {α:Type} {p:Prop} [Decidable p] {x y:α} {z:α} (h:(if p then x else y)=z):(p∧x=z)∨y=z:=by
 by_cases q:p
 ·rw [if_pos q] at h;exact .inl ⟨q,h⟩
 ·rw [if_neg q] at h;exact .inr h
theorem zdl {σ:List Addr} {x:AV} {xs:List AV} {vs:List Value} (r:RelL σ (x::xs) vs) {Γ:Prop} (κ:∀ v ws,vs=v::ws→x.Rel σ v→RelL σ xs ws→Γ):Γ:=by
 cases vs with
 | nil=>exact r.elim
 | cons v ws=>exact κ v ws rfl r.1 r.2
theorem relL_nil {σ:List Addr} {vs:List Value} (r:RelL σ [] vs):vs=[]:=by
 cases vs with
 | nil=>rfl
 | cons=>exact r.elim
theorem arg1_at {args:List AV} {vs:List Value} {a:AV} (e:arg1 args=some a) (r:RelL σ args vs) {Γ:Prop} (κ:∀ v,vs=[v]→a.Rel σ v→Γ):Γ:=by
 rcases args with _ | ⟨b,_ | _⟩
 ·exact nsf e
 ·obtain rfl:=sj e
  refine zdl r ?_;rintro v _ rfl r1 r
  obtain rfl:=relL_nil r;exact κ v rfl r1
 ·exact nsf e
theorem arg2_at {args:List AV} {vs:List Value} {p:AV×AV} (e:arg2 args=some p) (r:RelL σ args vs) {Γ:Prop} (κ:∀ v u,vs=[v,u]→p.1.Rel σ v→p.2.Rel σ u→Γ):Γ:=by
 rcases args with _ | ⟨b,_ | ⟨d,_ | _⟩⟩
 ·exact nsf e
 ·exact nsf e
 ·obtain rfl:=sj e
  refine zdl r ?_;rintro v _ rfl r1 r
  refine zdl r ?_;rintro u _ rfl r2 r
  obtain rfl:=relL_nil r;exact κ v u rfl r1 r2
 ·exact nsf e
theorem arg3_at {args:List AV} {vs:List Value} {p:AV×AV×AV} (e:arg3 args=some p) (r:RelL σ args vs) {Γ:Prop} (κ:∀ v u w,vs=[v,u,w]→p.1.Rel σ v→p.2.1.Rel σ u→p.2.2.Rel σ w→Γ):Γ:=by
 rcases args with _ | ⟨b,_ | ⟨d,_ | ⟨f,_ | _⟩⟩⟩
 ·exact nsf e
 ·exact nsf e
 ·exact nsf e
 ·obtain rfl:=sj e
  refine zdl r ?_;rintro v _ rfl r1 r
  refine zdl r ?_;rintro u _ rfl r2 r
  refine zdl r ?_;rintro w _ rfl r3 r
  obtain rfl:=relL_nil r;exact κ v u w rfl r1 r2 r3
 ·exact nsf e
theorem objL_some {a:AV} {k:Nat} {xs:List AV} (e:objL H a=some (k,xs)):a=.obj k∧zah H (.obj k)=some xs:=by
 cases a with
 | obj j =>
  refine map_some2 e fun ys e1 q=>?_
  obtain ⟨rfl,rfl⟩:=Prod.mk.inj q
  exact ⟨rfl,e1⟩
 | _=>exact nsf e
theorem obj_of {a:AV} {p:Nat×List AV} (e:objL H a=some p):∃ k,a=.obj k:=⟨p.1,(objL_some e).1⟩
theorem str_of {a:AV} {x:Str} (e:strOf a=some x):a=.str x:=by
 cases a with
 | str y=>obtain rfl:=sj e;rfl
 | _=>exact nsf e
theorem method_static {name:Str} {o:AV} {args:List AV} {r:AV×List AO} (e:method name o args H=some r) {Γ:Prop} (κ:PlainAttrs (methTI name).1→Slot (methTI name).1 name (methTI name).2→typeOf (.builtin (methTI name).2)=pure (.type "method_descriptor")→((((methTI name).1="list"∧∃ k,o=.obj k)∨((methTI name).1="str"∧∃ x,o=.str x)))→Γ):Γ:=by
 rcases ifelse e with ⟨rfl,e⟩ | e
 ·refine za3 e fun p ep _=>?_
  exact κ F.plainAttrs_list F.slot_list_append F.type_list_append (.inl ⟨rfl,obj_of ep⟩)
 rcases ifelse e with ⟨rfl,e⟩ | e
 ·refine za3 e fun p ep _=>?_
  exact κ F.plainAttrs_list F.slot_list_insert F.type_list_insert (.inl ⟨rfl,obj_of ep⟩)
 rcases ifelse e with ⟨rfl,e⟩ | e
 ·refine za3 e fun p ep _=>?_
  exact κ F.plainAttrs_str F.slot_str_lower F.type_str_lower (.inr ⟨rfl,_,str_of ep⟩)
 ·exact nsf e
section
variable {o:AV} {r:AV×List AO} {args:List AV} {ov:Value} {vs:List Value} (S:St c σ H s) (ro:o.Rel σ ov) (ra:RelL σ args vs)
include S ro ra
theorem mAppend_ok (e:mAppend o args H=some r):WP c A (PySem.call (.builtin "list.append") (ov::vs)) σ r.2 s fun τ v=>r.1.Rel τ v:=by
 refine zdp e fun k xs ep e=>?_
 refine za3 e fun x ex e=>?_
 refine zcm e ?_;rintro hl rfl
 obtain ⟨rfl,e1⟩:=objL_some ep
 refine arg1_at ex ra ?_;rintro v rfl rv
 refine zd9 S ro e1 ?_;rintro a ws nn rfl h1 h2 h3 h4
 intro Q E hq
 have hlen:=h3.length
 have T:s.TypeIs (.ref a) "list":=⟨_,h2,rfl⟩
 have hl:xs.length < 1048576:=hl
 refine call_meets F.slot_list_append T F.entry_list_append (F.args_list_append_2 _ _) (list_append a ws.toArray nn v (by rw [List.size_toArray,zbe];omega)) ⟨h2,?_⟩
 exact hq [] _ _ (upd_list S e1 h1 h2 (f:=fun x_1=>x_1.push v) (by rw [List.push_toArray];exact h3.append (ys:=[x]) (us:=[v]) ⟨rv,trivial⟩) (by rw [List.length_append];exact hl) s.toks) rfl
theorem insert_take {ws:List Value} {i:Int} {v:Value} (h0:0≤i) (hn:i≤ws.length) :
  (have k:=if i < 0 then (i + ((ws.toArray.size:Nat):Int)).toNat else min i.toNat ws.toArray.size;(ws.toArray.extract 0 k).push v++ws.toArray.extract k).toList=ws.take i.toNat++v::ws.drop i.toNat:=by
 have hk:(if i < 0 then (i + ((ws.toArray.size:Nat):Int)).toNat else min i.toNat ws.toArray.size)=i.toNat:=by
  rw [if_neg (by omega),List.size_toArray];omega
 dsimp only
 rw [hk]
 simp -iota [List.extract_eq_take_drop]
 rw [List.take_of_length_le (by simp -iota)]
theorem mInsert_ok (e:mInsert o args H=some r):WP c A (PySem.call (.builtin "list.insert") (ov::vs)) σ r.2 s fun τ v=>r.1.Rel τ v:=by
 refine zdp e fun k xs ep e=>?_
 refine zdp e fun b x ex e=>?_
 refine za3 e fun i ei e=>?_
 refine zcm e ?_;rintro hc rfl
 obtain ⟨rfl,e1⟩:=objL_some ep
 refine arg2_at ex ra ?_;rintro u v rfl ru rv
 refine zax ei ru ?_;rintro t rfl
 refine and4k hc fun hc c3=>?_
 refine and4k hc fun c1 c2=>?_
 have c1:xs.length < 1048576:=of_decide_eq_true c1
 have c2:0≤i:=of_decide_eq_true c2
 have c3:i≤xs.length:=of_decide_eq_true c3
 refine zd9 S ro e1 ?_;rintro a ws nn rfl h1 h2 h3 h4
 intro Q E hq
 have hlen:=h3.length
 have T:s.TypeIs (.ref a) "list":=⟨_,h2,rfl⟩
 refine call_meets F.slot_list_insert T F.entry_list_insert (F.args_list_insert_3 _ _ _) (AutoListH.list_insert_list_int_val_1 a ws.toArray nn i t v (by simp -iota [Builtin.List.listFitsIndex];omega) (by rw [List.size_toArray,zbe];omega)) ⟨h2,?_⟩
 refine hq [] _ _ (upd_list S e1 h1 h2 (f:=fun xs=>have k:=if i < 0 then (i + ((xs.size:Nat):Int)).toNat else min i.toNat xs.size;(xs.extract 0 k).push v++xs.extract k) ?_ (by simp -iota;omega) s.toks) rfl
 rw [insert_take S ro ra c2 (by omega)]
 exact (h3.take _).append ⟨rv,h3.drop _⟩
theorem mLower_ok (e:mLower o args H=some r):WP c A (PySem.call (.builtin "str.lower") (ov::vs)) σ r.2 s fun τ v=>r.1.Rel τ v:=by
 refine za3 e fun x ex e=>?_
 refine strOf_at ex ro ?_;rintro t rfl
 cases args with
 | cons _ _=>exact nsf e
 | nil =>
  refine zcm e ?_;rintro hl rfl
  cases vs with
  | cons _ _=>exact ra.elim
  | nil=>exact WP.toks S fun Q E hq=>SCL.lower (by omega) fun _=>hq _ _ ⟨_,rfl⟩
end
theorem method_raw {name:Str} {o r:AV} {args:List AV} {ov:Value} {vs:List Value} (S:St c σ H s) (ro:o.Rel σ ov) (ra:RelL σ args vs) (e:method name o args H=some (r,H')) :
  WP c A (PySem.call (.builtin (methTI name).2) (ov::vs)) σ H' s fun τ v=>r.Rel τ v:=by
 rcases ifelse e with ⟨rfl,e⟩ | e
 ·exact mAppend_ok S ro ra e
 rcases ifelse e with ⟨rfl,e⟩ | e
 ·exact mInsert_ok S ro ra e
 rcases ifelse e with ⟨rfl,e⟩ | e
 ·exact mLower_ok S ro ra e
 ·exact nsf e
end
section
variable {c:Cx} {A:Around} {σ:List Addr} {H H':List AO} {s:Shared} {env:Env} {sc sc':Scope} {vars:Vars} {call:CallT} {n m:Nat}
theorem lookup_relabel {env:Env}:∀ (names:List (Str×NameKind)) (x:Str),
  (names.map fun (n,k)=>if (k == NameKind.free && env.scope.kind == .function && env.kindOf n == some .cell) then (n,NameKind.cell) else (n,k)).lookup x =
   (names.lookup x).map fun k=>if (k == NameKind.free && env.scope.kind == .function && env.kindOf x == some .cell) then NameKind.cell else k
 | [],_=>rfl
 | (y,k)::r,x=>by
  have ih:=lookup_relabel (env:=env) r x
  rw [List.map_cons]
  by_cases hx:x=y
  ·subst hx
   by_cases hc:(k == NameKind.free && env.scope.kind == .function && env.kindOf x == some .cell)=true
   ·simp only [List.lookup_cons,beq_self_eq_true,hc,if_true,Option.map_some]
   ·simp only [List.lookup_cons,beq_self_eq_true,hc,Option.map_some]
    simp
  ·have hb:(x == y)=false:=beq_eq_false_iff_ne.mpr hx
   by_cases hc:(k == NameKind.free && env.scope.kind == .function && env.kindOf y == some .cell)=true
   ·simp only [List.lookup_cons,hb,hc,if_true];exact ih
   ·dsimp only;rw [if_neg hc];simp only [List.lookup_cons,hb];exact ih
theorem closure_aux {env:Env}:∀ (names:List (Str×NameKind)) (acc:List (Str×Addr)),(∀ y,(y,NameKind.free)∈names→∃ a,env.cells.lookup y=some a) →
  (∀ x a,acc.lookup x=some a→env.cells.lookup x=some a) →
  ∃ cl,(forIn names acc (fun (x:Str×NameKind) (cs:List (Str×Addr))=>(if (x.2 == NameKind.free)=true then do let a ← cellOf env x.1;pure (ForInStep.yield ((x.1,a)::cs)) else pure (ForInStep.yield cs):Sem _)):Sem (List (Str×Addr)))=pure cl ∧
   (∀ x a,cl.lookup x=some a→env.cells.lookup x=some a)∧(∀ y,((y,NameKind.free)∈names∨∃ a,acc.lookup y=some a)→∃ a,cl.lookup y=some a)
 | [],acc,_,ha=>⟨acc,by simp -iota,ha,fun y h=>by simpa -iota using h⟩
 | (y,k)::r,acc,h,hacc=>by
  rw [List.forIn_cons]
  by_cases hk:(k == NameKind.free)=true
  ·have hk':k=.free:=by simpa -iota using hk
   subst hk'
   obtain ⟨a,ha⟩:=h y (List.mem_cons_self ..)
   have hc:cellOf env y=pure a:=by unfold cellOf;rw [ha]
   obtain ⟨cl,e1,e2,e3⟩:=closure_aux r ((y,a)::acc) (fun z hz=>h z (List.mem_cons_of_mem _ hz)) (fun x b e=>by
    by_cases hx:x=y
    ·subst hx;simp -iota at e;subst e;exact ha
    ·have hb:(x == y)=false:=beq_eq_false_iff_ne.mpr hx
     rw [List.lookup_cons,hb] at e;exact hacc x b e)
   refine ⟨cl,?_,e2,fun z hz=>e3 z ?_⟩
   ·simp -iota only [hk,if_true,hc,pure_bind];exact e1
   ·by_cases hx:z=y
    ·subst hx;exact .inr ⟨a,by simp -iota⟩
    ·have hb:(z == y)=false:=beq_eq_false_iff_ne.mpr hx
     rcases hz with hz | ⟨b,hz⟩
     ·rcases List.mem_cons.mp hz with q | q
      ·cases q;exact absurd rfl hx
      ·exact .inl q
     ·exact .inr ⟨b,by rw [List.lookup_cons,hb];exact hz⟩
  ·obtain ⟨cl,e1,e2,e3⟩:=closure_aux r acc (fun z hz=>h z (List.mem_cons_of_mem _ hz)) hacc
   refine ⟨cl,?_,e2,fun z hz=>e3 z ?_⟩
   ·rw [if_neg hk,pure_bind];exact e1
   ·rcases hz with hz | hz
    ·rcases List.mem_cons.mp hz with q | q
     ·cases q;exact absurd rfl hk
     ·exact .inl q
    ·exact .inr hz
theorem closure_pure {env:Env} {scope:Scope} (h:∀ y,(y,NameKind.free)∈scope.names→∃ a,env.cells.lookup y=some a) {Γ:Prop} (κ:∀ cl,closureFor scope env=pure cl→((∀ x a,cl.lookup x=some a→env.cells.lookup x=some a))→((∀ y,(y,NameKind.free)∈scope.names→∃ a,cl.lookup y=some a))→Γ):Γ:=by
 obtain ⟨cl,e1,e2,e3⟩:=closure_aux scope.names [] h (fun x a e=>by simp -iota at e)
 refine κ cl ?_ e2 (fun y hy=>e3 y (.inl hy))
 unfold closureFor
 dsimp only
 rw [show (forIn scope.names ([]:List (Str×Addr)) fun (x:Str×NameKind) (r:List (Str×Addr))=>(if (x.2 == NameKind.free)=true then do let a ← cellOf env x.1;pure (ForInStep.yield ((x.1,a)::r)) else pure (ForInStep.yield r):Sem _))=pure cl from e1]
 rfl
theorem tests_sound (I:IHt c call n m) (Rm:Room A m):∀ (es:List Expr) {σ:List Addr} {H H':List AO} {s:Shared} {r:Bool},Fr' sc vars env σ s.heap→St c σ H s →
  tstAll (tst c.G call n sc vars) .And es H=some (r,H') →
  WP c A (forIn es true fun c r=>if r=true then do let ok ← isTrue c env (eval c env);pure (ForInStep.yield ok) else pure (ForInStep.yield r)) σ H' s fun _ v=>v=r
 | [],σ,H,H',s,r,F,S,e=>by
  refine opjs e ?_
  rw [List.forIn_nil]
  exact WP.pure S rfl
 | x::es,σ,H,H',s,r,F,S,e=>by
  refine za4 e fun b H1 e1 e'=>?_
  have w:=I A sc vars env x H b H1 σ s Rm F S e1
  rw [List.forIn_cons]
  intro Q E hq
  simp -iota only [if_true]
  refine wpAny_bind (wpAny_bind (w.use fun τ s1 v1 a1 r1=>wpAny_pure ?_))
  subst r1
  cases v1 with
  | false =>
   refine opjk e' ?_;rintro rfl rfl
   have:∀ es':List Expr,(forIn es' false fun c r=>(if r=true then do let ok ← isTrue c env (eval c env);pure (ForInStep.yield ok) else pure (ForInStep.yield r):Sem _))=pure false:=by
    intro es'
    induction es' with
    | nil=>rw [List.forIn_nil]
    | cons y es' ih=>rw [List.forIn_cons];simp -iota only [Bool.false_eq_true,if_false,pure_bind];exact ih
   dsimp only
   rw [this]
   exact wpAny_pure (hq τ s1 _ a1 rfl)
  | true=>exact (tests_sound I Rm es (F.aft a1) a1.st e').use fun τ' s2 v2 a2 r2=>hq _ _ _ (a1.trans a2) r2
end
section
variable {c:Cx} {A:Around} {σ:List Addr} {H H':List AO} {s:Shared} {env:Env} {sc sc':Scope} {vars:Vars} {call:CallT} {n m:Nat}
theorem zag {α:Type} {l:List (Str×α)} {x:Str} {a:α} (h:l.lookup x=some a):(x,a)∈l:=PySem.mem_of_lookup h
structure CompOk (sc sc':Scope) (x:Str):Prop where
 kind:sc'.kind=.function
 loc:sc'.names.lookup x=some .local
 nocell:∀ y∈sc'.names,y.2≠.cell
 nd:x≠(".0":Str)
 only:∀ y∈sc'.names,y.2=.local→y.1=x∨y.1=(".0":Str)
 locals:∀ y∈sc'.names,y.2=.local→sc'.names.lookup y.1=some .local
 free:∀ y,(y,NameKind.free)∈sc'.names→(sc.names.lookup y=some .cell∨sc.names.lookup y=some .free)∧(y == ("__classdict__":Str))=false
theorem compOk_iff {x:Str} (h:compOk sc sc' x=true):CompOk sc sc' x:=by
 unfold compOk at h
 simp -iota only [Bool.and_eq_true,beq_iff_eq,bne_iff_ne,ne_eq] at h
 obtain ⟨⟨⟨h1,h2⟩,h4⟩,h3⟩:=h
 have g:=List.all_eq_true.mp h3
 refine ⟨h1,h2,fun y hy=>?_,h4,fun y hy e=>?_,fun y hy e=>?_,fun y hy=>?_⟩
 ·have:=g y hy
  simp -iota only [Bool.and_eq_true,bne_iff_ne,ne_eq] at this
  exact this.1.1
 ·have:=g y hy
  simp -iota only [Bool.and_eq_true,Bool.or_eq_true,bne_iff_ne,ne_eq,beq_iff_eq] at this
  exact (this.1.2.resolve_left fun q=>q e).2
 ·have:=g y hy
  simp -iota only [Bool.and_eq_true,Bool.or_eq_true,bne_iff_ne,ne_eq,beq_iff_eq] at this
  exact (this.1.2.resolve_left fun q=>q e).1
 ·have:=g _ hy
  simp -iota only [Bool.and_eq_true,Bool.or_eq_true,bne_iff_ne,ne_eq,beq_iff_eq] at this
  have q:=this.2.resolve_left (fun q=>by simp -iota at q)
  exact ⟨q.1.1,by simpa -iota using q.1.2⟩
theorem kind_inner {env:Env} {x:Str} {cl:List (Str×Addr)} {C:Addr}:(compEnvC sc' cl C env).kindOf x=(sc'.names.lookup x).map fun k=>if (k == NameKind.free && env.scope.kind == .function && env.kindOf x == some .cell) then NameKind.cell else k :=
 lookup_relabel sc'.names x
theorem inner_frame {x:Str} {cl:List (Str×Addr)} {C:Addr} {τ:List Addr} {s1:Shared} {mm:Str→Option Value} {v:Value} {av:AV} {Hi:List AO} (F:Fr' sc vars env σ s1.heap) (K:CompOk sc sc' x)
  (hcl1:∀ x a,cl.lookup x=some a→env.cells.lookup x=some a) (hcl2:∀ y,(y,NameKind.free)∈sc'.names→∃ a,cl.lookup y=some a)
  (a:Aft c σ Hi s1 τ s) (hC:C∉σ++τ) (hn:s.heap.Ns C mm) (hx:mm x=some v) (r:av.Rel (σ++τ) v) :
  Fr' sc' ((key x,av)::vars) (compEnvC sc' cl C env) (σ++τ) s.heap:=by
 have keepC:∀ y b o,env.cells.lookup y=some b→s1.heap.get? b=some o→s.heap.get? b=some o:=fun y b o e q=>a.pres.keep b o (F.outC y b e) q
 refine ⟨⟨K.kind,F.glob,F.blt,fun y hy=>?_,fun y w hw hv=>?_,⟨mm,hn⟩,hC,fun y b e q=>?_,?_⟩,fun y b e=>?_,fun y hy=>?_,fun y hy=>?_⟩
 ·rw [kind_inner,hy];rfl
 ·rw [zan] at hw
  by_cases hyx:y=x
  ·subst hyx
   rw [if_pos rfl] at hw
   obtain rfl:=sj hw
   refine .inl ⟨?_,mm,v,hn,hx,r⟩
   rw [kind_inner,K.loc];rfl
  ·rw [if_neg (fun q=>hyx (key_inj q).symm)] at hw
   have h2:=hw
   have h1':sc'.names.lookup y=some .free:=by
    cases q:sc'.names.lookup y with
    | none=>rw [q] at hv;exact ftf hv
    | some kk =>
     cases kk with
     | «local» =>
      rcases K.only _ (zag q) rfl with q' | q'
      ·exact absurd q' hyx
      ·subst q';rw [F.nodot] at h2;exact nsf h2
     | cell=>exact absurd rfl (K.nocell _ (zag q))
     | free=>rfl
     | _=>rw [q] at hv;(first | exact nsf hv | exact ftf hv)
   obtain ⟨g1,g2⟩:=K.free y (zag h1')
   obtain ⟨ca,hca⟩:=hcl2 y (zag h1')
   have hce:=hcl1 y ca hca
   refine .inr ⟨?_,?_⟩
   ·rw [kind_inner,h1']
    rcases F.ck y g1 with q | q
    ·left;simp -iota [q,F.kind]
    ·right;simp -iota [q,g2]
   ·have V:=F.vk y w h2 (by rcases g1 with q | q<;>rw [q]<;>rfl)
    rcases V with ⟨k,_⟩ | ⟨_,b,u,hb1,⟨o,ho,hd⟩,r'⟩
    ·rcases F.ck y g1 with q | q<;>rw [q] at k<;>(first | exact nsf k | exact ftf k | exact snf k | obtain rfl:=sj k | refine opjs k ?_ | refine op3k k ?_;rintro rfl rfl rfl | subst k | cases k)
    ·rw [hce] at hb1;obtain rfl:=sj hb1
     exact ⟨ca,u,hca,⟨o,keepC y ca o hce ho,hd⟩,r'.mono⟩
 ·have e':=hcl1 y b e
  rcases List.mem_append.mp q with q | q
  ·exact F.outC y b e' q
  ·obtain ⟨u,o,ho,hd⟩:=F.up y b e'
   rw [a.new b q] at ho;exact nsf ho
 ·rw [zan,if_neg (fun q=>K.nd (key_inj q))]
  exact F.nodot
 ·obtain ⟨u,o,ho,hd⟩:=F.up y b (hcl1 y b e)
  exact ⟨u,o,keepC y b o (hcl1 y b e) ho,hd⟩
 ·rcases hy with q | q
  ·exact absurd rfl (K.nocell _ (zag q))
  ·exact hcl2 y (zag q)
 ·rcases hy with q | q
  ·exact absurd rfl (K.nocell _ (zag q))
  ·rw [kind_inner,q]
   by_cases hk:(env.kindOf y == some NameKind.cell)=true
   ·left;simp -iota [hk,F.kind]
   ·right;simp -iota [hk]
theorem Aft.move {τ:List Addr} {s1:Shared} {H1 Hi:List AO} {I:Addr} {h':Heap} (S1:St c σ H1 s1) (a:Aft c σ Hi s1 τ s) (hI:s1.heap.get? I=none) (hIo:I∉σ++τ)
  (hk:∀ b o,b≠I→s.heap.get? b=some o→h'.get? b=some o) (tk:Nat):Aft c σ Hi s1 τ { s with heap:=h',toks:=tk }:=by
 have ne:∀ b o,s1.heap.get? b=some o→b≠I:=fun b o e q=>by rw [q,hI] at e;exact nsf e
 refine ⟨⟨fun b o hb e=>hk b o (ne b o (S1.base b o hb e)) (a.st.base b o hb e),a.st.len,fun k b o e e'=>?_,a.st.nodup,a.st.fresh,a.st.fix,a.st.fixed,fun b o e=>let ⟨o',e'⟩:=S1.live b o e;let ⟨o'',e''⟩:=a.pres.there b o' e';⟨o'',hk b o'' (ne b o' e') e''⟩,a.st.nle⟩,⟨fun b o hb e=>hk b o (ne b o e) (a.pres.keep b o hb e),fun b o e=>?_,a.pres.gens,a.pres.os⟩,a.new⟩
 ·exact (a.st.objs k b o e e').keep fun ob q=>hk b ob (fun z=>hIo (z▸List.mem_of_getElem? e)) q
 ·obtain ⟨o',e'⟩:=a.pres.there b o e
  exact ⟨o',hk b o' (ne b o e) e'⟩
noncomputable def CPos (c:Cx) (σ:List Addr) (s1:Shared) (D I C:Addr) (it:AV) (isL:Bool) (all:List AV) (τ:List Addr) (i:Nat) (Hi:List AO) (s:Shared):Prop :=
 Aft c σ Hi s1 (D::τ) s∧ItAt (σ++D::τ) s.heap I it isL all i∧(∃ mm,s.heap.Ns C mm)∧I∉σ++D::τ∧C∉σ++D::τ
noncomputable def CInv (c:Cx) (σ:List Addr) (s1:Shared) (D I C:Addr) (it:AV) (isL:Bool) (all:List AV) (f:AV→List AO→Option (Option AV×List AO)) (k:Nat) (Hfin:List AO) (cnt:Nat) (s:Shared):Prop :=
 ∃ xs i τ Hi,cnt=xs.length∧xs=all.drop i∧CPos c σ s1 D I C it isL all τ i Hi s∧compGo f it isL all k xs Hi=some Hfin
section
variable {I D C:Addr} {it:AV} {isL:Bool} {all:List AV} {s1:Shared} {H1 Hi Hfin:List AO} {τ:List Addr} {i:Nat}
theorem notMem_app {a:Addr} {σ τ:List Addr} (h1:a∉σ) (h2:a∉τ):a∉σ++τ:=fun q=>(List.mem_append.mp q).elim h1 h2
theorem CPos.on {τ':List Addr} {s':Shared} {Hx:List AO} (P:CPos c σ s1 D I C it isL all τ i Hi s) (b:Aft c (σ++D::τ) Hx s τ' s'):CPos c σ s1 D I C it isL all (τ++τ') i Hx s':=by
 obtain ⟨p1,p2,⟨mm,p3⟩,p4,p5⟩:=P
 have e0:σ++D::(τ++τ')=(σ++D::τ)++τ':=by rw [List.append_assoc];rfl
 have nI:I∉τ':=fun q=>by obtain ⟨o,ho⟩:=p2.there;rw [b.new I q] at ho;exact nsf ho
 have nC:C∉τ':=fun q=>by obtain ⟨o,_,_,ho,_⟩:=p3;rw [b.new C q] at ho;exact nsf ho
 refine ⟨p1.trans b,?_,⟨mm,zc2 p3 fun o q=>b.pres.keep C o p5 q⟩,?_,?_⟩
 ·rw [e0];exact p2.keep fun o q=>b.pres.keep I o p4 q
 ·rw [e0];exact notMem_app p4 nI
 ·rw [e0];exact notMem_app p5 nC
theorem CPos.push {k:Nat} {acc:List AV} {r:AV} {v:Value} {Q:Value→Shared→Prop} {E:Value→Shared→Prop} (P:CPos c σ s1 D I C it isL all τ i Hi s) (hk:k=σ.length) (e4:zah Hi (.obj k)=some acc) (hacc:acc.length < 1048576) (rv:r.Rel (σ++D::τ) v)
  (hq:∀ s',CPos c σ s1 D I C it isL all τ i (Hi.set k (.list (acc++[r]))) s'→Q .none s'):wpAny (model c.prog c.w) A (PySem.call (.builtin "list.append") [.ref D,v]) Q E s:=by
 have hD:(σ++D::τ)[k]?=some D:=by rw [hk,List.getElem?_append_right (Nat.le_refl _),Nat.sub_self];rfl
 refine zd9 P.1.st (v:=.ref D) ⟨D,hD,rfl⟩ e4 fun d ws nn ed k1 k2 k3 k4=>?_
 cases ed
 have hwl:=k3.length
 have T:s.TypeIs (.ref D) "list":=⟨_,k2,rfl⟩
 refine call_meets PySem.F.slot_list_append T PySem.F.entry_list_append (PySem.F.args_list_append_2 _ _) (list_append D ws.toArray nn v (by rw [List.size_toArray,hwl,zbe];omega)) ⟨k2,?_⟩
 have a5:=upd_list (tk:=s.toks) P.1.st e4 hD k2 (f:=fun x_1=>x_1.push v) (xs':=acc++[r]) (by rw [List.push_toArray];exact k3.append (ys:=[r]) (us:=[v]) ⟨rv,trivial⟩) (by rw [List.length_append];exact hacc)
 have:=P.on a5
 rw [List.append_nil] at this
 exact hq _ this
end
theorem comp_loop {elt iter:Expr} {x:Str} {px pos:Pos} {ifs:List Expr} {cl:List (Str×Addr)} {I D C:Addr} {it:AV} {isL:Bool} {all:List AV} {s1:Shared} {H1 Hfin:List AO} {RR:Result→Shared→Prop}
  (Ie:IHe c call n m) (It:IHt c call n m) (Rm:Room A m) (F:Fr' sc vars env σ s1.heap) (K:CompOk sc sc' x)
  (hcl1:∀ x a,cl.lookup x=some a→env.cells.lookup x=some a) (hcl2:∀ y,(y,NameKind.free)∈sc'.names→∃ a,cl.lookup y=some a)
  (S1:St c σ H1 s1) (hI:s1.heap.get? I=none) (hCn:s1.heap.get? C=none) (hIC:I≠C)
  (hRR:∀ τ' se,Aft c σ Hfin s1 (D::τ') se→(∃ mm,se.heap.Ns C mm)→C∉σ++D::τ'→RR (.ok .next) se) (hlen:H1.length=σ.length) (cnt:Nat) (s:Shared)
  (inv:CInv c σ s1 D I C it isL all (compBody (ev c.G call n sc') (tst c.G call n sc') vars x ifs elt) H1.length Hfin cnt s) :
   codeAny (model c.prog c.w) A (.compLoop (.ListComp elt [⟨.Name x px,iter,ifs,0⟩] sc' pos) 0 (.ref I) (.ref D) (compEnvC sc' cl C env)) RR s:=by
 refine codeAny_compLoop_tests (CInv c σ s1 D I C it isL all (compBody (ev c.G call n sc') (tst c.G call n sc') vars x ifs elt) H1.length Hfin) ?_ cnt inv
 clear inv cnt s
 rintro cnt s ⟨xs,i,τ,Hi,rfl,hxs,P,hgo⟩
 cases xs with
 | nil =>
  obtain ⟨hst,hgo⟩:=Mine.ifs hgo
  obtain rfl:=sj hgo
  have hnone:all[i]?=none:=by
   rw [List.getElem?_eq_none_iff]
   exact List.drop_eq_nil_iff.mp hxs.symm
  obtain ⟨p1,p2,⟨mm,p3⟩,p4,p5⟩:=P
  refine iter_end Rm.handled p1.st p2 hst hnone fun h' hx=>?_
  exact hRR τ { s with heap:=h' } (p1.move S1 hI p4 (fun b o hb e=>hx b o hb e) s.toks) ⟨mm,zc2 p3 fun o q=>hx C o (Ne.symm hIC) q⟩ p5
 | cons x0 xs =>
  obtain ⟨hst,hgo⟩:=Mine.ifs hgo
  have hget:all[i]?=some x0:=by
   have:=List.getElem?_drop (xs:=all) (i:=i) (j:=0)
   rw [← hxs] at this
   exact this.symm
  have hxs':xs=all.drop (i + 1):=by
   rw [← List.drop_drop,← hxs];rfl
  refine za4 hgo fun y H2 e1 hgo=>?_
  refine za4 e1 fun ok H3 e2 e1=>?_
  obtain ⟨p1,p2,⟨mm,p3⟩,p4,p5⟩:=P
  refine iter_next p1.st p2 hst hget fun v h' tk rv hit' hsb=>?_
  have a1:Aft c σ Hi s1 (D::τ) { s with heap:=h',toks:=tk }:=p1.move S1 hI p4 (fun b o hb e=>(hsb.2 b hb).trans e) tk
  have hns1:h'.Ns C mm:=zc2 p3 fun o q=>(hsb.2 C (Ne.symm hIC)).trans q
  refine wpAny_assign_Name (wpAny_storeName_local (by rw [kind_inner,K.loc];rfl) hns1 (fun h2 hn2 hs2=>?_) (by show (sc'.kind == .class || (sc'.kind == .module && _))=false;rw [K.kind];rfl))
  have P2:CPos c σ s1 D I C it isL all τ (i + 1) Hi { s with heap:=h2,toks:=tk + 1 }:=by
   refine ⟨a1.move S1 hCn p5 (fun b o hb e=>(hs2.2 b hb).trans e) (tk + 1),?_,⟨_,hn2⟩,p4,p5⟩
   have:=hit'.keep (τ:=[]) (h':=h2) (fun o q=>(hs2.2 I hIC).trans q)
   rw [List.append_nil] at this
   exact this
  clear p1 p2 p3 p4 hsb hs2 hns1 hit' a1
  have F2:Fr' sc' ((key x,x0)::vars) (compEnvC sc' cl C env) (σ++D::τ) h2 :=
   inner_frame (s:={ s with heap:=h2,toks:=tk + 1 }) F K hcl1 hcl2 P2.1 p5 hn2 (if_pos rfl) rv
  clear p5 hn2 rv
  refine (tests_sound It Rm ifs F2 P2.1.st e2).use fun τ3 s3 v3 a3 r3=>?_
  subst r3
  have P3:=P2.on a3
  cases v3 with
  | false =>
   refine opjk e1 ?_;rintro rfl rfl
   exact ⟨xs.length,Nat.lt_succ_self _,xs,i + 1,_,_,rfl,hxs',P3,hgo⟩
  | true =>
   refine za4 e1 fun r H4 e3 e1=>?_
   refine opjk e1 ?_;rintro rfl rfl
   refine bind_some hgo fun acc e4 hgo=>?_
   obtain ⟨hacc,hgo⟩:=Mine.ifs hgo
   have F3:Fr' sc' ((key x,x0)::vars) (compEnvC sc' cl C env) (σ++D::(τ++τ3)) s3.heap:=by
    have:=F2.aft a3
    rw [List.append_assoc] at this
    exact this
   refine (Ie A sc' _ _ elt H3 r _ _ s3 Rm F3 P3.1.st e3).use fun τ4 s4 v4 a4 r4=>?_
   refine (P3.on a4).push hlen e4 hacc ?_ fun s' P5=>⟨xs.length,Nat.lt_succ_self _,xs,i + 1,_,_,rfl,hxs',P5,hgo⟩
   rw [List.append_assoc] at r4
   exact r4
end
section
variable {c:Cx} {A:Around} {σ:List Addr} {H H':List AO} {s:Shared} {env:Env} {sc sc':Scope} {vars:Vars} {call:CallT} {n m:Nat}
theorem folded_pure {iter:Expr} (h:notSetD iter=true) (x:Value):foldedSetIterable iter env x=pure x:=by
 cases iter<;>first | rfl | exact ftf h
theorem iter_self {it:AV} {isL:Bool} {all:List AV} {I:Addr} {i:Nat} (r:ItAt σ s.heap I it isL all i) {Q:Value→Shared→Prop} {E:Value→Shared→Prop} (h:Q (.ref I) s) :
  wpAny (model c.prog c.w) A (pyIter (.ref I)) Q E s:=by
 cases isL with
 | true=>obtain ⟨k,l,h1,h2,h3⟩:=r;exact wpAny_pyIter_listiter h3 h
 | false=>obtain ⟨lo,hi,st,h1,h2,h3⟩:=r;exact wpAny_pyIter_rangeiter h3 h
theorem comp_gen {elt iter:Expr} {x:Str} {px pos p0:Pos} {ifs:List Expr} {use:Option (Value→Sem Unit)} {it:AV} {isL:Bool} {all:List AV} {H1 Hfin:List AO} {Q:Value→Shared→Prop} {E:Value→Shared→Prop}
  (Ie:IHe c call n m) (It:IHt c call n m) (Rm:Room A m) (F:Fr' sc vars env σ s.heap) (S:St c σ H s) (hok:compOk sc sc' x=true) (hset:notSetD iter=true)
  (e1:ev c.G call n sc vars iter H=some (it,H1)) (e2:zdo H1 it=some (isL,all))
  (e3:compGo (compBody (ev c.G call n sc') (tst c.G call n sc') vars x ifs elt) it isL all H1.length all (H1++[.list []])=some Hfin)
  (hK:∀ τ C D se,Aft c σ Hfin s τ se→(AV.obj H1.length).Rel (σ++τ) (.ref D)→(∃ mm,se.heap.Ns C mm)→C∉σ++τ→s.heap.get? C=none→compPost (model c.prog c.w) A E use Q (.ref D) C (.ok .next) se) :
  wpAny (model c.prog c.w) A (comprehension (.ListComp elt [⟨.Name x px,iter,ifs,0⟩] sc' pos) sc' env p0 (newList []) false (eval iter env) use) Q E s:=by
 have K:=compOk_iff hok
 refine closure_pure (env:=env) (scope:=sc') (fun y hy=>F.all y (K.free y hy).1) fun cl hcl hcl1 hcl2=>?_
 refine wpAny_comprehension_free (g:=⟨.Name x px,iter,ifs,0⟩) (gs:=[]) rfl (folded_pure hset) hcl K.kind (fun y hy e=>K.locals y hy e) ?_
 refine (Ie A sc vars env iter H it H1 σ s Rm F S e1).use fun τ1 s1 v1 a1 r1=>?_
 have F1:=F.aft a1
 have S1:=a1.st
 refine iter_start S1 r1 e2 fun I h2 hI hk2 hit=>?_
 have hlen:H1.length=(σ++τ1).length:=S1.len.symm
 refine wpAny_newList (items:=[]) ?_ (by simp -iota [zbe])
 generalize hD:({ s1 with heap:=h2 }:Shared).heap.objs.size=D
 have hD':D=h2.objs.size:=hD.symm
 generalize hh3:({ s1 with heap:=h2 }:Shared).heap.push { cls:=.type "list",data:=.seq ([]:List Value).toArray }=h3
 have hh3':h3=h2.push { cls:=.type "list",data:=.seq ([]:List Value).toArray }:=hh3.symm
 have hk3:∀ b o,s1.heap.get? b=some o→h3.get? b=some o:=fun b o e=>by rw [hh3'];exact Heap.get?_push_of_some _ (hk2 b o e)
 have hDn:s1.heap.get? D=none:=by
  cases q:s1.heap.get? D with
  | none=>rfl
  | some o=>have:=hk2 D o q;rw [hD'] at this;rw [get?_size] at this;exact nsf this
 have hID:I≠D:=by
  intro q
  obtain ⟨o,ho⟩:=hit.there
  rw [q,hD'] at ho;rw [get?_size] at ho;exact nsf ho
 have a3:∀ tk,Aft c (σ++τ1) (H1++[.list []]) s1 [D] { s1 with heap:=h3,toks:=tk }:=fun tk =>
  Aft.list S1 tk hk3 hDn (by rw [hh3',hD'];exact Heap.get?_push_size _ rfl) (vs:=[]) trivial (by simp -iota)
 refine wpAny_newFunctionEnv K.nocell (by intro y hy;simp -iota at hy) (fun h4 hn4 hs4=>?_) K.kind
 dsimp only at hn4 hs4 ⊢
 generalize hC:h3.objs.size=C at hn4 hs4 ⊢
 have hk4:∀ b o,h3.get? b=some o→h4.get? b=some o:=fun b o e=>hs4.extBut b o (by rw [← hC];exact Nat.ne_of_lt (Heap.lt_size e)) (Heap.get?_push_of_some _ e)
 have hCn3:h3.get? C=none:=by rw [← hC];exact get?_size _
 have hCn:s1.heap.get? C=none:=by
  cases q:s1.heap.get? C with
  | none=>rfl
  | some o=>have:=hk3 C o q;rw [hCn3] at this;exact nsf this
 have hCσ:∀ b∈(σ++τ1)++[D],b≠C:=fun b hb q=>by
  obtain ⟨o,ho⟩:=(a3 s1.toks).st.there hb
  rw [q] at ho
  rw [show ({ s1 with heap:=h3,toks:=s1.toks }:Shared).heap=h3 from rfl,hCn3] at ho;exact nsf ho
 have hit3:ItAt (σ++τ1) h3 I it isL all 0:=by
  have:=hit.keep (τ:=[]) (h':=h3) fun o q=>by rw [hh3'];exact Heap.get?_push_of_some _ q
  simpa -iota using this
 have hIC:I≠C:=by
  intro q
  obtain ⟨o,ho⟩:=hit3.there
  rw [q,hCn3] at ho;exact nsf ho
 have hIσ:I∉σ++τ1:=fun q=>by
  obtain ⟨o,ho⟩:=S1.there q
  rw [hI] at ho;exact nsf ho
 have a4:∀ tk,Aft c (σ++τ1) (H1++[.list []]) s1 [D] { s1 with heap:=h4,toks:=tk }:=fun tk =>
  (a3 tk).move (s:={ s1 with heap:=h3,toks:=tk }) S1 hCn (fun q=>hCσ C q rfl) (fun b o _ e=>hk4 b o e) tk
 have hit4:ItAt (σ++τ1++[D]) h4 I it isL all 0:=hit3.keep fun o q=>hk4 I o q
 have loop:∀ tk,codeAny (model c.prog c.w) A (.compLoop (.ListComp elt [⟨.Name x px,iter,ifs,0⟩] sc' pos) 0 (.ref I) (.ref D) (compEnvC sc' cl C env)) (compPost (model c.prog c.w) A E use Q (.ref D) C) { s1 with heap:=h4,toks:=tk }:=by
  intro tk
  refine comp_loop (iter:=iter) (Hfin:=Hfin) (H1:=H1) Ie It Rm F1 K hcl1 hcl2 S1 hI hCn hIC (fun τ' se b hnC hCo=>?_) hlen all.length _ ⟨all,0,[],H1++[.list []],rfl,rfl,⟨a4 tk,hit4,⟨_,hn4⟩,?_,?_⟩,e3⟩
  ·have b':=a1.trans b
   refine hK (τ1++D::τ') C D se b' ⟨D,by rw [hlen];simp -iota,rfl⟩ hnC (by simpa -iota [List.append_assoc] using hCo) ?_
   cases q:s.heap.get? C with
   | none=>rfl
   | some o=>obtain ⟨o',q'⟩:=a1.pres.there C o q;rw [hCn] at q';exact nsf q'
  ·intro q
   rcases List.mem_append.mp q with q | q
   ·exact hIσ q
   ·simp -iota at q;exact hID q
  ·intro q;exact hCσ C (by simpa -iota using q) rfl
 exact codeAny_compStart_list (loop _) (iter_self (s:={ s1 with heap:=h4,toks:=_ }) hit4 (loop _))
theorem evComps_some {f:EvF} {fi:Scope→Vars→EvF} {ti:Scope→Vars→TsF} {sc':Scope} {elt:Expr} {r:AV×List AO}:∀ {gens:List Comprehension},evComps f fi ti sc sc' vars elt gens H=some r →
  ∃ y py iter ifs,gens=[⟨.Name y py,iter,ifs,0⟩]∧evComp f (fi sc') (ti sc') sc sc' vars elt y iter ifs H=some r
 | [],h=>nsf h
 | g::gs,h=>by
  obtain ⟨t,iter,ifs,as⟩:=g
  cases t with
  | Name x px =>
   cases as with
   | ofNat k=>cases k with
    | zero=>cases gs with
     | nil=>exact ⟨x,px,iter,ifs,rfl,h⟩
     | cons _ _=>exact nsf h
    | succ k=>exact nsf h
   | negSucc k=>exact nsf h
  | _=>exact nsf h
theorem listComp_sound {elt iter:Expr} {x:Str} {px pos:Pos} {ifs:List Expr} {r:AV} (Ie:IHe c call n m) (It:IHt c call n m) (Rm:Room A m) (F:Fr' sc vars env σ s.heap) (S:St c σ H s)
  (e:ev c.G call (n + 1) sc vars (.ListComp elt [⟨.Name x px,iter,ifs,0⟩] sc' pos) H=some (r,H')):WP c A (eval (.ListComp elt [⟨.Name x px,iter,ifs,0⟩] sc' pos) env) σ H' s fun τ v=>r.Rel τ v:=by
 obtain ⟨hok,e⟩:=Mine.ifs (show evComp (ev c.G call n sc vars) (ev c.G call n sc') (tst c.G call n sc') sc sc' vars elt x iter ifs H=some (r,H') from e)
 refine za4 e fun it H1 e1 e=>?_
 refine za4 e fun isL all e2 e=>?_
 refine bind_some e fun Hf e3 e=>?_
 refine opjs e ?_
 have hok:=and4 hok
 intro Q E hq
 rw [eval_ListComp]
 refine comp_gen (use:=none) Ie It Rm F S hok.1 hok.2 e1 e2 e3 fun τ C D se a r ⟨mm,hn⟩ hC hCn=>⟨mm,hn,fun h' hs=>?_⟩
 exact hq τ _ _ (a.move S hCn hC (fun b o hb e=>(hs.2 b hb).trans e) se.toks) r
end
section
variable {c:Cx} {A:Around} {σ:List Addr} {H H':List AO} {s:Shared} {env:Env} {sc sc':Scope} {vars:Vars} {call:CallT} {n m:Nat}
theorem attributeBase_plain {o:Expr} {name:Str} {whole:Sem Value} (h:notCall o=true):attributeBase o name env whole=whole:=by
 cases o<;>first | rfl | exact ftf h
theorem method_sound (I:IHe c call n m) (Rm:Room A m) {o:Expr} {name:Str} {apos pos:Pos} {args:List Expr} {r:AV} (F:Fr' sc vars env σ s.heap) (S:St c σ H s)
  (e:ev c.G call (n + 1) sc vars (.Call (.Attribute o name apos) args [] pos) H=some (r,H')):WP c A (eval (.Call (.Attribute o name apos) args [] pos) env) σ H' s fun τ v=>r.Rel τ v:=by
 refine ifsk (show evMeth (ev c.G call n sc vars) o name apos args pos H=some (r,H') from e) fun hc e=>?_
 simp -iota only [Bool.and_eq_true,decide_eq_true_eq] at hc
 obtain ⟨⟨hlen,hline⟩,hcall⟩:=hc
 refine za4 e fun ov H1 e1 e=>?_
 dsimp only at e
 refine ifsk e fun hself e=>?_
 refine za4 e fun vs H2 e2 e=>?_
 dsimp only at e
 intro Q E hq
 have hplain:=zdb (env:=env) pos args e2
 refine wpAny_Call_method_lateS (attributeBase_plain hcall) ?_ hline ((I A sc vars env o H ov H1 σ s Rm F S e1).use fun τ1 s1 v1 a1 r1=>?_)
 ·have h1:(backTo pos (starEach args env)).all (fun x=>!x.1)=true:=by
   rw [List.all_eq_true]
   intro x hx
   have:=List.any_eq_false.mp hplain x hx
   simpa -iota using this
  have h2:(backToKw pos (keywordEach [] env)).all (fun x=>x.1.isSome)=true:=rfl
  rw [h1,h2]
  simp -iota;omega
 ·refine method_static e fun p1 p2 p3 p4=>?_
  have typ:s1.TypeIs v1 (methTI name).1∧∀ a,v1=.ref a→∃ ob,s1.heap.get? a=some ob∧ob.dict=none:=by
   rcases p4 with ⟨ht,k,rfl⟩ | ⟨ht,x,rfl⟩
   ·rw [ht]
    obtain ⟨xs,hxs⟩:=Option.isSome_iff_exists.mp (show (zah H1 (.obj k)).isSome=true from hself)
    refine zd9 a1.st r1 hxs ?_;rintro a ws nn rfl g1 g2 g3 g4
    exact ⟨⟨_,g2,rfl⟩,fun b q=>by cases q;exact ⟨_,g2,rfl⟩⟩
   ·rw [ht]
    obtain ⟨t,rfl⟩:=r1
    exact ⟨typeIs_str _ _ _,fun b q=>nomatch q⟩
  refine ⟨_,_,p1,p2,p3,typ.1,typ.2,?_⟩
  refine callWith_any hplain rfl ?_
  refine (zdn (ks:=[]) I Rm pos _ (F.aft a1) a1.st e2 rfl).use fun τ2 s2 v2 a2 r2=>⟨.inl fun a q=>(nomatch q),?_⟩
  obtain ⟨r2,r3⟩:=r2
  obtain ⟨vp,vk⟩:=v2
  cases vk with
  | cons _ _=>exact r3.elim
  | nil =>
   have w:=method_raw (A:=A) a2.st r1.mono r2 e
   refine w.use fun τ3 s3 v3 a3 r3=>hq _ _ _ (a1.trans (a2.trans a3)) (by simpa -iota [List.append_assoc] using r3)
theorem call_sound {m':Nat} (hcall:zbx c call m') (I:IHe c call n m) (Rm:Room A m) (Rm':Room A m') {x:Str} {p pos:Pos} {args:List Expr} {kws:List Keyword} {r:AV} (F:Fr' sc vars env σ s.heap) (S:St c σ H s)
  (e:ev c.G call (n + 1) sc vars (.Call (.Name x p) args kws pos) H=some (r,H')):WP c A (eval (.Call (.Name x p) args kws pos) env) σ H' s fun τ v=>r.Rel τ v:=by
 refine za4 (show evCallN call (ev c.G call n sc vars) x p args kws H=some (r,H') from e) fun f H1 e1 e=>?_
 refine za4 e fun vs H2 e2 e=>?_
 refine za4 e fun ks H3 e3 e=>?_
 dsimp only at e e2 e3
 intro Q E hq
 refine wpAny_Call_Name_kw ((I A sc vars env _ H f H1 σ s Rm F S e1).use fun τ1 s1 v1 a1 r1=>?_)
 refine callWith_any (zdb (env:=env) pos args e2) (zdu (env:=env) pos kws e3) ?_
 refine (zdn I Rm pos _ (F.aft a1) a1.st e2 e3).use fun τ2 s2 v2 a2 r2=>?_
 obtain ⟨vp,vk⟩:=v2
 obtain ⟨k1,k2⟩:=hcall A _ _ s2 f vs ks v1 vp vk r H' Rm' a2.st r1.mono r2.1 r2.2 e
 refine ⟨k1,?_⟩
 exact k2.use fun τ3 s3 v3 a3 r3=>hq _ _ _ (a1.trans (a2.trans a3)) (by simpa -iota [List.append_assoc] using r3)
theorem WP.into {τ1:List Addr} {H1:List AO} {s1:Shared} {r:AV} {Q:Value→Shared→Prop} {E:Value→Shared→Prop} {t:Sem Value} (a1:Aft c σ H1 s τ1 s1) (W:WP c A t (σ++τ1) H' s1 fun τ v=>r.Rel τ v)
  (hq:∀ τ s' v,Aft c σ H' s τ s'→r.Rel (σ++τ) v→Q v s'):wpAny (model c.prog c.w) A t Q E s1 :=
 W.use fun τ2 s2 v2 a2 r2=>hq _ s2 v2 (a1.trans a2) (List.append_assoc ..▸r2)
theorem WP.into2 {τ1 τ2:List Addr} {H1 H2:List AO} {s1 s2:Shared} {r:AV} {Q:Value→Shared→Prop} {E:Value→Shared→Prop} {t:Sem Value} (a1:Aft c σ H1 s τ1 s1) (a2:Aft c (σ++τ1) H2 s1 τ2 s2) (W:WP c A t (σ++τ1++τ2) H' s2 fun τ v=>r.Rel τ v)
  (hq:∀ τ s' v,Aft c σ H' s τ s'→r.Rel (σ++τ) v→Q v s'):wpAny (model c.prog c.w) A t Q E s2 :=
 W.use fun τ3 s3 v3 a3 r3=>hq (τ1++(τ2++τ3)) s3 v3 (a1.trans (a2.trans a3)) (by rw [← List.append_assoc,← List.append_assoc];exact r3)
theorem tst_value {e:Expr} {r:Bool} (I:IHe c call n m) (Rm:Room A m) (F:Fr' sc vars env σ s.heap) (S:St c σ H s)
  (h:tsVal (ev c.G call n sc vars) e H=some (r,H'))
  (he:isTrue e env (eval e env)=(do let v ← eval e env;standAt e.pos;holding [v] (truthy v))):WP c A (isTrue e env (eval e env)) σ H' s fun _ v=>v=r:=by
 refine za4 h fun v H1 e1 h=>?_
 refine bind_some h fun b e2 h=>?_
 refine opjs h ?_
 intro Q E hq
 refine wpAny_isTrue_value ?_ he
 refine (I A sc vars env e H v H1 σ s Rm F S e1).use fun τ1 s1 v1 a1 r1=>?_
 exact (truth_sound a1.st r1 e2).use fun τ2 s2 v2 a2 r2=>hq _ _ _ (a1.trans a2) r2
section
variable {r:AV} {b:Bool} {l rr x t o:Expr} {pos:Pos} (Ie:IHe c call n m) (It:IHt c call n m) (Rm:Room A m) (F:Fr' sc vars env σ s.heap) (S:St c σ H s)
theorem const_sound {k:Const} {kd:_} (S:St c σ H s) (h:evConst k H=some (r,H')):WP c A (eval (.Constant k kd pos) env) σ H' s fun τ v=>r.Rel τ v:=by
 cases k with
 | int i=>refine opjs h ?_;exact WP.toks S fun Q E hq=>wpAny_Constant_int (hq _ _ ⟨_,rfl⟩)
 | str x=>refine opjs h ?_;exact WP.toks S fun Q E hq=>Constant_str (hq _ _ ⟨_,rfl⟩)
 | none=>refine opjs h ?_;exact WP.toks S fun Q E hq=>fun _ _ _=>hq _ s.toks rfl
 | bool b=>refine opjs h ?_;exact WP.toks S fun Q E hq=>fun _ _ _=>hq _ s.toks rfl
 | _=>exact nsf h
include Ie Rm F S
theorem bin_sound {op:Operator} (h:evBin (ev c.G call n sc vars) l op rr H=some (r,H')):WP c A (eval (.BinOp l op rr pos) env) σ H' s fun τ v=>r.Rel τ v:=by
 refine za4 h fun a H1 e1 h=>?_
 refine za4 h fun b H2 e2 h=>?_
 intro Q E hq
 refine wpAny_BinOp ((Ie A sc vars env l H a H1 σ s Rm F S e1).use fun τ1 s1 v1 a1 r1=>?_)
 refine (Ie A sc vars env rr H1 b H2 _ s1 Rm (F.aft a1) a1.st e2).use fun τ2 s2 v2 a2 r2=>?_
 exact WP.into2 a1 a2 (binop_sound a2.st r1.mono r2 h) hq
theorem un_sound {op:UnaryOp} (h:evUn (ev c.G call n sc vars) op x H=some (r,H')):WP c A (eval (.UnaryOp op x pos) env) σ H' s fun τ v=>r.Rel τ v:=by
 refine za4 h fun a H1 e1 h=>?_
 intro Q E hq
 refine wpAny_UnaryOp ((Ie A sc vars env x H a H1 σ s Rm F S e1).use fun τ1 s1 v1 a1 r1=>?_)
 cases op with
 | Not =>
  refine bind_some h fun b e2 h=>?_
  refine opjk h ?_;rintro rfl rfl
  exact PyProof.Rows.not_of ((truth_sound a1.st r1 e2).use fun τ2 s2 v2 a2 r2=>hq _ _ _ (a1.trans a2) (by subst r2;rfl))
 | USub =>
  refine bind_some h fun b e2 h=>?_
  refine opjk h ?_;rintro rfl rfl
  exact WP.into a1 (unop_sound a1.st r1 e2) hq
 | _=>exact nsf h
include It
theorem if_sound (h:evIf (ev c.G call n sc vars) (tst c.G call n sc vars) t l o H=some (r,H')):WP c A (eval (.IfExp t l o pos) env) σ H' s fun τ v=>r.Rel τ v:=by
 refine za4 h fun q H1 e1 h=>?_
 intro Q E hq
 refine wpAny_IfExp ((It A sc vars env t H q H1 σ s Rm F S e1).use fun τ1 s1 v1 a1 r1=>?_)
 subst r1
 cases v1 with
 | true=>exact WP.into a1 (Ie A sc vars env l H1 r H' _ s1 Rm (F.aft a1) a1.st h) hq
 | false=>exact WP.into a1 (Ie A sc vars env o H1 r H' _ s1 Rm (F.aft a1) a1.st h) hq
omit It
theorem list_sound {es:List Expr} (h:evList (ev c.G call n sc vars) es H=some (r,H')):WP c A (eval (.List es pos) env) σ H' s fun τ v=>r.Rel τ v:=by
 refine za4 h fun xs H1 e1 h=>?_
 refine zcm h fun hl h=>?_
 obtain ⟨rfl,rfl⟩:=Prod.mk.inj h
 intro Q E hq
 refine PyProof.Rows.List_ ((spliced_sound Ie Rm pos es F S e1).use fun τ1 s1 v1 a1 r1=>?_)
 refine wpAny_newList ?_ (by rw [zbe];have:=r1.length;omega)
 have a2:=Aft.pushList a1.st s1.toks (its:=v1.toArray) rfl r1 hl
 refine hq _ _ _ (a1.trans a2) ⟨_,?_,rfl⟩
 rw [← a1.st.len,← List.append_assoc]
 exact List.getElem?_concat_length
theorem cmp2_sound {op:CmpOp} {q:Bool} {a b:AV} {H1 H2:List AO} {P:Value→Prop} (hP:P (.bool q)) {Q:Value→Shared→Prop} {E:Value→Shared→Prop} (e1:ev c.G call n sc vars l H=some (a,H1)) (e2:ev c.G call n sc vars rr H1=some (b,H2)) (e3:cmp op a b H2=some q)
  (hq:∀ τ s',Aft c σ H2 s τ s'→Q (.bool q) s'):wpAny (model c.prog c.w) A (eval l env) (fun v s1=>wpAny (model c.prog c.w) A (eval rr env) (fun u s2=>wpAny (model c.prog c.w) A (compareOp op v u) Q E s2) E s1) E s:=by
 refine (Ie A sc vars env l H a H1 σ s Rm F S e1).use fun τ1 s1 v1 a1 r1=>?_
 refine (Ie A sc vars env rr H1 b _ _ s1 Rm (F.aft a1) a1.st e2).use fun τ2 s2 v2 a2 r2=>?_
 exact (cmp_sound Rm a2.st r1.mono r2 e3).use fun τ3 s3 v3 a3 r3=>r3▸hq _ _ (a1.trans (a2.trans a3))
theorem cmp1_sound {op:CmpOp} (h:evCmp (ev c.G call n sc vars) l op rr H=some (r,H')):WP c A (eval (.Compare l [op] [rr] pos) env) σ H' s fun τ v=>r.Rel τ v:=by
 refine ifnk h fun hm h=>?_
 refine za4 h fun a H1 e1 h=>?_
 refine za4 h fun b H2 e2 h=>?_
 refine bind_some h fun q e3 h=>?_
 refine opjs h ?_
 intro Q E hq
 exact wpAny_Compare1 (cmp2_sound Ie Rm F S (P:=fun _=>True) trivial e1 e2 e3 fun τ s' a=>hq τ s' _ a rfl) hm
theorem sub_sound {sl:Expr} (hs:notSlice sl=true) (h:evItem (ev c.G call n sc vars) l sl H=some (r,H')):WP c A (eval (.Subscript l sl pos) env) σ H' s fun τ v=>r.Rel τ v:=by
 refine za4 h fun o H1 e1 h=>?_
 refine za4 h fun i H2 e2 h=>?_
 refine bind_some h fun x e3 h=>?_
 refine opjs h ?_
 intro Q E hq
 refine PyProof.Rows.Subscript_ ((Ie A sc vars env l H o H1 σ s Rm F S e1).use fun τ1 s1 v1 a1 r1=>?_)
 refine (Ie A sc vars env sl H1 i _ _ s1 Rm (F.aft a1) a1.st e2).use fun τ2 s2 v2 a2 r2=>?_
 exact WP.into2 a1 a2 (item_sound a2.st r1.mono r2 hs e3) hq
theorem tcmp1_sound {op:CmpOp} (h:tsCmp (ev c.G call n sc vars) l op rr H=some (b,H')):WP c A (isTrue (.Compare l [op] [rr] pos) env (eval (.Compare l [op] [rr] pos) env)) σ H' s fun _ v=>v=b:=by
 refine ifnk h fun hm h=>?_
 refine za4 h fun a H1 e1 h=>?_
 refine za4 h fun b H2 e2 h=>?_
 refine bind_some h fun q e3 h=>?_
 refine opjs h ?_
 intro Q E hq
 exact wpAny_isTrue_Compare1 (cmp2_sound Ie Rm F S (P:=fun _=>True) trivial e1 e2 e3 fun τ s' a=>wpAny_truthy_bool (hq τ s' _ a rfl)) hm
include It
omit Ie
theorem tif_sound (h:tsIf (tst c.G call n sc vars) t l o H=some (b,H')):WP c A (isTrue (.IfExp t l o pos) env (eval (.IfExp t l o pos) env)) σ H' s fun _ v=>v=b:=by
 refine za4 h fun q H1 e1 h=>?_
 intro Q E hq
 refine PyProof.Rows.isTrue_IfExp ((It A sc vars env t H q H1 σ s Rm F S e1).use fun τ1 s1 v1 a1 r1=>?_)
 subst r1
 cases v1 with
 | true=>exact (It A sc vars env l H1 b H' _ s1 Rm (F.aft a1) a1.st h).use fun τ2 s2 v2 a2 r2=>hq _ _ _ (a1.trans a2) r2
 | false=>exact (It A sc vars env o H1 b H' _ s1 Rm (F.aft a1) a1.st h).use fun τ2 s2 v2 a2 r2=>hq _ _ _ (a1.trans a2) r2
theorem tnot_sound (h:tsNot (tst c.G call n sc vars) x H=some (b,H')):WP c A (isTrue (.UnaryOp .Not x pos) env (eval (.UnaryOp .Not x pos) env)) σ H' s fun _ v=>v=b:=by
 refine za4 h fun q H1 e1 h=>?_
 refine opjs h ?_
 intro Q E hq
 exact wpAny_isTrue_Not ((It A sc vars env x H q _ σ s Rm F S e1).use fun τ1 s1 v1 a1 r1=>hq _ _ _ a1 (by rw [r1]))
end
theorem ev_step (O:c.Ok) (hcall:zbx c call m) (Ie:IHe c call n m) (It:IHt c call n m):IHe c call (n + 1) m:=by
 intro A sc vars env e H r H' σ s Rm F S h
 cases e with
 | Constant k kd pos=>exact const_sound S h
 | Name x pos=>exact name_sound O F S h
 | BinOp l op rr pos=>exact bin_sound Ie Rm F S h
 | UnaryOp op x pos=>exact un_sound Ie Rm F S h
 | IfExp t b o pos=>exact if_sound Ie It Rm F S h
 | BoolOp op es pos=>exact boolOp_sound Ie Rm es F S h
 | List es pos=>exact list_sound Ie Rm F S h
 | Compare l ops rs pos =>
  match ops,rs,h with
  | [op],[rr],h=>exact cmp1_sound Ie Rm F S h
  | [],[],h | [],_::_,h | [_],[],h | [_],_::_::_,h | _::_::_,[],h | _::_::_,_::_,h=>exact nsf h
 | Subscript v sl pos =>
  cases sl with
  | Slice lo up st p=>exact slice_sound Ie Rm F S h
  | _=>exact sub_sound Ie Rm F S rfl h
 | Call f args kws pos =>
  cases f with
  | Name x p=>exact call_sound hcall Ie Rm Rm F S h
  | Attribute o name apos =>
   cases kws with
   | nil=>exact method_sound Ie Rm F S h
   | cons _ _=>exact nsf h
  | _=>exact nsf h
 | ListComp elt gens sc' pos =>
  obtain ⟨y,py,iter,ifs,rfl,_⟩:=evComps_some (show evComps (ev c.G call n sc vars) (ev c.G call n) (tst c.G call n) sc sc' vars elt gens H=some (r,H') from h)
  exact listComp_sound Ie It Rm F S h
 | _=>exact nsf h
theorem tst_step (O:c.Ok) (hcall:zbx c call m) (Ie:IHe c call n m) (It:IHt c call n m):IHt c call (n + 1) m:=by
 intro A sc vars env e H r H' σ s Rm F S h
 cases e with
 | UnaryOp op x pos =>
  cases op with
  | Not=>exact tnot_sound It Rm F S h
  | _=>exact tst_value Ie Rm F S h rfl
 | BoolOp op es pos=>exact fun Q E hq=>wpAny_isTrue_BoolOp ((all_sound It Rm es F S h).use hq)
 | IfExp t b o pos=>exact tif_sound It Rm F S h
 | Compare l ops rs pos =>
  rcases ops with _ | ⟨op,_ | _⟩
  ·exact nsf h
  ·rcases rs with _ | ⟨rr,_ | _⟩
   ·exact nsf h
   ·exact tcmp1_sound Ie Rm F S h
   ·exact nsf h
  ·exact nsf h
 | _=>exact tst_value Ie Rm F S h rfl
theorem zbf {m:Nat} (O:c.Ok) (hcall:zbx c call m):∀ n,IHe c call n m∧IHt c call n m
 | 0=>⟨fun A sc vars env e H r H' σ s _ _ _ h=>nsf h,fun A sc vars env e H r H' σ s _ _ _ h=>nsf h⟩
 | n + 1=>⟨ev_step O hcall (zbf O hcall n).1 (zbf O hcall n).2,tst_step O hcall (zbf O hcall n).1 (zbf O hcall n).2⟩
end
inductive AFlow where
 | next
 | brk
 | ret (v:AV)
noncomputable abbrev ExR:=AFlow×Vars×List AO
noncomputable def setV (k:Nat) (v:AV):Vars→Vars
 | []=>[(k,v)]
 | y::vs=>if Nat.beq y.1 k then (k,v)::vs else y::setV k v vs
noncomputable def st1 (sc:Scope) (x:Str) (v:AV) (vars:Vars):Option Vars :=
 if x=(".0":Str) then none else match sc.names.lookup x with
 | some .local | some .cell=>some (setV (key x) v vars)
 | _=>none
noncomputable def stN (sc:Scope):List Str→List AV→Vars→Option Vars
 | [],[],vars=>some vars
 | x::xs,v::vs,vars=>do stN sc xs vs (← st1 sc x v vars)
 | _,_,_=>none
noncomputable def namesOf:List Expr→Option (List Str)
 | []=>some []
 | .Name x _::es=>do some (x::(← namesOf es))
 | _=>none
noncomputable def swapped (sc:Scope) (ts vs:List Expr):Option (Option (List Str)) :=
 if !(ts.length == 2 || ts.length == 3) || vs.length != ts.length then some none
 else if vs.any (fun | .Starred ..=>true | _=>false) then some none
 else
  let line:=(ts.head?.map (·.pos.line)).getD 0
  let names:=ts.filterMap fun
   | .Name id pos=>if sc.names.lookup id == some .local && pos.line == line then some id else none
   | _=>none
  if names.length != ts.length || names.eraseDups.length != names.length then some none
  else if vs.all (foldedForSure 8) then some none
  else if vs.all (constantsAlone 8) then none
  else some (some names)
noncomputable def whileGo (t:Vars→List AO→Option (Bool×List AO)) (b:Vars→List AO→Option ExR):Nat→Vars→List AO→Option ExR
 | 0,_,_=>none
 | k + 1,vars,H=>do
  let (q,H) ← t vars H
  if q then do
   let (f,vars,H) ← b vars H
   match f with
   | .next=>whileGo t b k vars H
   | .brk=>some (.next,vars,H)
   | .ret v=>some (.ret v,vars,H)
  else some (.next,vars,H)
noncomputable def forGo (sc:Scope) (x:Str) (b:Vars→List AO→Option ExR) (it:AV) (isL:Bool) (all:List AV):List AV→Vars→List AO→Option ExR
 | [],vars,H=>if still isL H it all then some (.next,vars,H) else none
 | y::ys,vars,H=>if still isL H it all then do
   let vars ← st1 sc x y vars
   let (f,vars,H) ← b vars H
   match f with
   | .next=>forGo sc x b it isL all ys vars H
   | .brk=>some (.next,vars,H)
   | .ret v=>some (.ret v,vars,H)
  else none
noncomputable def zar:Nat:=100
noncomputable def exLGo (f:Vars→Stmt→List AO→Option ExR):List Stmt→Vars→List AO→Option ExR
 | [],vars,H=>some (.next,vars,H)
 | st::rest,vars,H=>do
  let (r,vars,H) ← f vars st H
  match r with
  | .next=>exLGo f rest vars H
  | r=>some (r,vars,H)
noncomputable def asName (sc:Scope) (f:EvF) (x:Str) (e:Expr) (vars:Vars) (H:List AO):Option ExR:=do
 let (v,H) ← f e H
 some (.next,← st1 sc x v vars,H)
noncomputable def asTwo (sc:Scope) (f:EvF) (x y:Str) (e:Expr) (vars:Vars) (H:List AO):Option ExR:=do
 let (v,H) ← f e H
 some (.next,← st1 sc y v (← st1 sc x v vars),H)
noncomputable def asTup (sc:Scope) (f:EvF) (ts vs:List Expr) (vars:Vars) (H:List AO):Option ExR:=do
 let names ← namesOf ts
 let _ ← swapped sc ts vs
 let (xs,H) ← evs f vs H
 if decide (names.length=xs.length) && decide (names.Nodup) && decide (names.length≤1000) then some (.next,← stN sc names xs vars,H) else none
noncomputable def asUnp (sc:Scope) (f:EvF) (ts:List Expr) (e:Expr) (vars:Vars) (H:List AO):Option ExR:=do
 let names ← namesOf ts
 let (v,H) ← f e H
 (zah H v).bind fun xs=>if decide (names.length=xs.length) && decide (names.Nodup) && decide (names.length≤1000) then (stN sc names xs vars).bind fun v'=>some (.next,v',H) else none
noncomputable def asItem (f:EvF) (o i e:Expr) (vars:Vars) (H:List AO):Option ExR:=do
 let (v,H) ← f e H
 let (ov,H) ← f o H
 let (iv,H) ← f i H
 (zc0 iv).bind fun j=>(objL H ov).bind fun p=>if decide (0≤j) && decide (j < p.2.length) then some (.next,vars,H.set p.1 (.list (p.2.set j.toNat v))) else none
noncomputable def augI:Operator→Option (Int→Int→Int)
 | .Add=>some fun i j=>i + j
 | .Sub=>some fun i j=>i - j
 | _=>none
noncomputable def asAug (sc:Scope) (f:EvF) (x:Str) (p:Pos) (op:Operator) (e:Expr) (vars:Vars) (H:List AO):Option ExR:=do
 let (a,H) ← f (.Name x p) H
 let (b,H) ← f e H
 (augI op).bind fun g=>(zc0 a).bind fun i=>(zc0 b).bind fun j=>(st1 sc x (.int (g i j)) vars).bind fun v=>some (.next,v,H)
noncomputable def exAs1 (sc:Scope) (f:EvF) (t e:Expr) (vars:Vars) (H:List AO):Option ExR:=match t with
 | .Name x _=>asName sc f x e vars H
 | .Tuple ts _ _=>match e with
  | .Tuple vs _ _=>asTup sc f ts vs vars H
  | .IfExp t b o p=>asUnp sc f ts (.IfExp t b o p) vars H
  | _=>none
 | .Subscript o i _=>asItem f o i e vars H
 | _=>none
noncomputable def exAs2 (sc:Scope) (f:EvF) (t u e:Expr) (vars:Vars) (H:List AO):Option ExR:=match t with
 | .Name x _=>match u with
  | .Name y _=>asTwo sc f x y e vars H
  | _=>none
 | _=>none
noncomputable def exAs (sc:Scope) (f:EvF) (ts:List Expr) (e:Expr) (vars:Vars) (H:List AO):Option ExR:=match ts with
 | []=>none
 | t::ts=>match ts with
  | []=>exAs1 sc f t e vars H
  | u::us=>match us with
   | []=>exAs2 sc f t u e vars H
   | _::_=>none
noncomputable def exExpr (f:EvF) (e:Expr) (vars:Vars) (H:List AO):Option ExR:=do
 let (v,H) ← f e H
 match v with
 | .lit .none=>some (.next,vars,H)
 | _=>none
noncomputable def exRet (f:EvF) (e:Expr) (vars:Vars) (H:List AO):Option ExR:=do
 let (v,H) ← f e H
 some (.ret v,vars,H)
noncomputable def exIf (tt:TsF) (g:Vars→Stmt→List AO→Option ExR) (t:Expr) (b o:List Stmt) (vars:Vars) (H:List AO):Option ExR:=do
 let (q,H) ← tt t H
 if q then exLGo g b vars H else exLGo g o vars H
noncomputable def exFor (sc:Scope) (f:EvF) (g:Vars→Stmt→List AO→Option ExR) (x:Str) (iter:Expr) (b:List Stmt) (vars:Vars) (H:List AO):Option ExR:=do
 let (it,H) ← f iter H
 let (isL,xs) ← zdo H it
 if notSetD iter then forGo sc x (fun vars=>exLGo g b vars) it isL xs xs vars H else none
noncomputable def exS (G:Str→Option AV) (call:CallT):Nat→Scope→Vars→Stmt→List AO→Option ExR
 | 0,_,_,_,_=>none
 | n + 1,sc,vars,st,H=>match st with
  | .Assign ts e _=>exAs sc (ev G call n sc vars) ts e vars H
  | .AugAssign (.Name x p) op e _=>asAug sc (ev G call n sc vars) x p op e vars H
  | .Expr (.Call f args kws p) _=>exExpr (ev G call n sc vars) (.Call f args kws p) vars H
  | .Return (some e) _=>exRet (ev G call n sc vars) e vars H
  | .Break _=>some (.brk,vars,H)
  | .If t b o _=>exIf (tst G call n sc vars) (exS G call n sc) t b o vars H
  | .While t b [] _=>whileGo (fun vars=>tst G call n sc vars t) (fun vars=>exLGo (exS G call n sc) b vars) zar vars H
  | .For (.Name x _) iter b [] _=>exFor sc (ev G call n sc vars) (exS G call n sc) x iter b vars H
  | _=>none
noncomputable def exL (G:Str→Option AV) (call:CallT) (n:Nat) (sc:Scope):List Stmt→Vars→List AO→Option ExR:=exLGo (exS G call n sc)
structure FnD where
 pos:List Str
 dfl:List AV
 kwo:List (Str×AV)
 body:List Stmt
 sc:Scope
noncomputable def FnD.binds (F:FnD) (args:List AV) (kws:List (Str×AV)):Option Vars :=
 if decide (args.length≤F.pos.length) && decide (F.pos.length≤args.length + F.dfl.length) && kws.all (fun k=>F.kwo.any fun y=>y.1 == k.1) && decide (kws.length≤1) then
  some ((F.pos.map key).zip (args++F.dfl.drop (args.length + F.dfl.length - F.pos.length))++F.kwo.map (fun y=>(key y.1,(kws.lookup y.1).getD y.2)))
 else none
noncomputable def za0:Nat:=40
noncomputable def callF (G:Str→Option AV) (call:CallT) (F:FnD) (args:List AV) (kws:List (Str×AV)) (H:List AO):Option (AV×List AO):=do
 let vars ← F.binds args kws
 let (f,_,H) ← exL G call za0 F.sc F.body vars H
 match f with
 | .ret v=>some (v,H)
 | .next=>some (.lit .none,H)
 | .brk=>none
noncomputable def bLen (args:List AV) (H:List AO):Option (AV×List AO):=(arg1 args).bind fun a=>match strOf a with
 | some x=>if x.length≤1048576 then some (.int x.length,H) else none
 | none=>(zah H a).bind fun xs=>some (.int xs.length,H)
noncomputable def bAbs (args:List AV) (H:List AO):Option (AV×List AO):=(arg1 args).bind fun a=>(zc0 a).bind fun i=>some (.int (if i < 0 then -i else i),H)
noncomputable def bMin2 (args:List AV) (H:List AO):Option (AV×List AO):=(arg2 args).bind fun p=>(zc0 p.1).bind fun i=>(zc0 p.2).bind fun j=>some (.int (if j < i then j else i),H)
noncomputable def sumI (acc:Int):List AV→Option Int
 | []=>some acc
 | x::xs=>(zc0 x).bind fun i=>if decide (-1000000 < acc + i) && decide (acc + i < 1000000) && decide (-1000000 < i) && decide (i < 1000000) then sumI (acc + i) xs else none
noncomputable def bSum (args:List AV) (H:List AO):Option (AV×List AO):=(arg1 args).bind fun a=>(zah H a).bind fun xs=>(sumI 0 xs).bind fun m=>some (.int m,H)
noncomputable def insI (x:Int):List Int→List Int
 | []=>[x]
 | y::l=>if x≤y then x::y::l else y::insI x l
noncomputable def srtI:List Int→List Int
 | []=>[]
 | x::l=>insI x (srtI l)
noncomputable def allI:List AV→Option (List Int)
 | []=>some []
 | x::xs=>(zc0 x).bind fun i=>(allI xs).bind fun l=>some (i::l)
noncomputable def bSort (args:List AV) (H:List AO):Option (AV×List AO):=(arg1 args).bind fun a=>(zah H a).bind fun xs=>(allI xs).bind fun ns=>if ns.length < 64 then some (.obj H.length,H++[.list ((srtI ns).map .int)]) else none
noncomputable def litOf:AV→Option Value
 | .lit v=>some v
 | _=>none
noncomputable def boolLit:Value→Option Bool
 | .bool _=>some true
 | _=>none
noncomputable def isBool (a:AV):Option Bool:=match zc0 a with
 | some _=>some false
 | none=>(litOf a).bind boolLit
noncomputable def bIsI (args:List AV) (H:List AO):Option (AV×List AO):=(arg2 args).bind fun p=>(isBool p.1).bind fun b=>(litOf p.2).bind fun v=>if v=.type "bool" then some (.lit (.bool b),H) else none
noncomputable def builtins (f:String) (args:List AV) (H:List AO):Option (AV×List AO) :=
 if f="len" then bLen args H
 else if f="abs" then bAbs args H
 else if f="min" then bMin2 args H
 else if f="isinstance" then bIsI args H
 else if f="sum" then bSum args H
 else if f="sorted" then bSort args H
 else none
noncomputable def newR (H:List AO) (i j k:Int):Option (AV×List AO):=some (.obj H.length,H++[.range i j k])
noncomputable def bRange (args:List AV) (H:List AO):Option (AV×List AO):=match arg1 args with
 | some a=>(zc0 a).bind fun i=>newR H 0 i 1
 | none=>match arg2 args with
  | some p=>(zc0 p.1).bind fun i=>(zc0 p.2).bind fun j=>newR H i j 1
  | none=>(arg3 args).bind fun p=>(zc0 p.1).bind fun i=>(zc0 p.2.1).bind fun j=>(zc0 p.2.2).bind fun k=>if decide (k≠0) && decide (k.natAbs < 1000000) then newR H i j k else none
noncomputable def rangeOf (H:List AO):AV→Option (Int×Int×Int)
 | .obj k=>match nth H k with
  | some (.range lo hi st)=>some (lo,hi,st)
  | _=>none
 | _=>none
noncomputable def bList (args:List AV) (H:List AO):Option (AV×List AO):=(arg1 args).bind fun a=>(rangeOf H a).bind fun p =>
 if Builtin.Range.small p.1 p.2.1 p.2.2 && decide (0≤Builtin.Range.rangeSize p.1 p.2.1 p.2.2) && decide ((Builtin.Range.rangeSize p.1 p.2.1 p.2.2).toNat≤1048576) then some (.obj H.length,H++[.list (zc4 p.1 p.2.1 p.2.2)]) else none
noncomputable def typesCall (f:String) (args:List AV) (H:List AO):Option (AV×List AO) :=
 if f="range" then bRange args H else if f="list" then bList args H else none
noncomputable def zb1 (n:Nat) (xs:List AV):Bool:=xs.all fun | .obj k=>decide (k < n) | _=>true
noncomputable def cleanH (n:Nat) (H:List AO):Bool:=H.all fun | .list xs=>zb1 n xs | .arg _ xs=>zb1 n xs | .tab xs=>zb1 n xs | _=>true
noncomputable def gcGo (n:Nat) (H0:List AO) (r:AV) (H:List AO):AV×List AO :=
 if cleanH n H0 then match r with
  | .obj k=>if decide (k < n) then (r,H0) else match H[k]? with
   | some (.list xs)=>if zb1 n xs then (.obj n,H0++[.list xs]) else (r,H)
   | _=>(r,H)
  | r=>(r,H0)
 else (r,H)
noncomputable def gc (n:Nat) (r:AV) (H:List AO):AV×List AO:=gcGo n (H.take n) r H
inductive UF where
 | code (F:FnD)
 | lam (ps:List Str) (e:Expr) (sc:Scope) (cap:Vars)
 | nat (m:Nat) (f:List AV→List AO→Option (AV×List AO))
noncomputable def callLam (G:Str→Option AV) (call:CallT) (ps:List Str) (e:Expr) (sc:Scope) (cap:Vars) (args:List AV) (H:List AO):Option (AV×List AO) :=
 if args.length=ps.length then ev G call za0 sc ((ps.map key).zip args++cap) e H else none
noncomputable def callT (G:Str→Option AV) (call:CallT) (d:Nat) (u:UF) (args:List AV) (kws:List (Str×AV)) (H:List AO):Option (AV×List AO):=match u with
 | .code F=>(callF G call F args kws H).map fun r=>gc H.length r.1 r.2
 | .lam ps e sc cap=>if kws=[] then callLam G call ps e sc cap args H else none
 | .nat m f=>if decide (m≤d + 1) && decide (kws=[]) then f args H else none
noncomputable def zbv (G:Str→Option AV) (T:List (Nat×UF)) (TL:List UF):Nat→CallT
 | 0,_,_,_,_=>none
 | d + 1,f,args,kws,H=>match f with
  | .obj k=>do callT G (zbv G T TL d) d (← TL[k]?) args kws H
  | .lit (.ref a)=>do callT G (zbv G T TL d) d (← T.lookup a) args kws H
  | .lit (.builtin b)=>if kws=[] then builtins b args H else none
  | .lit (.type b)=>if kws=[] then typesCall b args H else none
  | _=>none
noncomputable def fcells (env:Env):List Addr:=env.cells.filterMap fun p=>env.cells.lookup p.1
noncomputable def fadr (env:Env):List Addr:=env.locals::fcells env
theorem mem_cells {env:Env} {x:Str} {a:Addr} (h:env.cells.lookup x=some a):a∈fadr env :=
 List.mem_cons_of_mem _ (List.mem_filterMap.mpr ⟨_,zag h,h⟩)
structure ScR (sc0 sc:Scope):Prop where
 loc:∀ x,sc0.names.lookup x=some .local ↔ sc.names.lookup x=some .local
 cel:∀ x,sc.names.lookup x=some .cell→sc0.names.lookup x=some .cell
theorem ScR.rfl' {a b:Scope} (h:a=b):ScR a b:=by subst h;exact ⟨fun _=>.rfl,fun _ h=>h⟩
structure SF (c:Cx) (sc:Scope) (vars:Vars) (env:Env) (σ:List Addr) (h:Heap):Prop extends Fr' sc vars env σ h where
 scope:ScR env.scope sc
 inj:∀ x y a,env.cells.lookup x=some a→env.cells.lookup y=some a→x=y
 outLC:∀ x a,env.cells.lookup x=some a→a≠env.locals
 newL:c.hb.get? env.locals=none
 newC:∀ x a,sc.names.lookup x=some .cell→env.cells.lookup x=some a→c.hb.get? a=none
 upL:∀ a,a∈fcells env→∃ o,h.get? a=some o
structure AftS (c:Cx) (σ:List Addr) (H':List AO) (env:Env) (s:Shared) (τ:List Addr) (s':Shared):Prop where
 st:St c (σ++τ) H' s'
 pres:Pres (σ++fadr env) s s'
 new:∀ a∈τ,s.heap.get? a=none
section
variable {c:Cx} {A:Around} {σ:List Addr} {H H' H'':List AO} {s:Shared} {env:Env} {sc:Scope} {vars:Vars} {call:CallT} {n m:Nat}
theorem Aft.toS {τ:List Addr} {s':Shared} (a:Aft c σ H' s τ s'):AftS c σ H' env s τ s':=⟨a.st,a.pres.weaken fun b h=>List.mem_append_left _ h,a.new⟩
theorem AftS.trans {τ τ':List Addr} {s' s'':Shared} (x:AftS c σ H env s τ s') (y:AftS c (σ++τ) H' env s' τ' s''):AftS c σ H' env s (τ++τ') s'':=by
 refine ⟨by rw [← List.append_assoc];exact y.st,x.pres.trans y.pres fun b hb=>?_,fun a ha=>?_⟩
 ·rcases List.mem_append.mp hb with h | h
  ·rcases List.mem_append.mp h with h | h
   ·exact .inl (List.mem_append_left _ h)
   ·exact .inr (x.new b h)
  ·exact .inl (List.mem_append_right _ h)
 ·rcases List.mem_append.mp ha with h | h
  ·exact x.new a h
  ·cases e:s.heap.get? a with
   | none=>rfl
   | some o =>
    obtain ⟨o',e'⟩:=x.pres.there a o e
    rw [y.new a h] at e';exact nsf e'
theorem SF.aft {τ:List Addr} {s':Shared} (F:SF c sc vars env σ s.heap) (a:Aft c σ H s τ s'):SF c sc vars env (σ++τ) s'.heap :=
 ⟨F.toFr'.aft a,F.scope,F.inj,F.outLC,F.newL,F.newC,fun b hb=>let ⟨o,e⟩:=F.upL b hb;a.pres.there b o e⟩
theorem look_setV {k j:Nat} {v:AV}:∀ {vs:Vars},look j (setV k v vs)=if k=j then some v else look j vs
 | []=>by show look j [(k,v)]=_;rw [zan]
 | y::vs=>by
  show look j (if Nat.beq y.1 k=true then (k,v)::vs else y::setV k v vs)=_
  by_cases h:y.1=k
  ·rw [if_pos (by rw [h];exact Nat.beq_refl k),zan]
   obtain ⟨y1,y2⟩:=y
   rw [zan]
   dsimp only at h
   subst h
   by_cases q:y1=j
   ·rw [if_pos q,if_pos q]
   ·rw [if_neg q,if_neg q,if_neg q]
  ·rw [if_neg (fun q=>h (Nat.eq_of_beq_eq_true q))]
   obtain ⟨y1,y2⟩:=y
   rw [zan,zan,look_setV]
   dsimp only at h
   by_cases q:y1=j
   ·rw [if_pos q,if_pos q,if_neg (fun z=>h (q.trans z.symm))]
   ·rw [if_neg q,if_neg q]
theorem AftS.own {a:Addr} {h':Heap} {tk:Nat} (S:St c σ H s) (ha:a∈fadr env) (hσ:a∉σ) (hb:c.hb.get? a=none) (hk:Heap.SameBut a s.heap h') (ht:∃ o,h'.get? a=some o) :
  AftS c σ H env s [] { s with heap:=h',toks:=tk }:=by
 have keep:∀ b o,b≠a→s.heap.get? b=some o→h'.get? b=some o:=fun b o hn e=>(hk.2 b hn).trans e
 refine ⟨⟨fun b o hw e=>keep b o (fun q=>by rw [q,hb] at e;exact nsf e) (S.base b o hw e),by rw [List.append_nil];exact S.len,fun k b o e e'=>?_,by rw [List.append_nil];exact S.nodup,fun k b e=>by rw [List.append_nil] at e;exact S.fresh k b e,by rw [List.append_nil];exact S.fix,S.fixed,fun b o e=>let ⟨o',e'⟩:=S.live b o e;⟨o',keep b o' (fun q=>by rw [q,hb] at e;exact nsf e) e'⟩,S.nle⟩,⟨fun b o hw e=>keep b o (fun q=>hw (q▸List.mem_append_right _ ha)) e,fun b o e=>?_,.refl _,rfl⟩,fun _ h=>nomatch h⟩
 ·rw [List.append_nil] at e ⊢
  exact (S.objs k b o e e').keep fun ob q=>keep b ob (fun z=>hσ (z▸List.mem_of_getElem? e)) q
 ·by_cases q:b=a
  ·subst q;exact ht
  ·exact ⟨o,keep b o q e⟩
theorem zca {x:Str} {av:AV} {v:Value} {vars':Vars} (F:SF c sc vars env σ s.heap) (S:St c σ H s) (r:av.Rel σ v) (e:st1 sc x av vars=some vars') {Q:Unit→Shared→Prop} {E:Value→Shared→Prop}
  (hq:∀ s',AftS c σ H env s [] s'→SF c sc vars' env σ s'.heap→Q () s'):wpAny (model c.prog c.w) A (storeName env x v) Q E s:=by
 unfold st1 at e
 split at e
 ·exact nsf e
 ·rename_i hnd
  have hdot:look (key ".0") (setV (key x) av vars)=none:=by rw [look_setV,if_neg (fun q=>hnd (key_inj q))];exact F.nodot
  have hp:(env.scope.kind == .class || (env.scope.kind == .module && env.locals != env.globals))=false:=by rw [F.kind];rfl
  split at e
  ·rename_i hl
   obtain rfl:=sj e
   have kx:env.kindOf x=some .local:=(F.scope.loc x).mpr hl
   obtain ⟨mm,hmm⟩:=F.ns
   refine wpAny_storeName_local kx hmm (fun h' hn' hs'=>?_) hp
   have hn'2:=hn'
   obtain ⟨o',_,_,ho',_⟩:=hn'2
   refine hq _ (AftS.own S (List.mem_cons_self ..) F.outL F.newL hs' ⟨o',ho'⟩) ⟨⟨⟨F.kind,F.glob,F.blt,F.gk,fun y w hw hv=>?_,⟨_,hn'⟩,F.outL,F.outC,hdot⟩,fun y b e=>?_,F.all,F.ck⟩,F.scope,F.inj,F.outLC,F.newL,F.newC,fun b hb=>?_⟩
   ·rw [look_setV] at hw
    by_cases hyx:y=x
    ·subst hyx
     rw [if_pos rfl] at hw;obtain rfl:=sj hw
     exact .inl ⟨kx,_,v,hn',by simp -iota,r⟩
    ·rw [if_neg (fun q=>hyx (key_inj q).symm)] at hw
     rcases F.vk y w hw hv with ⟨k,m',u,h1,h2,h3⟩ | ⟨k,b,u,h1,⟨o,h2,h4⟩,h3⟩
     ·refine .inl ⟨k,_,u,hn',?_,h3⟩
      rw [if_neg hyx,hmm.agree h1 y];exact h2
     ·exact .inr ⟨k,b,u,h1,⟨o,(hs'.2 b (F.outLC y b h1)).trans h2,h4⟩,h3⟩
   ·obtain ⟨u,o,ho,hd⟩:=F.up y b e
    exact ⟨u,o,(hs'.2 b (F.outLC y b e)).trans ho,hd⟩
   ·obtain ⟨o,ho⟩:=F.upL b hb
    by_cases q:b=env.locals
    ·subst q;exact ⟨o',ho'⟩
    ·exact ⟨o,(hs'.2 b q).trans ho⟩
  ·rename_i hl
   obtain rfl:=sj e
   have kx:env.kindOf x=some .cell:=F.scope.cel x hl
   obtain ⟨a,ha⟩:=F.all x (.inl hl)
   obtain ⟨v0,hv0⟩:=F.up x a ha
   refine wpAny_storeName_cell F.kind kx ha hv0 fun h' hc' hs'=>?_
   have hc'2:=hc'
   obtain ⟨o',ho',hd'⟩:=hc'2
   have A1:=AftS.own (tk:=s.toks) S (mem_cells ha) (F.outC x a ha) (F.newC x a hl ha) hs' ⟨o',ho'⟩
   obtain ⟨mm,hmm⟩:=F.ns
   have hL:∀ o,s.heap.get? env.locals=some o→h'.get? env.locals=some o:=fun o q=>(hs'.2 _ (Ne.symm (F.outLC x a ha))).trans q
   refine hq _ A1 ⟨⟨⟨F.kind,F.glob,F.blt,F.gk,fun y w hw hv=>?_,⟨mm,zc2 hmm hL⟩,F.outL,F.outC,hdot⟩,fun y b e=>?_,F.all,F.ck⟩,F.scope,F.inj,F.outLC,F.newL,F.newC,fun b hb=>?_⟩
   ·rw [look_setV] at hw
    by_cases hyx:y=x
    ·subst hyx
     rw [if_pos rfl] at hw;obtain rfl:=sj hw
     exact .inr ⟨.inl kx,a,v,ha,hc',r⟩
    ·rw [if_neg (fun q=>hyx (key_inj q).symm)] at hw
     rcases F.vk y w hw hv with ⟨k,m',u,h1,h2,h3⟩ | ⟨k,b,u,h1,⟨o,h2,h4⟩,h3⟩
     ·exact .inl ⟨k,m',u,zc2 h1 hL,h2,h3⟩
     ·exact .inr ⟨k,b,u,h1,⟨o,(hs'.2 b (fun q=>hyx (F.inj y x a (q▸h1) ha))).trans h2,h4⟩,h3⟩
   ·by_cases hyx:b=a
    ·subst hyx;exact ⟨_,hc'⟩
    ·obtain ⟨u,o,ho,hd⟩:=F.up y b e
     exact ⟨u,o,(hs'.2 b hyx).trans ho,hd⟩
   ·obtain ⟨o,ho⟩:=F.upL b hb
    by_cases q:b=a
    ·subst q;exact ⟨o',ho'⟩
    ·exact ⟨o,(hs'.2 b q).trans ho⟩
  ·exact nsf e
end
inductive FlowRel (τ:List Addr):AFlow→Flow→Prop
 | next:FlowRel τ .next .next
 | brk:FlowRel τ .brk .brk
 | ret {v:AV} {x:Value} (r:v.Rel τ x):FlowRel τ (.ret v) (.ret x)
noncomputable def WX (c:Cx) (A:Around) (env:Env) (sc:Scope) (t:Sem Flow) (σ:List Addr) (r:ExR) (s:Shared):Prop :=
 ∀ (Q:Flow→Shared→Prop) (E:Value→Shared→Prop),(∀ τ s' fl,AftS c σ r.2.2 env s τ s'→SF c sc r.2.1 env (σ++τ) s'.heap→FlowRel (σ++τ) r.1 fl→Q fl s')→wpAny (model c.prog c.w) A t Q E s
section
variable {c:Cx} {A:Around} {σ:List Addr} {H H' H'':List AO} {s:Shared} {env:Env} {sc:Scope} {vars:Vars} {call:CallT} {n m:Nat}
theorem WX.use {t:Sem Flow} {r:ExR} {Q:Flow→Shared→Prop} {E:Value→Shared→Prop} (x:WX c A env sc t σ r s)
  (h:∀ τ s' fl,AftS c σ r.2.2 env s τ s'→SF c sc r.2.1 env (σ++τ) s'.heap→FlowRel (σ++τ) r.1 fl→Q fl s'):wpAny (model c.prog c.w) A t Q E s:=x Q E h
noncomputable def IHs (c:Cx) (call:CallT) (n m:Nat):Prop :=
 ∀ (A:Around) (sc:Scope) (vars:Vars) (env:Env) (st:Stmt) (H:List AO) (r:ExR) (σ:List Addr) (s:Shared),
  Room A m→SF c sc vars env σ s.heap→St c σ H s→exS c.G call n sc vars st H=some r→WX c A env sc (exec st env) σ r s
theorem AftS.move {τ:List Addr} {s1:Shared} {H1 Hi:List AO} {I:Addr} {h':Heap} (S1:St c σ H1 s1) (a:AftS c σ Hi env s1 τ s) (hI:s1.heap.get? I=none) (hIo:I∉σ++τ)
  (hk:∀ b o,b≠I→s.heap.get? b=some o→h'.get? b=some o) (tk:Nat):AftS c σ Hi env s1 τ { s with heap:=h',toks:=tk }:=by
 have ne:∀ b o,s1.heap.get? b=some o→b≠I:=fun b o e q=>by rw [q,hI] at e;exact nsf e
 refine ⟨⟨fun b o hb e=>hk b o (ne b o (S1.base b o hb e)) (a.st.base b o hb e),a.st.len,fun k b o e e'=>?_,a.st.nodup,a.st.fresh,a.st.fix,a.st.fixed,fun b o e=>let ⟨o',e'⟩:=S1.live b o e;let ⟨o'',e''⟩:=a.pres.there b o' e';⟨o'',hk b o'' (ne b o' e') e''⟩,a.st.nle⟩,⟨fun b o hb e=>hk b o (ne b o e) (a.pres.keep b o hb e),fun b o e=>?_,a.pres.gens,a.pres.os⟩,a.new⟩
 ·exact (a.st.objs k b o e e').keep fun ob q=>hk b ob (fun z=>hIo (z▸List.mem_of_getElem? e)) q
 ·obtain ⟨o',e'⟩:=a.pres.there b o e
  exact ⟨o',hk b o' (ne b o e) e'⟩
theorem SF.move {I:Addr} {h h':Heap} (F:SF c sc vars env σ h) (hI:I∉fadr env) (hk:∀ b o,b≠I→h.get? b=some o→h'.get? b=some o):SF c sc vars env σ h':=by
 have hL:env.locals≠I:=fun q=>hI (q▸List.mem_cons_self ..)
 have hC:∀ x a,env.cells.lookup x=some a→a≠I:=fun x a e q=>hI (q▸mem_cells e)
 obtain ⟨mm,hmm⟩:=F.ns
 refine ⟨⟨⟨F.kind,F.glob,F.blt,F.gk,fun y w hw hv=>?_,⟨mm,zc2 hmm fun o q=>hk _ o hL q⟩,F.outL,F.outC,F.nodot⟩,fun y b e=>?_,F.all,F.ck⟩,F.scope,F.inj,F.outLC,F.newL,F.newC,fun b hb=>?_⟩
 ·have:=(F.vk y w hw hv).keep (τ:=[]) (h':=h') (fun o q=>hk _ o hL q) fun a o q q'=>hk a o (hC y a q) q'
  simpa -iota using this
 ·obtain ⟨u,o,ho,hd⟩:=F.up y b e
  exact ⟨u,o,hk b o (hC y b e) ho,hd⟩
 ·obtain ⟨o,ho⟩:=F.upL b hb
  exact ⟨o,hk b o (fun q=>hI (q▸List.mem_cons_of_mem _ hb)) ho⟩
theorem not_fadr {I:Addr} (F:SF c sc vars env σ s.heap) (hI:s.heap.get? I=none):I∉fadr env:=fun q=>by
 rcases List.mem_cons.mp q with q | q
 ·obtain ⟨m0,o,_,_,ho,_⟩:=F.ns
  rw [← q,hI] at ho;exact nsf ho
 ·obtain ⟨o,ho⟩:=F.upL I q
  rw [hI] at ho;exact nsf ho
theorem store_after {τ:List Addr} {s1:Shared} {x:Str} {av:AV} {v:Value} {vars':Vars} (a:Aft c σ H' s τ s1) (F:SF c sc vars env σ s.heap) (r:av.Rel (σ++τ) v) (e:st1 sc x av vars=some vars')
  {Q:Unit→Shared→Prop} {E:Value→Shared→Prop} (hq:∀ s',AftS c σ H' env s τ s'→SF c sc vars' env (σ++τ) s'.heap→Q () s'):wpAny (model c.prog c.w) A (storeName env x v) Q E s1 :=
 zca (F.aft a) a.st r e fun s' b F'=>hq s' (by have:=a.toS.trans b;simpa -iota using this) F'
noncomputable def notCompr:Expr→Bool
 | .ListComp .. | .SetComp .. | .DictComp ..=>false
 | _=>true
theorem swaps_no {value:Expr} {t:Option Expr} {line:Nat} (h:notCompr value=true):swapsWith value t line env=pure false:=by
 cases value<;>first | rfl | (first | exact nsf h | exact ftf h)
theorem asComp_sound {x y:Str} {px py pos p:Pos} {elt iter:Expr} {ifs:List Expr} {sc':Scope} {v:AV} {H1:List AO} {vars':Vars} (Ie:IHe c call n m) (It:IHt c call n m) (Rm:Room A m) (F:SF c sc vars env σ s.heap) (S:St c σ H s)
  (hb:swapsWith (.ListComp elt [⟨.Name y py,iter,ifs,0⟩] sc' p) (some (.Name x px)) pos.line env=pure true)
  (e1:evComp (ev c.G call n sc vars) (ev c.G call n sc') (tst c.G call n sc') sc sc' vars elt y iter ifs H=some (v,H1)) (e2:st1 sc x v vars=some vars') :
  WX c A env sc (exec (.Assign [.Name x px] (.ListComp elt [⟨.Name y py,iter,ifs,0⟩] sc' p) pos) env) σ (.next,vars',H1) s:=by
 obtain ⟨hok,e1⟩:=Mine.ifs e1
 refine za4 e1 fun it H2 g1 e1=>?_
 refine za4 e1 fun isL all g2 e1=>?_
 refine bind_some e1 fun Hf g3 e1=>?_
 refine opjk e1 ?_;rintro rfl rfl
 have hok:=and4 hok
 intro Q E hq
 rw [exec_Assign_Name_used x px _ pos hb]
 refine wpAny_bind (wpAny_standAt ?_)
 show wpAny _ A (do
  evalThenUse (.ListComp elt [⟨.Name y py,iter,ifs,0⟩] sc' p) env (assign (.Name x px) env)
  pure .next) Q E s
 refine wpAny_bind ?_
 show wpAny _ A (do
  let _ ← comprehension (.ListComp elt [⟨.Name y py,iter,ifs,0⟩] sc' p) sc' env (firstIterPos [⟨.Name y py,iter,ifs,0⟩] p) (newList []) false (eval iter env) (some (assign (.Name x px) env))
  pure PUnit.unit) _ E s
 refine wpAny_bind ?_
 refine comp_gen (use:=some (assign (.Name x px) env)) Ie It Rm F.toFr' S hok.1 hok.2 g1 g2 g3 fun τ C D se a rr hnC hC hCn=>?_
 have hCc:=not_fadr F hCn
 show wpAny _ A (assign (.Name x px) env (.ref D)) (fun _ s''=>∃ m,s''.heap.Ns C m∧∀ h',Heap.SameBut C s''.heap h'→wpAny _ A (pure PUnit.unit) (fun _ s=>wpAny _ A (pure Flow.next) Q E s) E { s'' with heap:=h' }) E se
 refine wpAny_assign_Name (zca (F.aft a) a.st rr e2 fun s' b F'=>?_)
 obtain ⟨mm,hnC⟩:=hnC
 refine ⟨mm,zc2 hnC fun o q=>b.pres.keep C o (fun z=>(List.mem_append.mp z).elim hC hCc) q,fun h' hs=>wpAny_pure (wpAny_pure ?_)⟩
 have a1:=a.toS.trans b
 rw [List.append_nil] at a1
 exact hq τ _ .next (a1.move S hCn hC (fun b o hb e=>(hs.2 b hb).trans e) s'.toks) (F'.move hCc fun b o hb e=>(hs.2 b hb).trans e) .next
theorem asName_plain {x:Str} {px pos:Pos} {e:Expr} {v:AV} {H1:List AO} {vars':Vars} (Ie:IHe c call n m) (Rm:Room A m) (F:SF c sc vars env σ s.heap) (S:St c σ H s) (e1:ev c.G call n sc vars e H=some (v,H1)) (e2:st1 sc x v vars=some vars')
  (hs:swapsWith e (some (.Name x px)) pos.line env=pure false):WX c A env sc (exec (.Assign [.Name x px] e pos) env) σ (.next,vars',H1) s:=by
 intro Q E hq
 refine wpAny_Assign_Name ((Ie A sc vars env e H v H1 σ s Rm F.toFr' S e1).use fun τ1 s1 v1 a1 r1=>?_) hs
 exact store_after a1 F r1 e2 fun s' b F'=>hq τ1 s' .next b F' .next
theorem asName_sound {x:Str} {px pos:Pos} {e:Expr} {r:ExR} (Ie:IHe c call n m) (It:IHt c call n m) (Ie':IHe c call (n - 1) m) (It':IHt c call (n - 1) m) (Rm:Room A m) (F:SF c sc vars env σ s.heap) (S:St c σ H s)
  (h:asName sc (ev c.G call n sc vars) x e vars H=some r):WX c A env sc (exec (.Assign [.Name x px] e pos) env) σ r s:=by
 refine za4 h fun v H1 e1 h=>?_
 refine bind_some h fun vars' e2 h=>?_
 obtain rfl:=sj h
 cases hc:notCompr e with
 | true=>exact asName_plain Ie Rm F S e1 e2 (swaps_no hc)
 | false =>
  cases e with
  | ListComp elt gens sc' p =>
   obtain ⟨b,hb⟩:∃ b:Bool,swapsWith (.ListComp elt gens sc' p) (some (.Name x px)) pos.line env=pure b:=⟨_,rfl⟩
   cases b with
   | false=>exact asName_plain Ie Rm F S e1 e2 hb
   | true =>
    cases n with
    | zero=>exact nsf e1
    | succ n =>
     obtain ⟨y,py,iter,ifs,rfl,e1⟩:=evComps_some (show evComps (ev c.G call n sc vars) (ev c.G call n) (tst c.G call n) sc sc' vars elt gens H=some (v,H1) from e1)
     exact asComp_sound Ie' It' Rm F S hb e1 e2
  | SetComp _ _ _ _=>cases n<;>exact nsf e1
  | DictComp _ _ _ _ _=>cases n<;>exact nsf e1
  | _=>exact ftf hc.symm
end
section
variable {c:Cx} {A:Around} {σ:List Addr} {H H' H'':List AO} {s:Shared} {env:Env} {sc:Scope} {vars:Vars} {call:CallT} {n m:Nat}
theorem SF.congr {v1 v2:Vars} {h:Heap} (F:SF c sc v1 env σ h) (e:∀ k,look k v1=look k v2):SF c sc v2 env σ h :=
 ⟨⟨⟨F.kind,F.glob,F.blt,F.gk,fun x av q=>F.vk x av ((e _).trans q),F.ns,F.outL,F.outC,(e _).symm.trans F.nodot⟩,F.up,F.all,F.ck⟩,F.scope,F.inj,F.outLC,F.newL,F.newC,F.upL⟩
noncomputable def setAll:List (Str×AV)→Vars→Vars
 | [],vars=>vars
 | p::ps,vars=>setAll ps (setV (key p.1) p.2 vars)
noncomputable def Storable (sc:Scope) (x:Str):Prop:=x≠(".0":Str)∧(sc.names.lookup x=some .local∨sc.names.lookup x=some .cell)
theorem st1_of {x:Str} (h:Storable sc x) (v:AV) (vars:Vars):st1 sc x v vars=some (setV (key x) v vars):=by
 unfold st1
 rw [if_neg h.1]
 rcases h.2 with q | q<;>rw [q]
theorem storable_of {x:Str} {v:AV} {vars':Vars} (h:st1 sc x v vars=some vars'):Storable sc x∧vars'=setV (key x) v vars:=by
 unfold st1 at h
 split at h
 ·exact nsf h
 ·rename_i hd
  split at h
  ·rename_i q;obtain rfl:=sj h;exact ⟨⟨hd,.inl q⟩,rfl⟩
  ·rename_i q;obtain rfl:=sj h;exact ⟨⟨hd,.inr q⟩,rfl⟩
  ·exact nsf h
theorem stN_of:∀ {xs:List Str} {vs:List AV} {vars vars':Vars},stN sc xs vs vars=some vars'→xs.length=vs.length∧(∀ x∈xs,Storable sc x)∧vars'=setAll (xs.zip vs) vars
 | [],[],vars,vars',h=>by obtain rfl:=sj h;exact ⟨rfl,(fun _ q=>nomatch q),rfl⟩
 | x::xs,v::vs,vars,vars',h=>by
  refine bind_some h fun v1 h1 h=>?_
  obtain ⟨g1,g2⟩:=storable_of h1
  subst g2
  obtain ⟨k1,k2,k3⟩:=stN_of h
  exact ⟨by simp -iota [k1],fun y hy=>(List.mem_cons.mp hy).elim (fun q=>q▸g1) (k2 y),k3⟩
 | [],_::_,_,_,h=>by exact nsf h
 | _::_,[],_,_,h=>by exact nsf h
theorem ze6 {k:Nat}:∀ {ps:List (Str×AV)} {vars:Vars},(∀ p∈ps,key p.1≠k)→look k (setAll ps vars)=look k vars
 | [],_,_=>rfl
 | p::ps,vars,h=>by
  show look k (setAll ps (setV (key p.1) p.2 vars))=_
  rw [ze6 fun q hq=>h q (List.mem_cons_of_mem _ hq),look_setV,if_neg (h p (List.mem_cons_self ..))]
theorem look_setAll_mem {x:Str} {v:AV}:∀ {ps:List (Str×AV)} {vars:Vars},(ps.map (·.1)).Nodup→(x,v)∈ps→look (key x) (setAll ps vars)=some v
 | p::ps,vars,hn,h=>by
  rw [List.map_cons,List.nodup_cons] at hn
  show look (key x) (setAll ps (setV (key p.1) p.2 vars))=_
  rcases List.mem_cons.mp h with q | q
  ·subst q
   rw [ze6 fun q hq e=>hn.1 (List.mem_map.mpr ⟨q,hq,key_inj e⟩),look_setV,if_pos rfl]
  ·exact look_setAll_mem hn.2 q
theorem look_setAll_rev {k:Nat} {ps:List (Str×AV)} {vars:Vars} (hn:(ps.map (·.1)).Nodup):look k (setAll ps.reverse vars)=look k (setAll ps vars):=by
 by_cases h:∃ p∈ps,key p.1=k
 ·obtain ⟨⟨x,v⟩,hp,rfl⟩:=h
  rw [look_setAll_mem hn hp,look_setAll_mem (by rw [List.map_reverse];exact List.pairwise_reverse.mpr (hn.imp fun h=>Ne.symm h)) (List.mem_reverse.mpr hp)]
 ·have h':∀ p∈ps,key p.1≠k:=fun p hp e=>h ⟨p,hp,e⟩
  rw [ze6 h',ze6 fun p hp=>h' p (List.mem_reverse.mp hp)]
theorem stores_sound {E:Value→Shared→Prop}:∀ (ps:List (Str×AV)) (ts:List (Value→Sem Unit)) (us:List Value) {vars:Vars} {s:Shared} {Q:Unit→Shared→Prop},ts.length=ps.length →
  (∀ (i:Nat) (t:Value→Sem Unit) (x:Str) (av:AV),ts[i]?=some t→ps[i]?=some (x,av)→∀ (v:Value) (Q:Unit→Shared→Prop) (s:Shared),wpAny (model c.prog c.w) A (storeName env x v) Q E s→wpAny (model c.prog c.w) A (t v) Q E s) →
  RelL σ (ps.map (·.2)) us→(∀ p∈ps,Storable sc p.1)→SF c sc vars env σ s.heap→St c σ H s →
  (∀ s',AftS c σ H env s [] s'→SF c sc (setAll ps vars) env σ s'.heap→Q () s')→wpAny (model c.prog c.w) A (assignInOrder ts us) Q E s
 | [],[],us,vars,s,Q,_,_,r,_,F,S,hq=>assignInOrder_nil (hq s (Aft.toS (Aft.refl S)) F)
 | (x,av)::ps,t::ts,[],vars,s,Q,_,_,r,_,F,S,hq=>r.elim
 | (x,av)::ps,t::ts,u::us,vars,s,Q,hl,ht,r,hst,F,S,hq=>by
  refine assignInOrder_cons (ht 0 t x av rfl rfl u _ s ?_)
  refine zca F S r.1 (st1_of (hst _ (List.mem_cons_self ..)) av vars) fun s1 a1 F1=>?_
  have S1:St c σ H s1:=by have:=a1.st;rwa [List.append_nil] at this
  refine stores_sound ps ts us (by simpa -iota using hl) (fun i t' x' av' h1 h2=>ht (i + 1) t' x' av' (by simpa -iota using h1) (by simpa -iota using h2)) r.2 (fun p hp=>hst p (List.mem_cons_of_mem _ hp)) F1 S1 fun s2 a2 F2=>?_
  have a1':AftS c σ H env s [] s1:=a1
  have a2':AftS c (σ++[]) H env s1 [] s2:=by rw [List.append_nil];exact a2
  exact hq s2 (by have:=a1'.trans a2';simpa -iota using this) F2
 | [],_::_,_,_,_,_,hl,_,_,_,_,_,_=>by cases hl
 | _::_,[],_,_,_,_,hl,_,_,_,_,_,_=>by cases hl
theorem swapped_scr {sc0:Scope} {ts vs:List Expr} (hs:ScR sc0 sc):swapped sc ts vs=swapped sc0 ts vs:=by
 have h:∀ x,(sc.names.lookup x == some .local)=(sc0.names.lookup x == some .local):=fun x=>by
  by_cases q:sc0.names.lookup x=some .local
  ·rw [q,(hs.loc x).mp q]
  ·rw [beq_eq_false_iff_ne.mpr q,beq_eq_false_iff_ne.mpr fun z=>q ((hs.loc x).mpr z)]
 unfold swapped
 simp -iota only [h]
theorem swappedStores_eq {ts vs:List Expr} {k k2:Nat} {p p2:Pos} {sw:Option (List Str)} (hs:ScR env.scope sc) (hk:env.scope.kind=.function) (e:swapped sc ts vs=some sw) :
  swappedStores [.Tuple ts k p] (.Tuple vs k2 p2) env=pure sw:=by
 rw [swapped_scr hs] at e
 have hb:(env.blockKind != .function)=false:=by unfold Env.blockKind;rw [hk];rfl
 unfold swapped at e
 unfold swappedStores
 simp -iota only [hb,Bool.or_false]
 unfold Env.kindOf
 split at e
 ·rename_i h1
  obtain rfl:=sj e;exact if_pos h1
 ·rename_i h1
  refine (if_neg h1).trans ?_
  split at e
  ·rename_i h2
   obtain rfl:=sj e;exact if_pos h2
  ·rename_i h2
   refine (if_neg h2).trans ?_
   dsimp only at e ⊢
   split at e
   ·rename_i h3
    obtain rfl:=sj e;exact if_pos h3
   ·rename_i h3
    refine (if_neg h3).trans ?_
    split at e
    ·rename_i h4
     obtain rfl:=sj e;exact if_pos h4
    ·rename_i h4
     refine (if_neg h4).trans ?_
     split at e
     ·exact nsf e
     ·rename_i h5
      obtain rfl:=sj e;exact if_neg h5
end
section
variable {c:Cx} {A:Around} {σ:List Addr} {H H' H'':List AO} {s:Shared} {env:Env} {sc:Scope} {vars:Vars} {call:CallT} {n m:Nat}
theorem namesOf_cons {e:Expr} {ts:List Expr} {names:List Str} (h:namesOf (e::ts)=some names) {Γ:Prop} (κ:∀ x p ns,e=.Name x p→namesOf ts=some ns→names=x::ns→Γ):Γ:=by
 cases e with
 | Name x p =>
  refine bind_some (x:=namesOf ts) (f:=fun z=>some (x::z)) h fun ns h1 h=>?_
  exact κ x p ns rfl h1 ((sj h).symm)
 | _=>exact nsf h
theorem namesOf_assign:∀ {ts:List Expr} {names:List Str},namesOf ts=some names→(assignEach ts env).length=names.length∧(assignEach ts env).findIdx? (·.1)=none∧ts.length=names.length ∧
  (∀ (i:Nat) (t:Value→Sem Unit) (x:Str),((assignEach ts env).map (·.2))[i]?=some t→names[i]?=some x→∃ p,t=assign (.Name x p) env)
 | [],names,h=>by obtain rfl:=sj h;exact ⟨rfl,rfl,rfl,fun i t x h=>nsf h⟩
 | e::ts,names,h=>by
  refine namesOf_cons h ?_;rintro x p ns rfl h1 rfl
  obtain ⟨g1,g2,g3,g4⟩:=namesOf_assign h1
  have e1:assignEach (.Name x p::ts) env=(false,assign (.Name x p) env)::assignEach ts env:=rfl
  refine ⟨congrArg Nat.succ g1,by rw [e1,List.findIdx?_cons];simp -iota [g2],congrArg Nat.succ g3,fun i t y h q=>?_⟩
  cases i with
  | zero=>obtain rfl:=sj h;obtain rfl:=sj q;exact ⟨p,rfl⟩
  | succ i=>exact g4 i t y h q
theorem names_same {f:Expr→Option Str} (hf:∀ id pos,f (.Name id pos)=some id∨f (.Name id pos)=none):∀ {ts:List Expr} {names:List Str},namesOf ts=some names→(ts.filterMap f).length=ts.length→ts.filterMap f=names
 | [],names,h,_=>by obtain rfl:=sj h;rfl
 | e::ts,names,h,hl=>by
  refine namesOf_cons h ?_;rintro x p ns rfl h1 rfl
  rw [List.filterMap_cons] at hl ⊢
  rcases hf x p with q | q
  ·rw [q] at hl ⊢
   rw [names_same hf h1 (Nat.succ.inj hl)]
  ·rw [q] at hl
   have:=List.length_filterMap_le f ts
   rw [show (ts.filterMap f).length=ts.length + 1 from hl] at this
   exact absurd this (Nat.not_succ_le_self _)
theorem swapped_names {ts vs:List Expr} {names names':List Str} (h:namesOf ts=some names) (e:swapped sc ts vs=some (some names')):names'=names:=by
 unfold swapped at e
 split at e
 ·cases e
 ·split at e
  ·cases e
  ·dsimp only at e
   split at e
   ·cases e
   ·rename_i h3
    split at e
    ·cases e
    ·split at e
     ·exact nsf e
     ·cases e
      simp -iota only [bne_iff_ne,Bool.or_eq_true,ne_eq,not_or,Decidable.not_not] at h3
      refine names_same (fun id pos=>?_) h h3.1
      dsimp only
      split
      ·exact .inl rfl
      ·exact .inr rfl
theorem asTup_sound {k k2:Nat} {p p2 pos:Pos} {ts vs:List Expr} {r:ExR} (Ie:IHe c call n m) (Rm:Room A m) (F:SF c sc vars env σ s.heap) (S:St c σ H s)
  (h:asTup sc (ev c.G call n sc vars) ts vs vars H=some r):WX c A env sc (exec (.Assign [.Tuple ts k p] (.Tuple vs k2 p2) pos) env) σ r s:=by
 refine bind_some h fun names e1 h=>?_
 refine bind_some h fun sw e2 h=>?_
 refine za4 h fun xs H1 e3 h=>?_
 dsimp only at h
 refine ifsk h fun hc h=>?_
 simp -iota only [Bool.and_eq_true,decide_eq_true_eq] at hc
 have hnx:names.length=xs.length:=hc.1.1
 refine bind_some h fun vars' e4 h=>?_
 obtain rfl:=sj h
 obtain ⟨g1,g2,g3⟩:=stN_of e4
 subst g3
 obtain ⟨n1,n2,n3,n4⟩:=namesOf_assign (env:=env) e1
 have hsw:=swappedStores_eq (env:=env) (k:=k) (k2:=k2) (p:=p) (p2:=p2) F.scope F.kind e2
 intro Q E hq
 have make:∀ (K:Value→Shared→Prop),(∀ τ s2 t its,Aft c σ H1 s τ s2→RelL (σ++τ) xs its→s2.heap.IsTuple t its.toArray→K (.ref t) s2)→wpAny (model c.prog c.w) A (eval (.Tuple vs k2 p2) env) K E s:=by
  intro K hK
  refine wpAny_Tuple ((spliced_sound Ie Rm p2 vs F.toFr' S e3).use fun τ1 s1 v1 a1 r1=>?_)
  have hlen:=r1.length
  refine ⟨by rw [zbe];omega,?_⟩
  have a2:Aft c (σ++τ1) H1 s1 [] { s1 with heap:=s1.heap.push { cls:=.type "tuple",data:=.seq v1.toArray },toks:=s1.toks }:=Aft.heap a1.st s1.toks fun b o q=>Heap.get?_push_of_some _ q
  have:=a1.trans a2
  rw [List.append_nil] at this
  exact hK τ1 _ _ v1 this r1 ⟨_,Heap.get?_push_size _ rfl,rfl,_,rfl⟩
 have fin:∀ (τ:List Addr) (s3:Shared) (qs:List (Str×AV)) (tt:List (Value→Sem Unit)) (us:List Value),(qs=names.zip xs∨qs=(names.zip xs).reverse)→Aft c σ H1 s τ s3→tt.length=qs.length →
   (∀ (i:Nat) (t:Value→Sem Unit) (x:Str) (av:AV),tt[i]?=some t→qs[i]?=some (x,av)→∀ (v:Value) (Q:Unit→Shared→Prop) (s:Shared),wpAny (model c.prog c.w) A (storeName env x v) Q E s→wpAny (model c.prog c.w) A (t v) Q E s) →
   RelL (σ++τ) (qs.map (·.2)) us→wpAny (model c.prog c.w) A (assignInOrder tt us) (fun _=>Q .next) E s3:=by
  intro τ s3 qs tt us hqs a hl ht hr
  have hnd:((names.zip xs).map (·.1)).Nodup:=by rw [List.map_fst_zip (Nat.le_of_eq hnx)];exact hc.1.2
  have hst:∀ p∈qs,Storable sc p.1:=fun p hp=>by
   have hp':p∈names.zip xs:=by rcases hqs with q | q<;>rw [q] at hp<;>simpa -iota using hp
   exact g2 p.1 (List.of_mem_zip hp').1
  refine stores_sound qs tt us hl ht hr hst (F.aft a) a.st fun s4 b F4=>?_
  have b':AftS c σ H1 env s τ s4:=by have:=a.toS.trans b;simpa -iota using this
  refine hq τ s4 .next b' (F4.congr fun k=>?_) .next
  rcases hqs with q | q
  ·rw [q]
  ·rw [q];exact look_setAll_rev hnd
 have hs0:swapsWithSole [.Tuple ts k p] (.Tuple vs k2 p2) pos.line env=pure false:=rfl
 have hzl:(names.zip xs).length=names.length:=by rw [List.length_zip,← hnx,Nat.min_self]
 have hz2:(names.zip xs).map (·.2)=xs:=List.map_snd_zip (Nat.le_of_eq hnx.symm)
 cases sw with
 | none =>
  refine Assign_Tuple ?_ hs0 hsw
  refine make _ fun τ s2 t its a hr hT=>?_
  have hlen:=hr.length
  refine wpAny_assign_Tuple Rm.handled hT (by rw [n1,List.size_toArray,hlen,hnx]) n2 fun h' hx=>?_
  have hxk:∀ b o,s2.heap.get? b=some o→h'.get? b=some o:=fun b o q=>hx b o (Nat.ne_of_lt (Heap.lt_size q)) q
  have a3:Aft c σ H1 s τ { s2 with heap:=h' }:=by
   have:=a.trans (Aft.heap (h':=h') a.st s2.toks hxk)
   simpa -iota using this
  refine fin τ { s2 with heap:=h' } (names.zip xs) _ _ (.inl rfl) a3 (by rw [List.length_map,n1,hzl]) (fun i t x av h1 h2 v Q s hw=>?_) (by rw [hz2];simpa -iota using hr)
  obtain ⟨p',rfl⟩:=n4 i t x h1 (List.getElem?_zip_eq_some.mp h2).1
  exact wpAny_assign_Name hw
 | some names' =>
  have:=swapped_names e1 e2
  subst this
  refine Assign_Tuple_swapped ?_ hs0 hsw
  refine make _ fun τ s2 t its a hr hT=>?_
  have hlen:=hr.length
  have hsz:names'.length=its.toArray.size:=by rw [List.size_toArray,hlen,hnx]
  rw [hsz]
  refine wpAny_unpackItems_tuple Rm.handled hT fun h' hx=>?_
  have hxk:∀ b o,s2.heap.get? b=some o→h'.get? b=some o:=fun b o q=>hx b o (Nat.ne_of_lt (Heap.lt_size q)) q
  have a3:Aft c σ H1 s τ { s2 with heap:=h' }:=by
   have:=a.trans (Aft.heap (h':=h') a.st s2.toks hxk)
   simpa -iota using this
  refine fin τ { s2 with heap:=h' } (names'.zip xs).reverse _ _ (.inr rfl) a3 (by simp -iota [hzl]) (fun i t x av h1 h2 v Q s hw=>?_) ?_
  ·rw [List.getElem?_map] at h1
   have hx':names'.reverse[i]?=some x:=by
    have:((names'.zip xs).reverse.map (·.1))[i]?=some x:=by rw [List.getElem?_map,h2];rfl
    rwa [List.map_reverse,List.map_fst_zip (Nat.le_of_eq hnx)] at this
   rw [hx'] at h1
   obtain rfl:=sj h1
   exact wpAny_bindName hw
  ·rw [List.map_reverse,hz2]
   simpa -iota using hr.reverse
theorem asUnp_sound {k:Nat} {p p2 pos:Pos} {ts:List Expr} {t0 b0 o0:Expr} {r:ExR} (Ie:IHe c call n m) (Rm:Room A m) (F:SF c sc vars env σ s.heap) (S:St c σ H s)
  (h:asUnp sc (ev c.G call n sc vars) ts (.IfExp t0 b0 o0 p2) vars H=some r):WX c A env sc (exec (.Assign [.Tuple ts k p] (.IfExp t0 b0 o0 p2) pos) env) σ r s:=by
 refine bind_some h fun names e1 h=>?_
 refine za4 h fun v H1 e3 h=>?_
 refine za3 h fun xs e4 h=>?_
 refine ifsk h fun hc h=>?_
 simp -iota only [Bool.and_eq_true,decide_eq_true_eq] at hc
 refine za3 h fun vars' e5 h=>?_
 obtain rfl:=sj h
 obtain ⟨g1,g2,g3⟩:=stN_of e5
 subst g3
 obtain ⟨n1,n2,n3,n4⟩:=namesOf_assign (env:=env) e1
 intro Q E hq
 refine Assign_Tuple ((Ie A sc vars env _ H v H1 σ s Rm F.toFr' S e3).use fun τ s2 vv a rv=>?_) rfl rfl
 refine zd8 a.st rv e4 ?_;rintro l ws nn rfl h2 h3 h4
 have hlen:=h3.length
 rw [assign_Tuple]
 refine wpAny_bind (wpAny_standAt ?_)
 unfold unpack
 rw [show (assignEach ts env).length=ws.toArray.size from by rw [n1,List.size_toArray,hlen,hc.1.1],n2]
 refine wpAny_bind (wpAny_holding (PySem.W.kun_itemsOf Rm.handled (s:=s2) ⟨_,h2,rfl,nn,rfl⟩ fun h' hx=>?_))
 have hxk:∀ b o,s2.heap.get? b=some o→h'.get? b=some o:=fun b o q=>hx b o (Nat.ne_of_lt (Heap.lt_size q)) q
 have a3:Aft c σ H1 s τ { s2 with heap:=h' }:=by
  have:=a.trans (Aft.heap (h':=h') a.st s2.toks hxk)
  simpa -iota using this
 have hzl:(names.zip xs).length=names.length:=by rw [List.length_zip,← hc.1.1,Nat.min_self]
 have hz2:(names.zip xs).map (·.2)=xs:=List.map_snd_zip (Nat.le_of_eq hc.1.1.symm)
 refine stores_sound (names.zip xs) _ ws (by rw [List.length_map,n1,hzl]) (fun i t x av h1 h2 v Q s hw=>?_) (by rw [hz2];exact h3) (fun p hp=>g2 p.1 (List.of_mem_zip hp).1) (F.aft a3) a3.st fun s4 b F4=>?_
 ·obtain ⟨p',rfl⟩:=n4 i t x h1 (List.getElem?_zip_eq_some.mp h2).1
  exact wpAny_assign_Name hw
 ·have b':AftS c σ H1 env s τ s4:=by have:=a3.toS.trans b;simpa -iota using this
  exact hq τ s4 .next b' (F4.congr fun k=>rfl) .next
end
section
variable {prog:Program} {w:World} {A:Around} {E:Value→Shared→Prop} {s:Shared}
theorem setItem_upd {l:Addr} {o:Obj} {items:Array Value} {ne:Nat} {k:Int} {t:Tok} {v:Value} {Q:Unit→Shared→Prop} (ho:s.heap.get? l=some o) (hc:o.cls=.type "list") (hd:o.data=.seq items ne)
  (h0:0≤k) (hfit:k < 2 ^ 63) (hn:k < items.size)
  (hQ:Q () { s with heap:=s.heap.update l (Obj.mapSeq (·.setIfInBounds k.toNat v)) }):wpAny (model prog w) A (setItem (.ref l) (.int k t) v) Q E s:=by
 have hl:s.heap.IsList l items:=⟨o,ho,hc,ne,hd⟩
 unfold setItem
 try with_reducible refine wpAny_holding ?_
 first | refine wpAny_bind (wpAny_pure ?_) | skip
 refine wpAny_bind (wpAny_sequenceKey hl.typeIs (by decide) ?_)
 refine wpAny_bind (wpAny_callSpecial?_slot (name:=Str.ofString "__setitem__") hl.typeIs PySem.slot_list_setitem
  (wpAny_call_entry PySem.slot_list_setitem hl.typeIs PySem.entry_list_setitem ?_ (args_list_setitem _ _ _)))
 show wpAny _ _ (Builtin.List.listSubscript? (.int k t) >>= _) _ _ s
 refine wpAny_bind (wpAny_listSubscript_int (fitsIndex_of h0 hfit) ?_)
 clear hfit
 obtain ⟨j,rfl⟩:=Int.eq_ofNat_of_zero_le h0
 have hj:j < items.size:=by omega
 have hx':items[j]?=some items[j]:=Array.getElem?_eq_getElem hj
 show wpAny _ _ ((seqItemAt l j >>= fun r=>pure (r.map (j,·))) >>= _) _ _ s
 refine wpAny_bind (wpAny_bind (wpAny_seqItemAt ho hd (wpAny_pure ?_)))
 rw [hx']
 show wpAny _ _ (setSeqItemAt l j v >>= _) _ _ s
 refine wpAny_bind (wpAny_setSeqItemAt ho hd ?_)
 first
  | exact wpAny_bind (wpAny_pure (wpAny_pure ⟨.none,rfl,wpAny_pure hQ⟩))
  | exact wpAny_pure ⟨.none,rfl,wpAny_pure hQ⟩
end
section
variable {c:Cx} {A:Around} {σ:List Addr} {H H' H'':List AO} {s:Shared} {env:Env} {sc:Scope} {vars:Vars} {call:CallT} {n m:Nat}
theorem WX.after {t:Sem Flow} {τ:List Addr} {s':Shared} {r:ExR} {Q:Flow→Shared→Prop} {E:Value→Shared→Prop} (a:AftS c σ H env s τ s') (x:WX c A env sc t (σ++τ) r s')
  (hq:∀ τ s'' fl,AftS c σ r.2.2 env s τ s''→SF c sc r.2.1 env (σ++τ) s''.heap→FlowRel (σ++τ) r.1 fl→Q fl s''):wpAny (model c.prog c.w) A t Q E s' :=
 x Q E fun τ' s'' fl a' F' r'=>hq (τ++τ') s'' fl (a.trans a') (by rw [← List.append_assoc];exact F') (by rw [← List.append_assoc];exact r')
theorem asTwo_sound {x y:Str} {px py pos:Pos} {e:Expr} {r:ExR} (Ie:IHe c call n m) (Rm:Room A m) (F:SF c sc vars env σ s.heap) (S:St c σ H s)
  (h:asTwo sc (ev c.G call n sc vars) x y e vars H=some r):WX c A env sc (exec (.Assign [.Name x px,.Name y py] e pos) env) σ r s:=by
 refine za4 h fun v H1 e1 h=>?_
 refine bind_some h fun v1 e2 h=>?_
 refine bind_some h fun v2 e3 h=>?_
 obtain rfl:=sj h
 intro Q E hq
 refine wpAny_Assign_two ((Ie A sc vars env e H v H1 σ s Rm F.toFr' S e1).use fun τ1 s1 u1 a1 r1=>?_)
 refine wpAny_assign_Name (store_after a1 F r1 e2 fun s2 a2 F2=>?_)
 refine wpAny_assign_Name (zca F2 a2.st r1 e3 fun s3 a3 F3=>?_)
 exact hq τ1 s3 .next (by have:=a2.trans a3;simpa -iota using this) F3 .next
theorem intOf_is {a:AV} {i:Int} (e:zc0 a=some i):a=.int i:=by
 cases a with
 | int j=>obtain rfl:=sj e;rfl
 | _=>exact nsf e
theorem Aft.setAt {k:Nat} {j:Int} {a:Addr} {ws:List Value} {nn:Nat} {xs:List AV} {v:AV} {u:Value} (S:St c σ H s) (e4:zah H (.obj k)=some xs) (k1:σ[k]?=some a) (k2:s.heap.get? a=some { cls:=.type "list",dict:=none,data:=.seq ws.toArray nn,slots:=#[] }) (k3:RelL σ xs ws) (k4:xs.length≤1048576) (rv:v.Rel σ u) :
  Aft c σ (H.set k (.list (xs.set j.toNat v))) s [] { s with heap:=s.heap.update a (Obj.mapSeq fun z=>z.setIfInBounds j.toNat u),toks:=s.toks } :=
 upd_list (tk:=s.toks) S e4 k1 k2 (f:=fun z=>z.setIfInBounds j.toNat u) (xs':=xs.set j.toNat v) (by simpa -iota using RelL.set rv j.toNat k3) (by rw [List.length_set];exact k4)
theorem swaps_none {o i:Expr} {p:Pos} {line:Nat} (e:Expr):swapsWith e (some (.Subscript o i p)) line env=pure false:=by cases e<;>rfl
theorem asItem_sound {o i e:Expr} {p' pos:Pos} {r:ExR} (Ie:IHe c call n m) (Rm:Room A m) (F:SF c sc vars env σ s.heap) (S:St c σ H s)
  (h:asItem (ev c.G call n sc vars) o i e vars H=some r):WX c A env sc (exec (.Assign [.Subscript o i p'] e pos) env) σ r s:=by
 refine za4 h fun v H1 e1 h=>?_
 refine za4 h fun ov H2 e2 h=>?_
 refine za4 h fun iv H3 e3 h=>?_
 refine za3 h fun j ej h=>?_
 refine zdp h fun k xs e5 h=>?_
 refine zcm h ?_;rintro hc rfl
 refine and4k hc fun h0 hj=>?_
 have h0:=of_decide_eq_true h0
 have hj:j < xs.length:=of_decide_eq_true hj
 cases intOf_is ej
 obtain ⟨rfl,e4⟩:=objL_some e5
 clear e5
 intro Q E hq
 refine wpAny_Assign_Subscript ((Ie A sc vars env e H v H1 σ s Rm F.toFr' S e1).use fun τ1 s1 u1 a1 r1=>?_) (swaps_none e)
 refine (Ie A sc vars env o H1 _ H2 _ s1 Rm (F.toFr'.aft a1) a1.st e2).use fun τ2 s2 u2 a2 r2=>?_
 refine (Ie A sc vars env i H2 _ H3 _ s2 Rm ((F.toFr'.aft a1).aft a2) a2.st e3).use fun τ3 s3 u3 a3 r3=>?_
 obtain ⟨t,rfl⟩:=r3
 have a123:=(a1.trans a2).trans (by rw [← List.append_assoc];exact a3)
 have hs:σ++τ1++τ2++τ3=σ++(τ1++τ2++τ3):=by rw [← List.append_assoc,← List.append_assoc]
 refine zd9 a123.st (hs▸r2.mono) e4 ?_;rintro a ws nn rfl k1 k2 k3 k4
 have hlen:=k3.length
 have rv:v.Rel (σ++(τ1++τ2++τ3)) u1:=hs▸r1.mono.mono
 have a5:=a123.trans (Aft.setAt (j:=j) a123.st e4 k1 k2 k3 k4 rv)
 rw [List.append_nil] at a5
 exact setItem_upd k2 rfl rfl h0 (by omega) (by rw [List.size_toArray];omega) (hq _ _ .next a5.toS (F.aft a5) .next)
theorem name_look {x:Str} {p:Pos} {a:AV} (hx:Storable sc x) (e:ev c.G call n sc vars (.Name x p) H=some (a,H')):look (key x) vars=some a∧H'=H:=by
 cases n with
 | zero=>exact nsf e
 | succ n =>
  replace e:evName c.G sc vars x H=some (a,H'):=e
  unfold evName at e
  split at e
  ·exact nsf e
  ·rcases hx.2 with q | q<;>rw [q] at e<;>dsimp only at e<;>(cases hg:look (key x) vars with
    | none=>rw [hg] at e;exact nsf e
    | some w=>rw [hg] at e;(first | exact nsf e | exact ftf e | exact snf e | obtain rfl:=sj e | refine opjs e ?_);exact ⟨rfl,rfl⟩)
noncomputable def AugOk (c:Cx) (A:Around) (op:Operator) (g:Int→Int→Int):Prop:=∀ (i j:Int) (s:Shared) (t u:Tok) (Q:Value→Shared→Prop) (E:Value→Shared→Prop),Q (.int (g i j) s.toks) { s with toks:=s.toks + 1 }→wpAny (model c.prog c.w) A (inplaceOp op (.int i t) (.int j u)) Q E s
theorem aug_ok {op:Operator} {g:Int→Int→Int} (e:augI op=some g):AugOk c A op g:=by
 cases op with
 | Add=>obtain rfl:=sj e;exact fun i j s t u Q E hq=>PySem.P.iadd_int hq
 | Sub=>obtain rfl:=sj e;exact fun i j s t u Q E hq=>PySem.P.isub_int hq
 | _=>exact nsf e
theorem asAug_sound {x:Str} {p pos:Pos} {op:Operator} {e:Expr} {r:ExR} (Ie:IHe c call n m) (Rm:Room A m) (F:SF c sc vars env σ s.heap) (S:St c σ H s)
  (h:asAug sc (ev c.G call n sc vars) x p op e vars H=some r):WX c A env sc (exec (.AugAssign (.Name x p) op e pos) env) σ r s:=by
 refine za4 h fun a H1 e1 h=>?_
 refine za4 h fun b H2 e2 h=>?_
 refine bind_some h fun g eg h=>?_
 refine bind_some h fun i ei h=>?_
 refine bind_some h fun j ej h=>?_
 refine bind_some h fun vars' hst h=>?_
 obtain rfl:=sj h
 cases intOf_is ei;cases intOf_is ej
 obtain ⟨hx,_⟩:=storable_of hst
 obtain ⟨hl,rfl⟩:=name_look hx e1
 clear e1 ei ej
 intro Q E hq
 have hv:isVar (sc.names.lookup x)=true:=by rcases hx.2 with q | q<;>rw [q]<;>rfl
 refine wpAny_AugAssign_Name ((var_sound S F.kind (F.vk x _ hl hv)).use fun τ1 s1 u1 a1 r1=>?_)
 refine (Ie A sc vars env e H1 _ H2 _ s1 Rm (F.toFr'.aft a1) a1.st e2).use fun τ2 s2 u2 a2 r2=>?_
 obtain ⟨t,rfl⟩:=r1
 obtain ⟨u,rfl⟩:=r2
 refine aug_ok eg i j s2 t u _ _ ?_
 have a3:=(a1.trans a2).trans (Aft.toks (a1.trans a2).st (s2.toks + 1))
 rw [List.append_nil] at a3
 exact store_after a3 F (show (AV.int (g i j)).Rel _ _ from ⟨_,rfl⟩) hst fun s4 a4 F4=>hq _ s4 .next a4 F4 .next
theorem zcw (Is:IHs c call n m) (Rm:Room A m):∀ (l:List Stmt) {vars:Vars} {σ:List Addr} {H:List AO} {s:Shared} {r:ExR},SF c sc vars env σ s.heap→St c σ H s→exLGo (exS c.G call n sc) l vars H=some r→WX c A env sc (execs l env) σ r s
 | [],vars,σ,H,s,r,F,S,h=>by
  obtain rfl:=sj h
  intro Q E hq
  exact wpAny_execs_nil (hq [] s .next (Aft.toS (Aft.refl S)) (by rw [List.append_nil];exact F) .next)
 | st::l,vars,σ,H,s,r,F,S,h=>by
  refine za4 h ?_;rintro f ⟨v1,H1⟩ e1 h
  intro Q E hq
  refine wpAny_execs_cons ((Is A sc vars env st H _ σ s Rm F S e1).use fun τ1 s1 fl a1 F1 r1=>?_)
  cases r1 with
  | next=>exact (zcw Is Rm l F1 a1.st h).after a1 hq
  | brk=>obtain rfl:=sj h;exact hq τ1 s1 _ a1 F1 .brk
  | ret rr=>obtain rfl:=sj h;exact hq τ1 s1 _ a1 F1 (.ret rr)
noncomputable def LPos (c:Cx) (σ:List Addr) (env:Env) (sc:Scope) (s:Shared) (τ:List Addr) (vars:Vars) (Hi:List AO) (s':Shared):Prop:=AftS c σ Hi env s τ s'∧SF c sc vars env (σ++τ) s'.heap
theorem LPos.on {τ τ':List Addr} {vars vars':Vars} {Hi Hj:List AO} {s1 s2:Shared} (P:LPos c σ env sc s τ vars Hi s1) (a:AftS c (σ++τ) Hj env s1 τ' s2) (F:SF c sc vars' env (σ++τ++τ') s2.heap):LPos c σ env sc s (τ++τ') vars' Hj s2 :=
 ⟨P.1.trans a,by rw [← List.append_assoc];exact F⟩
theorem LPos.start (F:SF c sc vars env σ s.heap) (S:St c σ H s):LPos c σ env sc s [] vars H s:=⟨Aft.toS (Aft.refl S),by rw [List.append_nil];exact F⟩
noncomputable def LEnd (c:Cx) (σ:List Addr) (env:Env) (sc:Scope) (s:Shared) (r:ExR) (Q:Flow→Shared→Prop):Prop:=∀ τ s' fl,LPos c σ env sc s τ r.2.1 r.2.2 s'→FlowRel (σ++τ) r.1 fl→Q fl s'
noncomputable def WInv (c:Cx) (σ:List Addr) (env:Env) (sc:Scope) (s:Shared) (call:CallT) (n:Nat) (t:Expr) (b:List Stmt) (r:ExR) (cnt:Nat) (s':Shared):Prop :=
 ∃ τ vars Hi,LPos c σ env sc s τ vars Hi s'∧whileGo (fun vars=>tst c.G call n sc vars t) (fun vars=>exLGo (exS c.G call n sc) b vars) cnt vars Hi=some r
theorem while_turn {t:Expr} {b:List Stmt} {cnt:Nat} {r:ExR} {s1:Shared} {Q:Flow→Shared→Prop} {E E' E'':Value→Shared→Prop} (It:IHt c call n m) (Is:IHs c call n m) (Rm:Room A m) (hq:LEnd c σ env sc s r Q) (I:WInv c σ env sc s call n t b r cnt s1) :
  wpAny (model c.prog c.w) A (isTrue t env (eval t env)) (fun q s₂=>if q then wpAny (model c.prog c.w) A (execs b env) (fun f s₃=>match f with
   | .next | .cont=>∃ m,m < cnt∧WInv c σ env sc s call n t b r m s₃
   | .brk=>Q .next s₃
   | .ret v=>Q (.ret v) s₃) E' s₂ else wpAny (model c.prog c.w) A (execs [] env) (fun f s₃=>Q f s₃) E'' s₂) E s1:=by
 obtain ⟨τ,vars1,Hi,P,hgo⟩:=I
 cases cnt with
 | zero=>exact nsf hgo
 | succ cnt =>
  refine za4 hgo fun q H2 e1 hgo=>?_
  refine (It A sc vars1 env t Hi q H2 _ s1 Rm P.2.toFr' P.1.st e1).use fun τ2 s2 v2 a2 r2=>?_
  subst r2
  have P2:=P.on a2.toS (P.2.aft a2)
  cases v2 with
  | false =>
   obtain rfl:=sj hgo
   exact wpAny_execs_nil (hq _ s2 .next P2 .next)
  | true =>
   refine za4 hgo ?_;rintro f ⟨v3,H3⟩ e3 hgo
   refine (zcw Is Rm b P2.2 P2.1.st e3).use fun τ3 s3 fl a3 F3 r3=>?_
   have P3:=P2.on a3 F3
   rw [List.append_assoc] at r3
   cases r3 with
   | next=>exact ⟨cnt,Nat.lt_succ_self _,_,v3,H3,P3,hgo⟩
   | brk=>obtain rfl:=sj hgo;exact hq _ s3 .next P3 .next
   | ret rr=>obtain rfl:=sj hgo;exact hq _ s3 _ P3 (.ret rr)
theorem while_sound {t:Expr} {b:List Stmt} {pos:Pos} {kk:Nat} {r:ExR} (It:IHt c call n m) (Is:IHs c call n m) (Rm:Room A m) (F:SF c sc vars env σ s.heap) (S:St c σ H s)
  (h:whileGo (fun vars=>tst c.G call n sc vars t) (fun vars=>exLGo (exS c.G call n sc) b vars) kk vars H=some r):WX c A env sc (exec (.While t b [] pos) env) σ r s:=by
 intro Q E hq
 have hq':LEnd c σ env sc s r Q:=fun τ s' fl P rr=>hq τ s' fl P.1 P.2 rr
 exact wpAny_While (codeAny_whileLoop (WInv c σ env sc s call n t b r) (fun cnt s1 I=>while_turn It Is Rm hq' I) kk ⟨[],vars,H,.start F S,h⟩)
noncomputable def FPos (c:Cx) (σ:List Addr) (env:Env) (sc:Scope) (I:Addr) (it:AV) (isL:Bool) (all:List AV) (s1:Shared) (i:Nat) (τ:List Addr) (vars:Vars) (Hi:List AO) (s:Shared):Prop :=
 LPos c σ env sc s1 τ vars Hi s∧ItAt (σ++τ) s.heap I it isL all i∧I∉σ++τ
noncomputable def FInv (c:Cx) (σ:List Addr) (env:Env) (sc:Scope) (call:CallT) (n:Nat) (x:Str) (b:List Stmt) (I:Addr) (it:AV) (isL:Bool) (all:List AV) (s1:Shared) (r:ExR) (cnt:Nat) (s:Shared):Prop :=
 ∃ ys i τ vars Hi,cnt=ys.length∧ys=all.drop i∧FPos c σ env sc I it isL all s1 i τ vars Hi s∧forGo sc x (fun vars=>exLGo (exS c.G call n sc) b vars) it isL all ys vars Hi=some r
theorem FPos.on {I:Addr} {it:AV} {isL:Bool} {all:List AV} {s1 s2:Shared} {i:Nat} {τ τ':List Addr} {vars vars':Vars} {Hi Hj:List AO} (hIf:I∉fadr env) (P:FPos c σ env sc I it isL all s1 i τ vars Hi s) (a:AftS c (σ++τ) Hj env s τ' s2) (F:SF c sc vars' env (σ++τ++τ') s2.heap):FPos c σ env sc I it isL all s1 i (τ++τ') vars' Hj s2:=by
 obtain ⟨P,hit,hIo⟩:=P
 refine ⟨P.on a F,?_,?_⟩
 ·rw [← List.append_assoc];exact hit.keep fun o q=>a.pres.keep I o (fun q=>(List.mem_append.mp q).elim hIo hIf) q
 ·rw [← List.append_assoc]
  refine notMem_app hIo fun q=>?_
  obtain ⟨o,ho⟩:=hit.there
  rw [a.new I q] at ho;exact nsf ho
theorem for_sound {x:Str} {px:Pos} {b:List Stmt} {I:Addr} {it:AV} {isL:Bool} {all:List AV} {r:ExR} {s1:Shared} {H1:List AO} {R:Result→Shared→Prop} (Is:IHs c call n m) (Rm:Room A m)
  (F0:SF c sc vars env σ s1.heap) (S1:St c σ H1 s1) (hI:s1.heap.get? I=none) (hR:LEnd c σ env sc s1 r fun fl s'=>R (.ok fl) s') (cnt:Nat) (s:Shared) (inv:FInv c σ env sc call n x b I it isL all s1 r cnt s) :
  codeAny (model c.prog c.w) A (.forLoop (.Name x px) (.ref I) b [] env) R s:=by
 have hIf:=not_fadr F0 hI
 refine codeAny_forLoop (FInv c σ env sc call n x b I it isL all s1 r) ?_ cnt inv
 clear inv cnt s
 rintro cnt s ⟨ys,i,τ,vars,Hi,rfl,hys,⟨⟨a,F⟩,hit,hIo⟩,hgo⟩
 cases ys with
 | nil =>
  obtain ⟨hst,hgo⟩:=Mine.ifs hgo
  obtain rfl:=sj hgo
  have hnone:all[i]?=none:=List.getElem?_eq_none_iff.mpr (List.drop_eq_nil_iff.mp hys.symm)
  refine iter_end Rm.handled a.st hit hst hnone fun h' hx=>?_
  exact wpAny_execs_nil (hR τ _ .next ⟨a.move S1 hI hIo (fun b o hb e=>hx b o hb e) s.toks,F.move hIf fun b o hb e=>hx b o hb e⟩ .next)
 | cons y ys =>
  obtain ⟨hst,hgo⟩:=Mine.ifs hgo
  have hget:all[i]?=some y:=by
   have:=List.getElem?_drop (xs:=all) (i:=i) (j:=0)
   rw [← hys] at this
   exact this.symm
  have hys':ys=all.drop (i + 1):=by rw [← List.drop_drop,← hys];rfl
  refine bind_some hgo fun v1 e1 hgo=>?_
  refine za4 hgo ?_;rintro f ⟨v3,H3⟩ e3 hgo
  refine iter_next a.st hit hst hget fun v h' tk rv hit' hsb=>?_
  have P1:FPos c σ env sc I it isL all s1 (i + 1) τ vars Hi { s with heap:=h',toks:=tk } :=
   ⟨⟨a.move S1 hI hIo (fun b o hb e=>(hsb.2 b hb).trans e) tk,F.move hIf fun b o hb e=>(hsb.2 b hb).trans e⟩,hit',hIo⟩
  clear a F hit hIo hsb hit'
  refine wpAny_assign_Name (zca (s:={ s with heap:=h',toks:=tk }) P1.1.2 P1.1.1.st rv e1 fun s2 a2 F2=>?_)
  have P2:=P1.on hIf a2 (by rw [List.append_nil];exact F2)
  rw [List.append_nil] at P2
  refine (zcw Is Rm b P2.1.2 P2.1.1.st e3).use fun τ3 s3 fl a3 F3 r3=>?_
  have P3:=P2.on hIf a3 F3
  rw [List.append_assoc] at r3
  cases r3 with
  | next=>exact ⟨ys.length,Nat.lt_succ_self _,ys,i + 1,_,v3,H3,rfl,hys',P3,hgo⟩
  | brk=>obtain rfl:=sj hgo;exact hR _ s3 .next P3.1 .next
  | ret rr=>obtain rfl:=sj hgo;exact hR _ s3 _ P3.1 (.ret rr)
theorem exFor_sound {x:Str} {px pos:Pos} {iter:Expr} {b:List Stmt} {r:ExR} (Ie:IHe c call n m) (Is:IHs c call n m) (Rm:Room A m) (F:SF c sc vars env σ s.heap) (S:St c σ H s)
  (h:exFor sc (ev c.G call n sc vars) (exS c.G call n sc) x iter b vars H=some r):WX c A env sc (exec (.For (.Name x px) iter b [] pos) env) σ r s:=by
 refine za4 h fun it H1 e1 h=>?_
 refine za4 h fun isL all e2 h=>?_
 obtain ⟨hset,h⟩:=Mine.ifs h
 intro Q E hq
 refine wpAny_For ((Ie A sc vars env iter H it H1 σ s Rm F.toFr' S e1).use fun τ1 s1 v1 a1 r1=>?_) (folded_pure hset)
 refine iter_start a1.st r1 e2 fun I h2 hI hk2 hit=>?_
 have hIo:I∉σ++τ1:=fun q=>by
  obtain ⟨o,ho⟩:=a1.st.there q
  rw [hI] at ho;exact nsf ho
 have a3:=Aft.heap (h':=h2) a1.st s1.toks hk2
 have F3:SF c sc vars env (σ++τ1++[]) h2:=(F.aft a1).aft a3
 refine for_sound (R:=fun r s'=>match r with | .ok f=>Q f s' | .error e=>cameBackBy (model c.prog c.w) A env E e s') (r:=r) (s1:=s1) Is Rm (F.aft a1) a1.st hI (fun τ s' fl P' r'=>?_) all.length { s1 with heap:=h2 } ⟨all,0,[],vars,H1,rfl,rfl,⟨⟨a3.toS,F3⟩,?_,?_⟩,h⟩
 ·exact hq (τ1++τ) s' fl (a1.toS.trans P'.1) (by rw [← List.append_assoc];exact P'.2) (by rw [← List.append_assoc];exact r')
 ·rw [List.append_nil];exact hit
 ·rw [List.append_nil];exact hIo
section
variable {r:ExR} {pos:Pos} (Ie:IHe c call n m) (It:IHt c call n m) (Is:IHs c call n m) (Rm:Room A m) (F:SF c sc vars env σ s.heap) (S:St c σ H s)
include Ie Rm F S
theorem exExpr_sound {f:Expr} {args:List Expr} {kws:List Keyword} {p:Pos} (h:exExpr (ev c.G call n sc vars) (.Call f args kws p) vars H=some r):WX c A env sc (exec (.Expr (.Call f args kws p) pos) env) σ r s:=by
 refine za4 h fun v H1 e1 h=>?_
 dsimp only at h
 split at h
 ·obtain rfl:=sj h
  intro Q E hq
  refine wpAny_Expr ((Ie A sc vars env _ H _ H1 σ s Rm F.toFr' S e1).use fun τ1 s1 v1 a1 r1=>?_) (by unfold interactive;rw [F.kind];rfl)
  cases r1
  exact hq τ1 s1 .next a1.toS (F.aft a1) .next
 ·exact nsf h
theorem exRet_sound {e:Expr} (h:exRet (ev c.G call n sc vars) e vars H=some r):WX c A env sc (exec (.Return (some e) pos) env) σ r s:=by
 refine za4 h fun v H1 e1 h=>?_
 obtain rfl:=sj h
 intro Q E hq
 refine wpAny_Return_some ((Ie A sc vars env e H _ _ σ s Rm F.toFr' S e1).use fun τ1 s1 v1 a1 r1=>?_)
 exact hq τ1 s1 _ a1.toS (F.aft a1) (.ret r1)
omit Ie
include It Is
theorem exIf_sound {t:Expr} {b o:List Stmt} (h:exIf (tst c.G call n sc vars) (exS c.G call n sc) t b o vars H=some r):WX c A env sc (exec (.If t b o pos) env) σ r s:=by
 refine za4 h fun q H1 e1 h=>?_
 intro Q E hq
 refine wpAny_If ((It A sc vars env t H q H1 σ s Rm F.toFr' S e1).use fun τ1 s1 v1 a1 r1=>?_)
 subst r1
 cases v1 with
 | true=>exact (zcw Is Rm b (F.aft a1) a1.st h).after a1.toS hq
 | false=>exact (zcw Is Rm o (F.aft a1) a1.st h).after a1.toS hq
omit It Is
include Ie It
theorem exAs_sound (Ie':IHe c call (n - 1) m) (It':IHt c call (n - 1) m) {ts:List Expr} {e:Expr} (h:exAs sc (ev c.G call n sc vars) ts e vars H=some r):WX c A env sc (exec (.Assign ts e pos) env) σ r s:=by
 cases ts with
 | nil=>exact nsf h
 | cons t ts =>
  cases ts with
  | nil =>
   cases t with
   | Name x p=>exact asName_sound Ie It Ie' It' Rm F S h
   | Tuple ts _ _ =>
    cases e with
    | Tuple vs _ _=>exact asTup_sound Ie Rm F S h
    | IfExp t b o p=>exact asUnp_sound Ie Rm F S h
    | _=>exact nsf h
   | Subscript o i p=>exact asItem_sound Ie Rm F S h
   | _=>exact nsf h
  | cons u us =>
   cases us with
   | nil =>
    cases t with
    | Name x p =>
     cases u with
     | Name y q=>exact asTwo_sound Ie Rm F S h
     | _=>exact nsf h
    | _=>exact nsf h
   | cons _ _=>exact nsf h
end
theorem exS_step (Ie:IHe c call n m) (It:IHt c call n m) (Ie':IHe c call (n - 1) m) (It':IHt c call (n - 1) m) (ih:IHs c call n m):IHs c call (n + 1) m:=by
 intro A sc vars env st H r σ s Rm F S h
 cases st with
 | Assign ts e pos=>exact exAs_sound Ie It Rm F S Ie' It' h
 | AugAssign t op e pos =>
  cases t with
  | Name x p=>exact asAug_sound Ie Rm F S h
  | _=>exact nsf h
 | Expr e pos =>
  cases e with
  | Call f args kws p=>exact exExpr_sound Ie Rm F S h
  | _=>exact nsf h
 | Return e pos =>
  cases e with
  | none=>exact nsf h
  | some e=>exact exRet_sound Ie Rm F S h
 | Break pos =>
  obtain rfl:=sj h
  intro Q E hq
  exact wpAny_Break (hq [] s .brk (Aft.toS (Aft.refl S)) (by rw [List.append_nil];exact F) .brk)
 | If t b o pos=>exact exIf_sound It ih Rm F S h
 | While t b o pos =>
  cases o with
  | nil=>exact while_sound It ih Rm F S h
  | cons _ _=>exact nsf h
 | For t iter b o pos =>
  cases t with
  | Name x p =>
   cases o with
   | nil=>exact exFor_sound Ie ih Rm F S h
   | cons _ _=>exact nsf h
  | _=>exact nsf h
 | _=>exact nsf h
theorem zbz (O:c.Ok) (hcall:zbx c call m):∀ n,IHs c call n m
 | 0=>fun A sc vars env st H r σ s _ _ _ h=>nsf h
 | n + 1=>exS_step (zbf O hcall n).1 (zbf O hcall n).2 (zbf O hcall (n - 1)).1 (zbf O hcall (n - 1)).2 (zbz O hcall n)
end
section
variable {c:Cx} {A:Around} {σ:List Addr} {H H' H'':List AO} {s:Shared}
theorem intsAre_of:∀ {ns:List Int} {vs:List Value},RelL σ (ns.map AV.int) vs→IntsAre vs ns
 | [],[],_=>.nil
 | n::ns,v::vs,⟨⟨t,e⟩,r⟩=>by subst e;exact .cons n t (intsAre_of r)
 | [],_::_,h=>h.elim
 | _::_,[],h=>h.elim
theorem WP.heap {α:Type} {t:Sem α} {R:List Addr→α→Prop} (S:St c σ H s)
  (h:∀ (Q:α→Shared→Prop) (E:Value→Shared→Prop),(∀ v h' tk,(∀ b o,s.heap.get? b=some o→h'.get? b=some o)→R σ v→Q v { s with heap:=h',toks:=tk })→wpAny (model c.prog c.w) A t Q E s):WP c A t σ H s R :=
 fun Q E hq=>h Q E fun v h' tk hk r=>hq [] _ v (Aft.heap S tk hk) (by rw [List.append_nil];exact r)
theorem sumI_spec:∀ {xs:List AV} {acc m:Int},sumI acc xs=some m→InLong acc→∃ ns:List Int,xs=ns.map AV.int∧m=acc + ns.sum∧∀ j,j < ns.length→InLong (ns.getD j 0)∧InLong (acc + (ns.take (j + 1)).sum)
 | [],acc,m,h,_=>by obtain rfl:=sj h;exact ⟨[],rfl,by simp -iota,fun j hj=>absurd hj (Nat.not_lt_zero _)⟩
 | x::xs,acc,m,h,ha=>by
  refine za3 (x:=zc0 x) (f:=fun i=>if decide (-1000000 < acc + i) && decide (acc + i < 1000000) && decide (-1000000 < i) && decide (i < 1000000) then sumI (acc + i) xs else none) h fun i e1 h=>?_
  refine ifsk h fun hc h=>?_
  simp -iota only [Bool.and_eq_true,decide_eq_true_eq] at hc
  have hx:InLong (acc + i):=by unfold InLong;omega
  have hi:InLong i:=by unfold InLong;omega
  obtain ⟨ns,g1,g2,g3⟩:=sumI_spec h hx
  have hx':x=.int i:=by
   cases x with
   | int k=>obtain rfl:=sj e1;rfl
   | _=>exact nsf e1
  refine ⟨i::ns,by rw [hx',g1];rfl,by rw [g2,List.sum_cons];omega,fun j hj=>?_⟩
  cases j with
  | zero=>exact ⟨hi,by simpa -iota using hx⟩
  | succ j =>
   obtain ⟨k1,k2⟩:=g3 j (Nat.lt_of_succ_lt_succ hj)
   refine ⟨k1,?_⟩
   rw [List.take_succ_cons,List.sum_cons,← Int.add_assoc];exact k2
theorem preSum_take (ns:List Int):∀ k,k≤ns.length→preSum (fun j=>ns.getD j 0) k=(ns.take k).sum
 | 0,_=>by rfl
 | k + 1,h=>by
  rw [PyProof.Rows.take_sum_succ ns k h,← preSum_take ns k (Nat.le_of_succ_le h)]
  rfl
theorem insI_perm (x:Int):∀ l:List Int,(insI x l).Perm (x::l)
 | []=>.refl _
 | y::l=>by
  unfold insI
  split
  ·exact .refl _
  ·exact ((insI_perm x l).cons y).trans (List.Perm.swap x y l)
theorem srtI_perm:∀ l:List Int,(srtI l).Perm l
 | []=>.refl _
 | x::l=>(insI_perm x _).trans ((srtI_perm l).cons x)
theorem insI_sorted (x:Int):∀ l:List Int,l.Pairwise (·≤·)→(insI x l).Pairwise (·≤·)
 | [],_=>by simp -iota [insI]
 | y::l,h=>by
  unfold insI
  split
  ·rename_i q
   refine List.pairwise_cons.mpr ⟨fun z hz=>?_,h⟩
   rcases List.mem_cons.mp hz with rfl | hz
   ·exact q
   ·exact Int.le_trans q ((List.pairwise_cons.mp h).1 z hz)
  ·rename_i q
   obtain ⟨h1,h2⟩:=List.pairwise_cons.mp h
   refine List.pairwise_cons.mpr ⟨fun z hz=>?_,insI_sorted x l h2⟩
   rcases List.mem_cons.mp ((insI_perm x l).mem_iff.mp hz) with rfl | hz
   ·omega
   ·exact h1 z hz
theorem srtI_sorted:∀ l:List Int,(srtI l).Pairwise (·≤·)
 | []=>.nil
 | x::l=>insI_sorted x _ (srtI_sorted l)
theorem allI_spec:∀ {xs:List AV} {ns:List Int},allI xs=some ns→xs=ns.map AV.int
 | [],ns,h=>by obtain rfl:=sj h;rfl
 | x::xs,ns,h=>by
  refine za3 (x:=zc0 x) (f:=fun i=>(allI xs).bind fun l=>some (i::l)) h fun i e1 h=>?_
  refine za3 h fun l e2 h=>?_
  obtain rfl:=sj h
  have hx':x=.int i:=by
   cases x with
   | int k=>obtain rfl:=sj e1;rfl
   | _=>exact nsf e1
  rw [hx',allI_spec e2];rfl
theorem ints_relL {vs:List Value} {ns:List Int} (h:IntsAre vs ns):RelL σ (ns.map .int) vs:=by
 induction h with
 | nil=>trivial
 | cons n t h ih=>exact ⟨⟨t,rfl⟩,ih⟩
section
variable {args:List AV} {vs:List Value} {r:AV×List AO} (hh:A.handled=none) (S:St c σ H s) (ra:RelL σ args vs)
include S ra
theorem bLen_ok (e:bLen args H=some r):WP c A (PySem.call (.builtin "len") vs) σ r.2 s fun τ v=>r.1.Rel τ v:=by
 refine za3 e fun a ea e=>?_
 refine arg1_at ea ra ?_;rintro v rfl rv
 cases es:strOf a with
 | some x =>
  rw [es] at e
  refine zcm e ?_;rintro hl rfl
  refine strOf_at es rv ?_;rintro t rfl
  exact WP.toks S fun Q E hq=>PySem.P.len_str (by omega) (hq _ _ ⟨_,rfl⟩)
 | none =>
  rw [es] at e
  refine za3 e fun xs e1 e=>?_
  obtain rfl:=sj e
  refine zd8 S rv e1 ?_;rintro l ws nn rfl h2 h3 h4
  have hlen:=h3.length
  exact WP.toks S fun Q E hq=>call_len_list (items:=ws.toArray) ⟨_,h2,rfl,nn,rfl⟩ (by rw [List.size_toArray];omega) (hq _ _ ⟨s.toks + 1,by rw [List.size_toArray,hlen]⟩)
theorem bAbs_ok (e:bAbs args H=some r):WP c A (PySem.call (.builtin "abs") vs) σ r.2 s fun τ v=>r.1.Rel τ v:=by
 refine za3 e fun a ea e=>?_
 refine za3 e fun i ei e=>?_
 obtain rfl:=sj e
 refine arg1_at ea ra ?_;rintro v rfl rv
 refine zax ei rv ?_;rintro t rfl
 exact WP.toks S fun Q E hq=>PyProof.Rows.call_abs_int fun u tk=>hq _ _ ⟨_,rfl⟩
theorem isBool_at {a:AV} {b:Bool} {v:Value} (e:isBool a=some b) (r:a.Rel σ v):(b=false∧∃ i t,v=.int i t)∨(b=true∧∃ q,v=.bool q):=by
 cases a with
 | int i=>obtain rfl:=sj e;obtain ⟨t,h⟩:=r;exact .inl ⟨rfl,i,t,h⟩
 | lit w=>cases w with
  | bool q=>obtain rfl:=sj e;exact .inr ⟨rfl,q,r⟩
  | _=>exact nsf e
 | _=>exact nsf e
theorem bIsI_ok (e:bIsI args H=some r):WP c A (PySem.call (.builtin "isinstance") vs) σ r.2 s fun τ v=>r.1.Rel τ v:=by
 refine za3 e fun p ea e=>?_
 refine za3 e fun b eb e=>?_
 refine za3 e fun v ev e=>?_
 refine zcm e ?_;rintro rfl rfl
 refine arg2_at ea ra ?_;rintro va vb rfl r1 r2
 have hv:vb=.type "bool":=by
  obtain ⟨p1,p2⟩:=p
  cases p2 with
  | lit w=>obtain rfl:=sj ev;exact r2
  | _=>exact nsf ev
 subst hv
 rcases isBool_at S ra eb r1 with ⟨rfl,i,t,rfl⟩ | ⟨rfl,q,rfl⟩
 ·exact WP.toks S fun Q E hq=>call_isinstance (isinstance_false_int (by decide +kernel) PySem.F.isi_meta_bool PySem.F.sub_int_bool) (hq (.bool false) _ rfl)
 ·exact WP.toks S fun Q E hq=>call_isinstance (isinstance_true (Tx:="bool") PySem.F.isi_meta_bool PySem.F.sub_bool_bool) ⟨rfl,hq (.bool true) s.toks rfl⟩
include hh
theorem bMin_ok (e:bMin2 args H=some r):WP c A (PySem.call (.builtin "min") vs) σ r.2 s fun τ v=>r.1.Rel τ v:=by
 refine za3 e fun p ep e=>?_
 refine za3 e fun i ei e=>?_
 refine za3 e fun j ej e=>?_
 obtain rfl:=sj e
 refine arg2_at ep ra ?_;rintro va vb rfl r1 r2
 refine zax ei r1 ?_;rintro t rfl;refine zax ej r2 ?_;rintro u rfl
 refine WP.heap S fun Q E hq=>min_two_ints hh fun h' tk hk=>hq _ h' tk hk ?_
 show AV.Rel σ (AV.int (if j < i then j else i)) _
 by_cases q:j < i
 ·rw [if_pos q,if_pos q];exact ⟨_,rfl⟩
 ·rw [if_neg q,if_neg q];exact ⟨_,rfl⟩
theorem bSum_ok (e:bSum args H=some r):WP c A (PySem.call (.builtin "sum") vs) σ r.2 s fun τ v=>r.1.Rel τ v:=by
 refine za3 e fun a ea e=>?_
 refine za3 e fun xs e1 e=>?_
 refine za3 e fun m e2 e=>?_
 obtain rfl:=sj e
 refine arg1_at ea ra ?_;rintro v rfl rv
 refine zd8 S rv e1 ?_;rintro l ws nn rfl h2 h3 h4
 obtain ⟨ns,rfl,g2,g3⟩:=sumI_spec e2 (by unfold InLong;omega)
 have hi:=intsAre_of h3
 obtain ⟨xz,ez⟩:=hi.allInts.items
 have hns:ns=xz.toList.map (·.1):=by rw [← hi.numsOf,← nums_intItems,← ez]
 have hsz:xz.size=ns.length:=by rw [hns];simp -iota
 have hnum:∀ j,numAt xz j=ns.getD j 0:=fun j=>by rw [hns];exact numAt_eq ..
 have hps:∀ k,k≤ns.length→preSum (numAt xz) k=(ns.take k).sum:=fun k hk=>by
  rw [show numAt xz=fun j=>ns.getD j 0 from funext hnum];exact preSum_take ns k hk
 refine WP.heap S fun Q E hq=>sum_intList hh (xs:=xz) (by rw [← ez];exact ⟨_,h2,rfl,nn,rfl⟩) (fun j hj=>?_) fun h' tk t' hk=>?_
 ·rw [hsz] at hj
  obtain ⟨k1,k2⟩:=g3 j hj
  exact ⟨by rw [hnum];exact k1,by rw [hps (j + 1) hj];simpa -iota using k2⟩
 ·exact hq _ h' tk hk ⟨t',by rw [hsz,hps _ (Nat.le_refl _),g2,List.take_length];simp -iota⟩
omit hh
theorem bSort_ok (e:bSort args H=some r):WP c A (PySem.call (.builtin "sorted") vs) σ r.2 s fun τ v=>r.1.Rel τ v:=by
 refine za3 e fun a ea e=>?_
 refine za3 e fun xs e1 e=>?_
 refine za3 e fun ns e2 e=>?_
 refine zcm e ?_;rintro h64 rfl
 refine arg1_at ea ra ?_;rintro v rfl rv
 refine zd8 S rv e1 ?_;rintro l ws nn rfl h2 h3 h4
 obtain rfl:=allI_spec e2
 have hlen:=h3.length
 intro Q E hq
 refine sorted_ints ⟨_,h2,rfl,nn,rfl⟩ (intsAre_of h3) (by rw [hlen,List.length_map];exact h64) fun out ns' a1 a2 a3=>?_
 have hn:ns'=srtI ns:=List.Perm.eq_of_pairwise (fun a b _ _ h1 h2=>Int.le_antisymm h1 h2) a3 (srtI_sorted ns) (a2.trans (srtI_perm ns).symm)
 subst hn
 obtain ⟨e9,he⟩:=sortedAll_at s.heap ws out
 have hk:∀ b o,s.heap.get? b=some o→(sortedAll s.heap ws out).get? b=some o:=fun b o q=>sortedAll_old q
 have hnew:s.heap.get? (s.heap.objs.size + 1)=none:=Heap.get?_none_of_le (Nat.le_succ _)
 refine hq [s.heap.objs.size + 1] _ _ ⟨S.alloc (s':={ s with heap:=sortedAll s.heap ws out }) hk hnew ⟨out.toList,e9,by rw [Array.toArray_toList];exact he,ints_relL a1,?_⟩,Pres.ext σ hk,fun b hb=>by simp -iota at hb;subst hb;exact hnew⟩ ⟨_,by rw [← S.len];simp -iota,rfl⟩
 rw [List.length_map,(srtI_perm ns).length_eq];omega
end
theorem builtins_sound {f:String} {args:List AV} {vs:List Value} {r:AV} (hh:A.handled=none) (S:St c σ H s) (ra:RelL σ args vs) (e:builtins f args H=some (r,H')) :
  WP c A (PySem.call (.builtin f) vs) σ H' s fun τ v=>r.Rel τ v:=by
 rcases ifelse e with ⟨rfl,e⟩ | e
 ·exact bLen_ok S ra e
 rcases ifelse e with ⟨rfl,e⟩ | e
 ·exact bAbs_ok S ra e
 rcases ifelse e with ⟨rfl,e⟩ | e
 ·exact bMin_ok hh S ra e
 rcases ifelse e with ⟨rfl,e⟩ | e
 ·exact bIsI_ok S ra e
 rcases ifelse e with ⟨rfl,e⟩ | e
 ·exact bSum_ok hh S ra e
 rcases ifelse e with ⟨rfl,e⟩ | e
 ·exact bSort_ok S ra e
 ·exact nsf e
theorem Aft.pushRange (S:St c σ H s) (tk:Nat) {lo hi st:Int} {t u v:Tok} :
  Aft c σ (H++[.range lo hi st]) s [s.heap.objs.size] { s with heap:=s.heap.push { cls:=.type "range",data:=.fields #[.int lo t,.int hi u,.int st v] },toks:=tk }:=by
 have hk:∀ b o,s.heap.get? b=some o→(s.heap.push { cls:=.type "range",data:=.fields #[.int lo t,.int hi u,.int st v] }).get? b=some o:=fun b o q=>Heap.get?_push_of_some _ q
 exact ⟨S.alloc (s':={ s with heap:=s.heap.push { cls:=.type "range",data:=.fields #[.int lo t,.int hi u,.int st v] },toks:=tk }) hk (get?_size _) ⟨t,u,v,IsRange.new ..⟩,Pres.ext σ hk,fun b hb=>by simp -iota at hb;subst hb;exact get?_size _⟩
theorem new_rel (S:St c σ H s) (a:Addr):(AV.obj H.length).Rel (σ++[a]) (.ref a):=⟨a,by rw [← S.len];simp -iota,rfl⟩
theorem relL_of_get {σ:List Addr}:∀ {xs:List AV} {vs:List Value},xs.length=vs.length→(∀ (i:Nat) (x:AV) (v:Value),xs[i]?=some x→vs[i]?=some v→x.Rel σ v)→RelL σ xs vs
 | [],[],_,_=>trivial
 | [],_::_,h,_=>by cases h
 | _::_,[],h,_=>by cases h
 | x::xs,v::vs,h,hp=>⟨hp 0 x v rfl rfl,relL_of_get (by simpa -iota using h) fun i y u h1 h2=>hp (i + 1) y u (by simpa -iota using h1) (by simpa -iota using h2)⟩
set_option tactic.hygienic true in
theorem rangeOf_at {a:AV} {p:Int×Int×Int} {v:Value} (S:St c σ H s) (e:rangeOf H a=some p) (r:a.Rel σ v) {Γ:Prop} (κ:∀ l t u w,v=.ref l→s.heap.get? l=some { cls:=.type "range",data:=.fields #[.int p.1 t,.int p.2.1 u,.int p.2.2 w] }→Γ):Γ:=by
 cases a with
 | obj k =>
  obtain ⟨l,ha,rfl⟩:=r
  simp only [rangeOf,zaw] at e
  split at e
  ·rename_i lo hi st hk
   obtain rfl:=sj e
   obtain ⟨t,u,w',hr⟩:=S.objs k l _ ha hk
   exact κ l t u w' rfl hr
  ·exact nsf e
 | _=>exact nsf e
theorem bList_ok {args:List AV} {vs:List Value} {r:AV×List AO} (hh:A.handled=none) (S:St c σ H s) (ra:RelL σ args vs) (e:bList args H=some r):WP c A (PySem.call (.type "list") vs) σ r.2 s fun τ v=>r.1.Rel τ v:=by
 refine za3 e fun a ea e=>?_
 refine zdp e ?_;rintro lo ⟨hi,st⟩ er e
 refine zcm e ?_;rintro hc rfl
 refine and4k hc fun hc c3=>?_
 refine and4k hc fun c1 c2=>?_
 have c2:=of_decide_eq_true c2
 have c3:=of_decide_eq_true c3
 refine arg1_at ea ra ?_;rintro v rfl rv
 refine rangeOf_at S er rv ?_;rintro l t u w' rfl hr
 dsimp only at c1 c2 c3 hr ⊢
 intro Q E hq
 refine call_list_range hh hr c1 (n:=(Builtin.Range.rangeSize lo hi st).toNat) (by omega) (by omega) fun h' tk acc' c' hkk hS hacc=>?_
 have hrel:RelL (σ++[s.heap.objs.size]) (zc4 lo hi st) acc'.toList:=by
  refine relL_of_get (by simp -iota [zc4,hacc.1]) fun i x v hx hv=>?_
  obtain ⟨tv,rfl⟩:=hacc.2 i v (by simpa -iota using hv)
  obtain ⟨rfl,hlt⟩:=rangeItems_get hx
  exact ⟨tv,by rw [Int.mul_comm]⟩
 refine hq [s.heap.objs.size] _ _ ⟨S.alloc (s':={ s with heap:=h',toks:=tk }) hkk (get?_size _) ⟨acc'.toList,c',by rw [Array.toArray_toList];exact hS,hrel,by simp -iota [zc4];omega⟩,⟨fun b o _ q=>hkk b o q,fun b o q=>⟨o,hkk b o q⟩,.refl _,rfl⟩,fun x hx=>by simp -iota at hx;subst hx;exact get?_size _⟩ (new_rel S _)
theorem bRange_ok {args:List AV} {vs:List Value} {r:AV×List AO} (S:St c σ H s) (ra:RelL σ args vs) (e:bRange args H=some r):WP c A (PySem.call (.type "range") vs) σ r.2 s fun τ v=>r.1.Rel τ v:=by
 unfold bRange at e
 cases e1:arg1 args with
 | some a =>
  rw [e1] at e
  refine za3 e fun i ei e=>?_
  obtain rfl:=sj e
  refine arg1_at e1 ra ?_;rintro v rfl rv
  refine zax ei rv ?_;rintro t rfl
  exact fun Q E hq=>call_range_1 (hq _ _ _ (Aft.pushRange S _) (new_rel S _))
 | none =>
  cases e2:arg2 args with
  | some p =>
   rw [e1,e2] at e
   refine za3 e fun i ei e=>?_
   refine za3 e fun j ej e=>?_
   obtain rfl:=sj e
   refine arg2_at e2 ra ?_;rintro va vb rfl r1 r2
   refine zax ei r1 ?_;rintro t rfl;refine zax ej r2 ?_;rintro u rfl
   exact fun Q E hq=>call_range_2 (hq _ _ _ (Aft.pushRange S _) (new_rel S _))
  | none =>
   rw [e1,e2] at e
   refine za3 e fun p e3 e=>?_
   refine za3 e fun i ei e=>?_
   refine za3 e fun j ej e=>?_
   refine za3 e fun k ek e=>?_
   obtain ⟨hk,e⟩:=Mine.ifs e
   obtain rfl:=sj e
   refine arg3_at e3 ra ?_;rintro va vb vd rfl r1 r2 r3
   refine zax ei r1 ?_;rintro t rfl;refine zax ej r2 ?_;rintro u rfl;refine zax ek r3 ?_;rintro w rfl
   have k1:=of_decide_eq_true (and4 hk).1
   have k2:=of_decide_eq_true (and4 hk).2
   exact fun Q E hq=>call_range_3 k1 (hq _ _ _ (Aft.pushRange S _) (new_rel S _)) (.inl (PyProof.noPylong_small (by omega)))
theorem typesCall_sound {f:String} {args:List AV} {vs:List Value} {r:AV} (O:c.Ok) (hh:A.handled=none) (S:St c σ H s) (ra:RelL σ args vs) (e:typesCall f args H=some (r,H')) :
  WP c A (PySem.call (.type f) vs) σ H' s fun τ v=>r.Rel τ v:=by
 rcases ifelse e with ⟨rfl,e⟩ | e
 ·exact bRange_ok S ra e
 rcases ifelse e with ⟨rfl,e⟩ | e
 ·exact bList_ok hh S ra e
 ·exact nsf e
end
noncomputable def FnD.names (F:FnD):List Str:=F.pos++F.kwo.map (·.1)
structure UBase (c:Cx) (F:FnD) (a:Addr) (fd:FuncData):Prop where
 obj:∃ fo,c.hb.get? a=some fo∧fo.data=.func fd
 out:a∉c.Wb
 code:∃ cc o vs t,fd.code=.ref cc∧cc∉c.Wb∧c.hb.get? cc=some o∧o.data=.fields vs∧vs[1]?=some (.str fd.qualname t)
 body:fd.body=.stmts F.body
 scope:fd.scope=F.sc
 glob:fd.globals=mainGlobals
 blt:fd.builtins=builtinsNs
 clo:fd.closure=[]
 co:F.sc.isCoroutine=false
 gen:F.sc.isGenerator=false
 kind:F.sc.kind=.function
 nodot:(".0":Str)∉F.names
 nd:F.names.Nodup
 nofree:∀ x∈F.sc.names,x.2≠.free
structure UPlain (c:Cx) (F:FnD) (a:Addr) (fd:FuncData):Prop extends UBase c F a fd where
 nocell:∀ x∈F.sc.names,x.2≠.cell
 loc:∀ x∈F.names,F.sc.names.lookup x=some .local
 binds:∀ (s:Shared) (σ:List Addr) (args:List AV) (kws:List (Str×AV)) (vars:Vars) (vvs:List Value) (kvs:List (Str×Value)),(∀ b o,b∉c.Wb→c.hb.get? b=some o→s.heap.get? b=some o) →
  RelL σ args vvs→RelK σ kws kvs→F.binds args kws=some vars→∃ avs vs,BindsTo s fd ⟨vvs,kvs⟩ (F.names.zip vs)∧vars=(F.names.map key).zip avs∧RelL σ avs vs∧F.names.length=avs.length
structure UCells (c:Cx) (F:FnD) (a:Addr) (fd:FuncData):Prop extends UBase c F a fd where
 plainK:F.kwo=[]
 plainD:F.dfl=[]
 loc:∀ x∈F.names,F.sc.names.lookup x=some .local∨F.sc.names.lookup x=some .cell
 binds:∀ (vvs:List Value),vvs.length=F.pos.length→bindArgs fd ⟨vvs,[]⟩=pure (F.pos.zip vvs)
section
variable {c:Cx} {A:Around} {σ:List Addr} {H H' H'':List AO} {s:Shared} {call:CallT} {n m:Nat}
theorem zdy {σ:List Addr} {x:Str} {av:AV}:∀ {names:List Str} {avs:List AV} {vs:List Value},look (key x) ((names.map key).zip avs)=some av→RelL σ avs vs→∃ v,(names.zip vs).lookup x=some v∧av.Rel σ v∧x∈names
 | [],_,_,h,_=>nsf h
 | n::names,[],_,h,_=>nsf h
 | n::names,a::avs,[],h,r=>r.elim
 | n::names,a::avs,v::vs,h,⟨r1,r2⟩=>by
  rw [List.map_cons,List.zip_cons_cons,zan] at h
  by_cases q:key n=key x
  ·rw [if_pos q] at h
   obtain rfl:=sj h
   have:=key_inj q
   subst this
   exact ⟨v,by simp -iota,r1,List.mem_cons_self ..⟩
  ·rw [if_neg q] at h
   obtain ⟨u,h1,h2,h3⟩:=zdy h r2
   exact ⟨u,by rw [List.zip_cons_cons,List.lookup_cons,beq_eq_false_iff_ne.mpr (fun z=>q (by rw [z]))];exact h1,h2,List.mem_cons_of_mem _ h3⟩
theorem ze5 {x:Str} {l:List (Str×Value)} (hn:(l.map (·.1)).Nodup):l.reverse.lookup x=l.lookup x:=by
 have key1:∀ {l:List (Str×Value)},(l.map (·.1)).Nodup→∀ v,(x,v)∈l→l.lookup x=some v:=by
  intro l
  induction l with
  | nil=>intro _ v h;cases h
  | cons p l ih =>
   intro hn v h
   rw [List.map_cons,List.nodup_cons] at hn
   rcases List.mem_cons.mp h with q | q
   ·subst q;simp -iota
   ·have hne:(x == p.1)=false:=beq_eq_false_iff_ne.mpr fun z=>hn.1 (z▸List.mem_map.mpr ⟨_,q,rfl⟩)
    obtain ⟨p1,p2⟩:=p
    rw [List.lookup_cons,hne];exact ih hn.2 v q
 cases e:l.lookup x with
 | some v =>
  refine key1 ?_ v (List.mem_reverse.mpr (zag e))
  rw [List.map_reverse];exact List.pairwise_reverse.mpr (hn.imp fun h=>Ne.symm h)
 | none =>
  cases e':l.reverse.lookup x with
  | none=>rfl
  | some v=>rw [key1 hn v (List.mem_reverse.mp (zag e'))] at e;exact snf e
theorem ze4 {names:List Str} {vs:List Value} (h:names.Nodup) (hl:names.length=vs.length):((names.zip vs).map (·.1)).Nodup:=by rw [List.map_fst_zip (by omega)];exact h
theorem fresh_of (S:St c σ H s) {a:Addr} (h:s.heap.get? a=none):c.hb.get? a=none∧a∉σ:=by
 refine ⟨?_,fun q=>?_⟩
 ·cases e:c.hb.get? a with
  | none=>rfl
  | some o=>obtain ⟨o',e'⟩:=S.live _ o e;rw [h] at e';exact nsf e'
 ·obtain ⟨o,ho⟩:=S.there q
  rw [h] at ho;exact nsf ho
theorem AftS.leave {env:Env} {s1 s':Shared} {τ:List Addr} {h1:Heap} {tk:Nat} (e1:s1={ s with heap:=h1,toks:=tk }) (hk:∀ b o,s.heap.get? b=some o→h1.get? b=some o) (b:AftS c σ H' env s1 τ s')
  (hf:∀ a∈fadr env,s.heap.get? a=none):Aft c σ H' s τ s':=by
 subst e1
 refine ⟨b.st,⟨fun x o hx e=>b.pres.keep x o (fun q=>?_) (hk x o e),fun x o e=>b.pres.there x o (hk x o e),b.pres.gens,b.pres.os⟩,fun a ha=>?_⟩
 ·rcases List.mem_append.mp q with q | q
  ·exact hx q
  ·rw [hf x q] at e;exact nsf e
 ·cases e:s.heap.get? a with
  | none=>rfl
  | some o=>have:=b.new a ha;rw [hk a o e] at this;exact snf this
theorem UBase.rec_ {F:FnD} {a:Addr} {fd:FuncData} (U:UBase c F a fd) (S:St c σ H s) {Γ:Prop} (κ:∀ fo,s.heap.get? a=some fo→fo.data=.func fd→s.heap.CodeRec fd.code fd.qualname→Γ):Γ:=by
 obtain ⟨fo,h1,h2⟩:=U.obj
 obtain ⟨cc,o,vs,t,h3,h4,h5,h6,h7⟩:=U.code
 exact κ fo (S.base a fo U.out h1) h2 ⟨cc,o,vs,t,h3,S.base cc o h4 h5,h6,h7⟩
theorem plain_sound {F:FnD} {a:Addr} {fd:FuncData} {args:List AV} {kws:List (Str×AV)} {vvs:List Value} {kvs:List (Str×Value)} {r:AV} (O:c.Ok) (U:UPlain c F a fd) (hcall:zbx c call n) (Rm:Room A (n + 1)) (S:St c σ H s)
  (ra:RelL σ args vvs) (rk:RelK σ kws kvs) (e:callF c.G call F args kws H=some (r,H')):WP c A (PySem.call (.ref a) vvs kvs) σ H' s fun τ v=>r.Rel τ v:=by
 refine bind_some e fun vars e1 e=>?_
 refine za4 e ?_;rintro f ⟨v2,H2⟩ e2 e3
 dsimp only at e3
 obtain ⟨avs,vs,hb,rfl,rv,hl⟩:=U.binds s σ args kws vars vvs kvs S.base ra rk e1
 refine U.toUBase.rec_ S fun fo ho hd hcd=>?_
 have hlen:=rv.length
 have hnod:=ze4 U.nd (vs:=vs) (by omega)
 intro Q E hq
 refine wpAny_call (codeAny_call_def (by have:=Rm.depth;omega) ho hd (S.nolim O) hcd U.body hb (by rw [U.scope];exact U.nocell) (fun x hx=>by rw [U.scope];exact U.loc x.1 (List.of_mem_zip hx).1) (fun h₀ hns hk=>?_) (by rw [U.scope];exact U.co) (by rw [U.scope];exact U.gen) (by rw [U.scope];exact U.kind))
 generalize hL:s.heap.objs.size=L at hns
 have hLn:s.heap.get? L=none:=by rw [← hL];exact get?_size _
 have hsc:(callEnv fd L a).scope=F.sc:=U.scope
 have hcells:(callEnv fd L a).cells=[]:=U.clo
 have hloc:(callEnv fd L a).locals=L:=rfl
 have hks:∀ x,(callEnv fd L a).kindOf x=F.sc.names.lookup x:=fun x=>by unfold Env.kindOf;rw [hsc]
 obtain ⟨hL1,hL2⟩:=fresh_of S hLn
 have S1:St c σ H { s with heap:=h₀,toks:=s.toks + (F.names.zip vs).length }:=S.keep hk
 have Fr:SF c F.sc ((F.names.map key).zip avs) (callEnv fd L a) σ h₀:=by
  refine ⟨⟨⟨by rw [hsc];exact U.kind,U.glob,U.blt,fun x hx=>(hks x).trans hx,fun x av hx hv=>?_,⟨_,hns⟩,hL2,fun x b hx=>(by rw [hcells] at hx;exact nsf hx),?_⟩,fun x b hx=>(by rw [hcells] at hx;exact nsf hx),fun x hx=>?_,fun x hx=>by rw [hks];exact hx⟩,
   ScR.rfl' hsc,fun x y b hx=>(by rw [hcells] at hx;exact nsf hx),fun x b hx=>(by rw [hcells] at hx;exact nsf hx),hL1,fun x b _ hx=>(by rw [hcells] at hx;exact nsf hx),fun b hb=>(by unfold fcells at hb;rw [hcells] at hb;cases hb)⟩
  ·obtain ⟨v,h1,h2,h3⟩:=zdy hx rv
   exact .inl ⟨(hks x).trans (U.loc x h3),_,v,hns,by rw [ze5 hnod];exact h1,h2⟩
  ·cases q:look (key ".0") ((F.names.map key).zip avs) with
   | none=>rfl
   | some w=>obtain ⟨_,_,_,h3⟩:=zdy q rv;exact absurd h3 U.nodot
  ·rcases hx with q | q
   ·exact absurd rfl (U.nocell _ (zag q))
   ·exact absurd rfl (U.nofree _ (zag q))
 refine (zcw (zbz O hcall za0) (Rm.deeper _) F.body Fr S1 e2).use fun τ s' fl a1 F1 r1=>?_
 have fin:=AftS.leave (s:=s) rfl hk a1 fun b hb=>by
  rcases List.mem_cons.mp hb with q | q
  ·rw [q];exact hLn
  ·unfold fcells at q;rw [hcells] at q;cases q
 dsimp only at r1 fin
 cases r1 with
 | next=>refine opjk e3 ?_;rintro rfl rfl;exact hq τ s' _ fin rfl
 | brk=>exact nsf e3
 | ret rr=>refine opjk e3 ?_;rintro rfl rfl;exact hq τ s' _ fin rr
end
open PySem.W
section
variable {c:Cx} {A:Around} {σ:List Addr} {H H' H'':List AO} {s:Shared} {call:CallT} {n m:Nat}
theorem bindL_not {k:Str→Option NameKind} {x:Str}:∀ {l:List (Str×Value)} {m:Str→Option Value},x∉l.map (·.1)→bindL k l m x=m x
 | [],_,_=>rfl
 | (n,v)::l,m,h=>by
  have h1:x≠n:=fun q=>h (by rw [q];simp -iota)
  have h2:x∉l.map (·.1):=fun q=>h (by simp -iota only [List.map_cons];exact List.mem_cons_of_mem _ q)
  show bindL k l _ x=_
  rw [bindL_not h2]
  split
  ·exact if_neg h1
  ·rfl
theorem bindC_not {k:Str→Option NameKind} {x:Str}:∀ {l:List (Str×Value)} {m:Str→Option Value},x∉l.map (·.1)→bindC k l m x=m x
 | [],_,_=>rfl
 | (n,v)::l,m,h=>by
  have h1:x≠n:=fun q=>h (by rw [q];simp -iota)
  have h2:x∉l.map (·.1):=fun q=>h (by simp -iota only [List.map_cons];exact List.mem_cons_of_mem _ q)
  show bindC k l _ x=_
  rw [bindC_not h2]
  split
  ·rfl
  ·exact if_neg h1
theorem bindL_mem {k:Str→Option NameKind} {x:Str} {v:Value}:∀ {l:List (Str×Value)} {m:Str→Option Value},(l.map (·.1)).Nodup→l.lookup x=some v→k x=some .local→bindL k l m x=some v
 | [],_,_,h,_=>by simp -iota at h
 | (n,u)::l,m,hn,h,hk=>by
  rw [List.map_cons,List.nodup_cons] at hn
  show bindL k l _ x=_
  by_cases q:x=n
  ·subst q
   simp -iota at h
   subst h
   rw [bindL_not hn.1,if_pos hk]
   simp -iota
  ·rw [List.lookup_cons,beq_eq_false_iff_ne.mpr q] at h
   exact bindL_mem hn.2 h hk
theorem bindC_mem {k:Str→Option NameKind} {x:Str} {v:Value}:∀ {l:List (Str×Value)} {m:Str→Option Value},(l.map (·.1)).Nodup→l.lookup x=some v→k x≠some .local→bindC k l m x=some v
 | [],_,_,h,_=>by simp -iota at h
 | (n,u)::l,m,hn,h,hk=>by
  rw [List.map_cons,List.nodup_cons] at hn
  show bindC k l _ x=_
  by_cases q:x=n
  ·subst q
   simp -iota at h
   subst h
   rw [bindC_not hn.1,if_neg hk]
   simp -iota
  ·rw [List.lookup_cons,beq_eq_false_iff_ne.mpr q] at h
   exact bindC_mem hn.2 h hk
theorem pos_zip {F:FnD} {args:List AV} {vars:Vars} (h1:F.kwo=[]) (h2:F.dfl=[]) (e:F.binds args []=some vars):args.length=F.pos.length∧vars=(F.pos.map key).zip args:=by
 unfold FnD.binds at e
 rw [h1,h2] at e
 refine ifsk e fun hc e=>?_
 simp -iota at hc
 obtain rfl:=sj e
 exact ⟨by omega,by simp -iota⟩
theorem frame_cells {F:FnD} {a L:Addr} {fd:FuncData} {args:List AV} {vvs:List Value} {s1:Shared} (U:UCells c F a fd) (S:St c σ H s) (hL:s.heap.objs.size=L) (ra:RelL σ args vvs) (hal:args.length=F.pos.length)
  (X:InCallC s L (bindL (callEnvC fd L a).kindOf (F.pos.zip vvs) fun _=>none) (callEnvC fd L a).cells (bindC (callEnvC fd L a).kindOf (F.pos.zip vvs) fun _=>none) s1) :
  SF c F.sc ((F.pos.map key).zip args) (callEnvC fd L a) σ s1.heap∧∀ b∈fadr (callEnvC fd L a),s.heap.get? b=none:=by
 have hlen:=ra.length
 have hLn:s.heap.get? L=none:=by rw [← hL];exact get?_size _
 have hnames:F.names=F.pos:=by unfold FnD.names;rw [U.plainK];simp -iota
 have hnod:((F.pos.zip vvs).map (·.1)).Nodup:=ze4 (hnames▸U.nd) (by omega)
 have hsc:(callEnvC fd L a).scope=F.sc:=U.scope
 have hks:∀ x,(callEnvC fd L a).kindOf x=F.sc.names.lookup x:=fun x=>by unfold Env.kindOf;rw [hsc]
 have hcs:(callEnvC fd L a).cells=cellsFrom (L + 1) F.sc.names []:=by show cellsFrom (L + 1) fd.scope.names []=_;rw [U.scope]
 have above:∀ x b,(callEnvC fd L a).cells.lookup x=some b→L < b:=fun x b e=>X.above x b (zag e)
 have freshC:∀ x b,(callEnvC fd L a).cells.lookup x=some b→s.heap.get? b=none:=fun x b e=>Heap.get?_none_of_le (by rw [hL];exact Nat.le_of_lt (above x b e))
 obtain ⟨hL1,hL2⟩:=fresh_of S hLn
 refine ⟨⟨⟨⟨by rw [hsc];exact U.kind,U.glob,U.blt,fun x hx=>(hks x).trans hx,fun x av hx hv=>?_,⟨_,X.toInCall.ns⟩,hL2,fun x b hx=>(fresh_of S (freshC x b hx)).2,?_⟩,fun x b hx=>⟨_,X.cell x b hx⟩,fun x hx=>?_,fun x hx=>by rw [hks];exact hx⟩,
   ScR.rfl' hsc,fun x y b hx hy=>name_of_addr X.apart (zag hx) (zag hy),fun x b hx=>Nat.ne_of_gt (above x b hx),hL1,fun x b _ hx=>(fresh_of S (freshC x b hx)).1,fun b hb=>?_⟩,fun b hb=>?_⟩
 ·obtain ⟨v,h1,h2,h3⟩:=zdy hx ra
  rcases U.loc x (hnames▸h3) with q | q
  ·exact .inl ⟨(hks x).trans q,_,v,X.toInCall.ns,bindL_mem hnod h1 ((hks x).trans q),h2⟩
  ·have hs:=cellsFrom_some (x:=x) F.sc.names (L + 1) [] (.inl q)
   rw [← hcs] at hs
   obtain ⟨b,hb⟩:=Option.isSome_iff_exists.mp hs
   refine .inr ⟨.inl ((hks x).trans q),b,v,hb,?_,h2⟩
   have:=X.cell x b hb
   rwa [bindC_mem hnod h1 (by rw [hks,q];decide)] at this
 ·cases q:look (key ".0") ((F.pos.map key).zip args) with
  | none=>rfl
  | some w=>obtain ⟨_,_,_,h3⟩:=zdy q ra;exact absurd (hnames▸h3) U.nodot
 ·rcases hx with q | q
  ·have hs:=cellsFrom_some (x:=x) F.sc.names (L + 1) [] (.inl q)
   rw [← hcs] at hs
   exact Option.isSome_iff_exists.mp hs
  ·exact absurd rfl (U.nofree _ (zag q))
 ·obtain ⟨p,_,hp⟩:=List.mem_filterMap.mp hb
  obtain ⟨o,ho,_⟩:=X.cell p.1 b hp
  exact ⟨o,ho⟩
 ·rcases List.mem_cons.mp hb with q | q
  ·rw [q];exact hLn
  ·obtain ⟨p,_,hp⟩:=List.mem_filterMap.mp q
   exact freshC p.1 b hp
theorem cells_kinds {F:FnD} {a L:Addr} {fd:FuncData} (U:UCells c F a fd) {vvs:List Value}:∀ x∈F.pos.zip vvs,fd.scope.names.lookup x.1=some .local∨(fd.scope.names.lookup x.1=some .cell∧((cellsFrom (L + 1) fd.scope.names []).lookup x.1).isSome=true):=by
 intro x hx
 have hnames:F.names=F.pos:=by unfold FnD.names;rw [U.plainK];simp -iota
 rcases U.loc x.1 (hnames▸(List.of_mem_zip hx).1) with q | q
 ·rw [U.scope];exact .inl q
 ·rw [U.scope];exact .inr ⟨q,cellsFrom_some F.sc.names (L + 1) [] (.inl q)⟩
theorem cells_sound {F:FnD} {a:Addr} {fd:FuncData} {args:List AV} {vvs:List Value} {r:AV} (O:c.Ok) (U:UCells c F a fd) (hcall:zbx c call n) (Rm:Room A (n + 1)) (S:St c σ H s)
  (ra:RelL σ args vvs) (e:callF c.G call F args [] H=some (r,H')):WP c A (PySem.call (.ref a) vvs []) σ H' s fun τ v=>r.Rel τ v:=by
 refine bind_some e fun vars e1 e=>?_
 refine za4 e ?_;rintro f ⟨v2,H2⟩ e2 e3
 dsimp only at e3
 obtain ⟨hal,rfl⟩:=pos_zip U.plainK U.plainD e1
 refine U.toUBase.rec_ S fun fo ho hd hcd=>?_
 have hlen:=ra.length
 intro Q E hq
 refine wpAny_call (codeAny_call_cells (by have:=Rm.depth;omega) ho hd (S.nolim O) hcd U.body (U.binds vvs (by omega)) U.clo (cells_kinds U) (fun s1 X=>?_) (by rw [U.scope];exact U.co) (by rw [U.scope];exact U.gen) (by rw [U.scope];exact U.kind))
 obtain ⟨Fr,hfr⟩:=frame_cells U S rfl ra hal X
 obtain ⟨h1,tk,hs1⟩:=X.toInCall.same
 have hk:∀ b o,s.heap.get? b=some o→h1.get? b=some o:=fun b o e=>by have:=X.toInCall.keep b o e;rw [hs1] at this;exact this
 have S1:St c σ H s1:=S.keep X.toInCall.keep
 refine (zcw (zbz O hcall za0) (Rm.deeper _) F.body Fr S1 e2).use fun τ s' fl a1 F1 r1=>?_
 have fin:=AftS.leave (s:=s) hs1 hk a1 hfr
 dsimp only at r1 fin
 cases r1 with
 | next=>refine opjk e3 ?_;rintro rfl rfl;exact hq τ s' _ fin rfl
 | brk=>exact nsf e3
 | ret rr=>refine opjk e3 ?_;rintro rfl rfl;exact hq τ s' _ fin rr
end
structure ULam (c:Cx) (ps:List Str) (e:Expr) (sc:Scope) (cap:Vars) (a:Addr) (fd:FuncData):Prop where
 obj:∃ fo,c.hb.get? a=some fo∧fo.data=.func fd
 out:a∉c.Wb
 code:∃ cc o vs t,fd.code=.ref cc∧cc∉c.Wb∧c.hb.get? cc=some o∧o.data=.fields vs∧vs[1]?=some (.str fd.qualname t)
 body:fd.body=.expr e
 scope:fd.scope=sc
 glob:fd.globals=mainGlobals
 blt:fd.builtins=builtinsNs
 co:sc.isCoroutine=false
 gen:sc.isGenerator=false
 kind:sc.kind=.function
 nodot:(".0":Str)∉ps
 nd:ps.Nodup
 nocell:∀ x∈sc.names,x.2≠.cell
 loc:∀ x∈ps,sc.names.lookup x=some .local
 binds:∀ (vvs:List Value),vvs.length=ps.length→bindArgs fd ⟨vvs,[]⟩=pure (ps.zip vvs)
 cells:∀ x b,fd.closure.lookup x=some b→b∉c.Wb∧b∉c.fx∧∃ o v,c.hb.get? b=some o∧o.data=.cell v
 all:∀ x,sc.names.lookup x=some .free→∃ b,fd.closure.lookup x=some b
 cap:∃ capN:List (Str×AV),cap=capN.map (fun p=>(key p.1,p.2))∧∀ p∈capN,p.1≠(".0":Str)∧p.1∉ps∧sc.names.lookup p.1=some .free∧(p.1 == ("__classdict__":Str))=false∧∃ b v o,fd.closure.lookup p.1=some b∧c.hb.get? b=some o∧o.data=.cell (some v)∧p.2.Rel c.fx v
noncomputable def NatOk (c:Cx) (a:Addr) (m:Nat) (f:List AV→List AO→Option (AV×List AO)):Prop :=
 (∃ fo fd,c.hb.get? a=some fo∧a∉c.Wb∧fo.data=.func fd)∧∀ (A:Around) (σ:List Addr) (H:List AO) (s:Shared) (args:List AV) (vvs:List Value) (r:AV) (H':List AO),
  Room A m→St c σ H s→RelL σ args vvs→f args H=some (r,H')→WP c A (PySem.call (.ref a) vvs []) σ H' s fun τ v=>r.Rel τ v
noncomputable def UFOk (c:Cx) (a:Addr):UF→Prop
 | .code F=>∃ fd,UPlain c F a fd∨UCells c F a fd
 | .lam ps e sc cap=>∃ fd,ULam c ps e sc cap a fd
 | .nat m f=>NatOk c a m f
noncomputable def TabOk (c:Cx) (T:List (Nat×UF)) (TL:List UF):Prop:=(∀ (a:Nat) (u:UF),T.lookup a=some u→UFOk c a u)∧∀ (k:Nat) (u:UF),TL[k]?=some u→∃ a:Addr,c.fx[k]?=some a∧UFOk c a u
section
variable {c:Cx} {A:Around} {σ:List Addr} {H H' H'':List AO} {s:Shared} {call:CallT} {n m:Nat}
theorem look_append {k:Nat}:∀ {v1 v2:Vars},look k (v1++v2)=(look k v1).or (look k v2)
 | [],v2=>rfl
 | (j,v)::v1,v2=>by
  rw [List.cons_append,zan,zan]
  by_cases q:j=k
  ·rw [if_pos q,if_pos q];rfl
  ·rw [if_neg q,if_neg q,look_append]
theorem look_capN {x:Str} {av:AV}:∀ {l:List (Str×AV)},look (key x) (l.map fun p=>(key p.1,p.2))=some av→(x,av)∈l
 | [],h=>by exact nsf h
 | (y,w)::l,h=>by
  rw [List.map_cons,zan] at h
  by_cases q:key y=key x
  ·rw [if_pos q] at h
   obtain rfl:=sj h
   rw [key_inj q];exact List.mem_cons_self ..
  ·rw [if_neg q] at h
   exact List.mem_cons_of_mem _ (look_capN h)
theorem out_of_base (S:St c σ H s) {b:Addr} {o:Obj} (h:c.hb.get? b=some o) (hw:b∉c.Wb) (hf:b∉c.fx):b∉σ:=fun q=>by
 obtain ⟨k,hk⟩:=List.mem_iff_getElem?.mp q
 by_cases hn:c.nfx≤k
 ·rcases S.fresh k b hk hn with z | z
  ·rw [h] at z;exact snf z
  ·exact hw z
 ·obtain ⟨t,e⟩:=S.fix
  have:=S.nle
  rw [e,List.getElem?_append_left (by omega)] at hk
  exact hf (List.mem_of_getElem? hk)
theorem lam_sound {ps:List Str} {e:Expr} {sc:Scope} {cap:Vars} {a:Addr} {fd:FuncData} {args:List AV} {vvs:List Value} {r:AV} (O:c.Ok) (U:ULam c ps e sc cap a fd) (hcall:zbx c call n) (Rm:Room A (n + 1)) (S:St c σ H s)
  (ra:RelL σ args vvs) (h:callLam c.G call ps e sc cap args H=some (r,H')):WP c A (PySem.call (.ref a) vvs []) σ H' s fun τ v=>r.Rel τ v:=by
 unfold callLam at h
 refine ifsk h fun hal h=>?_
 obtain ⟨fo,h1,hd⟩:=U.obj
 have ho:=S.base a fo U.out h1
 obtain ⟨cc,oc,vsc,tc,h3,h4,h5,h6,h7⟩:=U.code
 have hcd:s.heap.CodeRec fd.code fd.qualname:=⟨cc,oc,vsc,tc,h3,S.base cc oc h4 h5,h6,h7⟩
 have hlen:=ra.length
 have hnod:=ze4 U.nd (vs:=vvs) (by omega)
 obtain ⟨capN,rfl,hcap⟩:=U.cap
 intro Q E hq
 refine wpAny_call (kla_callFunE (by have:=Rm.depth;omega) ho hd (by rw [U.scope];exact U.co) (by rw [U.scope];exact U.gen) U.body hcd ?_)
 rw [U.binds vvs (by omega)]
 refine wpAny_pure ?_
 refine wpAny_newFunctionEnv (by rw [U.scope];exact U.nocell) (fun x hx=>by rw [U.scope];exact U.loc x.1 (List.of_mem_zip hx).1) (fun h₀ hns hsb=>?_) (by rw [U.scope];exact U.kind)
 generalize hL:s.heap.objs.size=L at hns hsb ⊢
 have hLn:s.heap.get? L=none:=by rw [← hL];exact get?_size _
 have hk:∀ b o,s.heap.get? b=some o→h₀.get? b=some o:=fun b o q=>(hsb.2 b (fun z=>by rw [z,hLn] at q;exact nsf q)).trans (Heap.get?_push_of_some _ q)
 have a0:Aft c σ H s [] { s with heap:=h₀,toks:=s.toks + (ps.zip vvs).length }:=Aft.heap S _ hk
 have S1:St c σ H { s with heap:=h₀,toks:=s.toks + (ps.zip vvs).length }:=S.keep hk
 refine ⟨S1.nolim O,kla_codeExpr ?_⟩
 generalize hE:newEnv fd.scope L fd.globals fd.closure (fd.qualname++".<locals>.") (some a) fd.code none fd.builtins=env
 have e1:env.scope=sc:=by rw [← hE];exact U.scope
 have e2:env.locals=L:=by rw [← hE];rfl
 have e3:env.cells=fd.closure:=by rw [← hE];rfl
 have e4:env.globals=mainGlobals:=by rw [← hE];exact U.glob
 have e5:env.builtins=builtinsNs:=by rw [← hE];exact U.blt
 have hks:∀ x,env.kindOf x=sc.names.lookup x:=fun x=>by unfold Env.kindOf;rw [e1]
 obtain ⟨hL1,hL2⟩:=fresh_of S hLn
 have Fr:Fr' sc ((ps.map key).zip args++capN.map fun p=>(key p.1,p.2)) env σ h₀:=by
  refine ⟨⟨by rw [e1];exact U.kind,e4,e5,fun x hx=>(hks x).trans hx,fun x av hx hv=>?_,⟨_,by rw [e2];exact hns⟩,by rw [e2];exact hL2,fun x b hx=>?_,?_⟩,fun x b hx=>?_,fun x hx=>?_,fun x hx=>by rw [hks];exact hx⟩
  ·rw [look_append] at hx
   cases q:look (key x) ((ps.map key).zip args) with
   | some w =>
    rw [q] at hx
    obtain rfl:=sj hx
    obtain ⟨v,g1,g2,g3⟩:=zdy q ra
    exact .inl ⟨(hks x).trans (U.loc x g3),_,v,by rw [e2];exact hns,by rw [ze5 hnod];exact g1,g2⟩
   | none =>
    rw [q] at hx
    obtain ⟨_,_,g1,g2,b,v,o,g3,g4,g5,g6⟩:=hcap _ (look_capN hx)
    obtain ⟨k1,k2,_⟩:=U.cells x b g3
    refine .inr ⟨.inr ⟨(hks x).trans g1,g2⟩,b,v,by rw [e3];exact g3,⟨o,hk b o (S.base b o k1 g4),g5⟩,?_⟩
    obtain ⟨t,et⟩:=S.fix
    rw [et];exact g6.mono
  ·rw [e3] at hx
   obtain ⟨k1,k2,o,v,k3,k4⟩:=U.cells x b hx
   exact out_of_base S k3 k1 k2
  ·rw [look_append]
   cases q:look (key ".0") ((ps.map key).zip args) with
   | some w=>obtain ⟨_,_,_,g3⟩:=zdy q ra;exact absurd g3 U.nodot
   | none =>
    cases q':look (key ".0") (capN.map fun p=>(key p.1,p.2)) with
    | none=>rfl
    | some w=>exact absurd rfl (hcap _ (look_capN q')).1
  ·rw [e3] at hx
   obtain ⟨k1,k2,o,v,k3,k4⟩:=U.cells x b hx
   exact ⟨v,o,hk b o (S.base b o k1 k3),k4⟩
  ·rw [e3]
   rcases hx with q | q
   ·exact absurd rfl (U.nocell _ (zag q))
   ·exact U.all x q
 refine ((zbf O hcall za0).1 (A.deeper env) sc _ env e H r H' σ { s with heap:=h₀,toks:=s.toks + (ps.zip vvs).length } (Rm.deeper _) Fr S1 h).use fun τ s' v a1 r1=>?_
 have a1':Aft c (σ++[]) H' { s with heap:=h₀,toks:=s.toks + (ps.zip vvs).length } τ s':=by rw [List.append_nil];exact a1
 have:=a0.trans a1'
 exact hq τ s' v this r1
theorem fx_at (S:St c σ H s) {k:Nat} {a b:Addr} (h1:c.fx[k]?=some a) (h2:σ[k]?=some b):b=a:=by
 obtain ⟨t,e⟩:=S.fix
 rw [e,List.getElem?_append_left (List.getElem?_eq_some_iff.mp h1).1,h1] at h2
 obtain rfl:=sj h2;rfl
theorem relK_nil {kvs:List (Str×Value)} (h:RelK σ [] kvs):kvs=[]:=by
 cases kvs with
 | nil=>rfl
 | cons _ _=>exact h.elim
theorem zbn {τ:List Addr}:∀ {xs:List AV} {vs:List Value},zb1 σ.length xs=true→RelL (σ++τ) xs vs→RelL σ xs vs
 | [],[],_,_=>trivial
 | x::xs,v::vs,hc,⟨r1,r2⟩=>by
  simp -iota only [zb1,List.all_cons,Bool.and_eq_true] at hc
  refine ⟨?_,zbn (by unfold zb1;exact hc.2) r2⟩
  cases x with
  | obj k =>
   obtain ⟨a,e,ev⟩:=r1
   have:=of_decide_eq_true hc.1
   exact ⟨a,by rw [List.getElem?_append_left this] at e;exact e,ev⟩
  | _=>exact r1
 | [],_::_,_,h=>h.elim
 | _::_,[],_,h=>h.elim
theorem rel_down {τ:List Addr} {x:AV} {v:Value} (h:∀ k,x=.obj k→k < σ.length) (r:x.Rel (σ++τ) v):x.Rel σ v:=by
 cases x with
 | obj k =>
  obtain ⟨a,e,ev⟩:=r
  exact ⟨a,by rw [List.getElem?_append_left (h k rfl)] at e;exact e,ev⟩
 | _=>exact r
theorem Aft.drop (S:St c σ H s) {τ:List Addr} {s':Shared} {H0:List AO} (a:Aft c σ H0 s τ s') (hc:cleanH σ.length (H0.take σ.length)=true):Aft c σ (H0.take σ.length) s [] s':=by
 have T:=a.st
 have hlen:=T.len
 rw [List.length_append] at hlen
 refine ⟨⟨T.base,by rw [List.append_nil,List.length_take];omega,fun k b o e e'=>?_,by rw [List.append_nil];exact S.nodup,by rw [List.append_nil];exact S.fresh,by rw [List.append_nil];exact S.fix,fun k hk=>?_,T.live,T.nle⟩,a.pres,fun _ h=>nomatch h⟩
 ·rw [List.append_nil] at e ⊢
  have hk:=(List.getElem?_eq_some_iff.mp e).1
  have e2:H0[k]?=some o:=by rw [List.getElem?_take,if_pos hk] at e';exact e'
  have at1:=T.objs k b o (by rw [List.getElem?_append_left hk];exact e) e2
  cases o with
  | list xs =>
   obtain ⟨vs,n,g1,g2,g3⟩:=at1
   have:=List.all_eq_true.mp hc _ (List.mem_of_getElem? e')
   exact ⟨vs,n,g1,zbn this g2,g3⟩
  | range _ _ _=>exact at1
  | opq _=>exact at1
  | arg o xs =>
   obtain ⟨g0,vs,n,g1,g2,g3⟩:=at1
   have:=List.all_eq_true.mp hc _ (List.mem_of_getElem? e')
   exact ⟨g0,vs,n,g1,zbn this g2,g3⟩
  | tab xs =>
   obtain ⟨vs,g1,g2⟩:=at1
   have:=List.all_eq_true.mp hc _ (List.mem_of_getElem? e')
   exact ⟨vs,g1,zbn this g2⟩
  | code=>exact at1
 ·obtain ⟨P,e⟩:=T.fixed k hk
  have:=S.fixLen
  have:=S.nle
  exact ⟨P,by rw [List.getElem?_take,if_pos (by omega)];exact e⟩
theorem gc_list (S:St c σ H s) {τ:List Addr} {s':Shared} {H0:List AO} (a:Aft c σ H0 s τ s') (D:Aft c σ (H0.take σ.length) s [] s') {k:Nat} {b:Addr} {xs:List AV} (hk:σ.length≤k) (hb:(σ++τ)[k]?=some b) (hx:H0[k]?=some (.list xs)) (hcl:zb1 σ.length xs=true) :
  Aft c σ (H0.take σ.length++[.list xs]) s [b] s':=by
 obtain ⟨vs,n,g1,g2,g3⟩:=a.st.objs k b _ hb hx
 have hbτ:b∈τ:=by
  rw [List.getElem?_append_right hk] at hb
  exact List.mem_of_getElem? hb
 have hbσ:b∉σ:=fun q=>(List.nodup_append.mp a.st.nodup).2.2 b q b hbτ rfl
 have Ds:=D.st
 have hl0:(H0.take σ.length).length=σ.length:=by rw [← Ds.len,List.append_nil]
 have split:∀ {j:Nat} {b':Addr},(σ++[b])[j]?=some b'→(j < σ.length∧σ[j]?=some b')∨(j=σ.length∧b'=b):=fun {j b'} e=>by
  by_cases hj:j < σ.length
  ·rw [List.getElem?_append_left hj] at e;exact .inl ⟨hj,e⟩
  ·have hj2:=(List.getElem?_eq_some_iff.mp e).1
   rw [List.length_append] at hj2
   have hj0:j=σ.length:=Nat.le_antisymm (Nat.le_of_lt_succ hj2) (Nat.le_of_not_lt hj)
   subst hj0
   rw [zav rfl] at e
   exact .inr ⟨rfl,(sj e).symm⟩
 have hnl:c.nfx≤σ.length:=Nat.le_trans S.nle S.fixLen
 refine ⟨⟨Ds.base,by rw [List.length_append,List.length_append,hl0];rfl,fun j b' o e1 e2=>?_,?_,fun j b' e1 hj=>?_,?_,fun j hj=>?_,Ds.live,Ds.nle⟩,a.pres,fun x hx=>by cases List.mem_singleton.mp hx;exact a.new _ hbτ⟩
 ·rcases split e1 with ⟨hj,e⟩ | ⟨rfl,rfl⟩
  ·rw [List.getElem?_append_left (by rw [hl0];exact hj)] at e2
   have:=Ds.objs j b' o (by rw [List.append_nil];exact e) e2
   rw [List.append_nil] at this
   exact this.mono
  ·rw [zav hl0] at e2
   obtain rfl:=sj e2
   exact ⟨vs,n,g1,(zbn hcl g2).mono,g3⟩
 ·rw [List.nodup_append]
  exact ⟨S.nodup,List.nodup_cons.mpr ⟨List.not_mem_nil,List.nodup_nil⟩,fun x hx y hy q=>by cases List.mem_singleton.mp hy;exact hbσ (q▸hx)⟩
 ·rcases split e1 with ⟨hj2,e⟩ | ⟨rfl,rfl⟩
  ·exact S.fresh j b' e hj
  ·exact a.st.fresh k b' hb (Nat.le_trans hnl hk)
 ·obtain ⟨t,et⟩:=S.fix
  exact ⟨t++[b],by rw [et,List.append_assoc]⟩
 ·obtain ⟨P,e⟩:=Ds.fixed j hj
  exact ⟨P,by rw [List.getElem?_append_left (by rw [hl0];exact Nat.lt_of_lt_of_le hj hnl)];exact e⟩
noncomputable def GcR (c:Cx) (σ:List Addr) (s s':Shared) (v:Value) (z:AV×List AO):Prop:=∃ τ',Aft c σ z.2 s τ' s'∧z.1.Rel (σ++τ') v
theorem gc_obj (S:St c σ H s) {τ:List Addr} {s':Shared} {H0:List AO} {k:Nat} {v:Value} (a:Aft c σ H0 s τ s') (rr:(AV.obj k).Rel (σ++τ) v) (hc:cleanH σ.length (H0.take σ.length)=true):GcR c σ s s' v (gc σ.length (.obj k) H0):=by
 have D:=a.drop S hc
 unfold gc gcGo
 rw [if_pos hc]
 show GcR c σ s s' v (if decide (k < σ.length)=true then _ else _)
 by_cases hk:k < σ.length
 ·rw [if_pos (decide_eq_true hk)]
  refine ⟨[],D,?_⟩
  rw [List.append_nil]
  exact rel_down (fun j hj=>by cases hj;exact hk) rr
 ·rw [if_neg (fun q=>hk (of_decide_eq_true q))]
  have hk':=Nat.le_of_not_lt hk
  cases hx:H0[k]? with
  | none=>exact ⟨τ,a,rr⟩
  | some o =>
   cases o with
   | list xs =>
    show GcR c σ s s' v (if zb1 σ.length xs=true then _ else _)
    by_cases hcl:zb1 σ.length xs=true
    ·rw [if_pos hcl]
     obtain ⟨b,hb,rfl⟩:=rr
     exact ⟨[b],gc_list S a D hk' hb hx hcl,b,zav rfl,rfl⟩
    ·rw [if_neg hcl];exact ⟨τ,a,rr⟩
   | _=>exact ⟨τ,a,rr⟩
theorem gc_sound (S:St c σ H s) {τ:List Addr} {s':Shared} {H0:List AO} {r0 r:AV} {v:Value} (a:Aft c σ H0 s τ s') (rr:r0.Rel (σ++τ) v) (e:gc σ.length r0 H0=(r,H')):GcR c σ s s' v (r,H'):=by
 rw [← e]
 by_cases hc:cleanH σ.length (H0.take σ.length)=true
 ·cases r0 with
  | obj k=>exact gc_obj S a rr hc
  | _ =>
   unfold gc gcGo
   rw [if_pos hc]
   refine ⟨[],a.drop S hc,?_⟩
   rw [List.append_nil]
   exact rel_down (fun j hj=>nomatch hj) rr
 ·unfold gc gcGo
  rw [if_neg hc]
  exact ⟨τ,a,rr⟩
theorem gc_WP (S:St c σ H s) {t:Sem Value} {H0:List AO} {r0 r:AV} (w:WP c A t σ H0 s fun τ v=>r0.Rel τ v) (e:gc H.length r0 H0=(r,H')):WP c A t σ H' s fun τ v=>r.Rel τ v:=by
 intro Q E hq
 refine w Q E fun τ s' v a rr=>?_
 obtain ⟨τ',a',r'⟩:=gc_sound (r:=r) (H':=H') S a rr (by rw [S.len];exact e)
 exact hq τ' s' v a' r'
theorem callT_sound {T:List (Nat×UF)} {TL:List UF} {d:Nat} (O:c.Ok) (ih:zbx c (zbv c.G T TL d) d) {a:Addr} {u:UF} (hu:UFOk c a u) {vs:List AV} {ks:List (Str×AV)} {vvs:List Value} {kvs:List (Str×Value)} {r:AV}
  (Rm:Room A (d + 1)) (S:St c σ H s) (ra:RelL σ vs vvs) (rk:RelK σ ks kvs) (e:callT c.G (zbv c.G T TL d) d u vs ks H=some (r,H')):Callable s.heap (.ref a)∧WP c A (PySem.call (.ref a) vvs kvs) σ H' s fun τ v=>r.Rel τ v:=by
 cases u with
 | code F =>
  obtain ⟨⟨r0,H0⟩,e,eg⟩:=Option.map_eq_some_iff.mp (show (callF c.G (zbv c.G T TL d) F vs ks H).map (fun r=>gc H.length r.1 r.2)=some (r,H') from e)
  dsimp only at eg
  obtain ⟨fd,U | U⟩:=hu
  ·refine ⟨?_,gc_WP S (plain_sound O U ih Rm S ra rk e) eg⟩
   obtain ⟨fo,g1,g2⟩:=U.obj
   exact .inr ⟨a,fo,fd,rfl,S.base a fo U.out g1,g2⟩
  ·have hk:ks=[]:=by
    refine bind_some e fun vars e2 _=>?_
    unfold FnD.binds at e2
    rw [U.plainK] at e2
    refine ifsk e2 fun hc e2=>?_
    simp at hc
    cases ks with
    | nil=>rfl
    | cons x ks=>exact absurd (List.mem_cons_self (a:=x) (l:=ks)) (hc.1.2 x.1 x.2)
   subst hk
   cases relK_nil rk
   refine ⟨?_,gc_WP S (cells_sound O U ih Rm S ra e) eg⟩
   obtain ⟨fo,g1,g2⟩:=U.obj
   exact .inr ⟨a,fo,fd,rfl,S.base a fo U.out g1,g2⟩
 | lam ps ex sc cap =>
  obtain ⟨fd,U⟩:=hu
  replace e:(if ks=[] then callLam c.G (zbv c.G T TL d) ps ex sc cap vs H else none)=some (r,H'):=e
  refine ifsk e fun hk e=>?_
  subst hk
  cases relK_nil rk
  refine ⟨?_,lam_sound O U ih Rm S ra e⟩
  obtain ⟨fo,g1,g2⟩:=U.obj
  exact .inr ⟨a,fo,fd,rfl,S.base a fo U.out g1,g2⟩
 | nat mm f =>
  obtain ⟨⟨fo,fd,g1,g2,g3⟩,g4⟩:=hu
  simp only [callT] at e
  split at e
  ·rename_i hk
   simp only [Bool.and_eq_true,decide_eq_true_eq] at hk
   obtain ⟨hk1,hk2⟩:=hk
   subst hk2
   cases relK_nil rk
   exact ⟨.inr ⟨a,fo,fd,rfl,S.base a fo g2 g1,g3⟩,g4 A σ H s vs vvs r H' (Rm.le hk1) S ra e⟩
  ·exact nsf e
theorem zb3 {T:List (Nat×UF)} {TL:List UF} (O:c.Ok) (TO:TabOk c T TL):∀ d,zbx c (zbv c.G T TL d) d:=by
 intro d
 induction d with
 | zero=>intro A σ H s f vs ks fv vvs kvs r H' _ _ _ _ _ e;exact nsf e
 | succ d ih =>
  intro A σ H s f vs ks fv vvs kvs r H' Rm S rf ra rk e
  cases f with
  | obj k =>
   refine bind_some (x:=TL[k]?) (f:=fun u=>callT c.G (zbv c.G T TL d) d u vs ks H) e fun u e1 e9=>?_
   obtain ⟨a,h1,hu⟩:=TO.2 k u e1
   obtain ⟨b,h2,rfl⟩:=rf
   cases fx_at S h1 h2
   exact callT_sound O ih hu Rm S ra rk e9
  | lit v =>
   have rf':fv=v:=rf
   subst rf'
   cases fv with
   | ref a =>
    refine bind_some (x:=T.lookup a) (f:=fun u=>callT c.G (zbv c.G T TL d) d u vs ks H) e fun u e1 e9=>?_
    exact callT_sound O ih (TO.1 a u e1) Rm S ra rk e9
   | builtin id =>
    refine ifsk (p:=ks=[]) (x:=builtins id vs H) e fun hk e=>?_
    subst hk
    cases relK_nil rk
    exact ⟨.inl fun a q=>(nomatch q),builtins_sound Rm.handled S ra e⟩
   | type id =>
    refine ifsk (p:=ks=[]) (x:=typesCall id vs H) e fun hk e=>?_
    subst hk
    cases relK_nil rk
    exact ⟨.inl fun a q=>(nomatch q),typesCall_sound O Rm.handled S ra e⟩
   | _=>exact nsf e
  | _=>exact nsf e
end
noncomputable abbrev CE:=Vars→List AO→Option (AV×List AO)
noncomputable abbrev CB:=Vars→List AO→Option (Bool×List AO)
noncomputable abbrev CS:=Vars→List AO→Option ExR
noncomputable section
noncomputable def ob {α β γ:Type} (x:Option (α×β)) (f:α→β→Option γ):Option γ:=Option.rec (motive:=fun _=>Option γ) none (fun p=>f p.1 p.2) x
noncomputable def o1 {α γ:Type} (x:Option α) (f:α→Option γ):Option γ:=Option.rec (motive:=fun _=>Option γ) none f x
noncomputable def bi {α:Type} (b:Bool) (x y:α):α:=Bool.rec (motive:=fun _=>α) y x b
theorem zai {α β γ:Type} {x:Option (α×β)} {f:α→β→Option γ} {r:γ} (h:ob x f=some r) {Γ:Prop} (κ:∀ a b,x=some (a,b)→f a b=some r→Γ):Γ:=by
 cases x with
 | none=>exact nsf h
 | some p=>exact κ p.1 p.2 rfl h
theorem za7 {α β:Type} {x:Option α} {f:α→Option β} {r:β} (h:o1 x f=some r) {Γ:Prop} (κ:∀ a,x=some a→f a=some r→Γ):Γ:=by
 cases x with
 | none=>exact nsf h
 | some a=>exact κ a rfl h
theorem o1_someP {α γ β:Type} {x:Option (α×γ)} {f:α×γ→Option β} {r:β} (h:o1 x f=some r) {Γ:Prop} (κ:∀ a c,x=some (a,c)→f (a,c)=some r→Γ):Γ:=by
 cases x with
 | none=>exact nsf h
 | some a=>exact κ a.1 a.2 rfl h
theorem zay {α:Type} (b:Bool) (x y:α):bi b x y=if b then x else y:=by cases b<;>rfl
noncomputable def lenF {α:Type} (l:List α):Nat:=List.rec (motive:=fun _=>Nat) 0 (fun _ _ ih=>Nat.succ ih) l
theorem zau {α:Type}:∀ (l:List α),lenF l=l.length
 | []=>rfl
 | _::l=>congrArg Nat.succ (zau l)
noncomputable def appF {α:Type} (l m:List α):List α:=List.rec (motive:=fun _=>List α) m (fun x _ ih=>x::ih) l
theorem zc3 {α:Type}:∀ (l m:List α),appF l m=l++m
 | [],_=>rfl
 | x::l,m=>congrArg (x::·) (zc3 l m)
noncomputable def setF {α:Type} (l:List α) (v:α):Nat→List α:=List.rec (motive:=fun _=>Nat→List α) (fun _=>[]) (fun x xs ih k=>Nat.rec (motive:=fun _=>List α) (v::xs) (fun j _=>x::ih j) k) l
theorem setF_eq {α:Type} {v:α}:∀ (l:List α) (k:Nat),setF l v k=l.set k v
 | [],_=>rfl
 | _::_,0=>rfl
 | x::l,k + 1=>by
  show x::setF l v k=x::l.set k v
  rw [setF_eq]
noncomputable def za2 (k:Nat) (l:Vars):Option AV:=List.rec (motive:=fun _=>Option AV) none (fun y _ ih=>bi (Nat.beq y.1 k) (some y.2) ih) l
theorem zbj {k:Nat}:∀ {l:Vars},za2 k l=look k l
 | []=>rfl
 | y::l=>by
  show bi (Nat.beq y.1 k) (some y.2) (za2 k l)=if Nat.beq y.1 k=true then some y.2 else look k l
  rw [zbj,zay]
noncomputable def zab (k:Nat) (v:AV) (l:Vars):Vars:=List.rec (motive:=fun _=>Vars) [(k,v)] (fun y ys ih=>bi (Nat.beq y.1 k) ((k,v)::ys) (y::ih)) l
theorem setV2_eq {k:Nat} {v:AV}:∀ {l:Vars},zab k v l=setV k v l
 | []=>rfl
 | y::l=>by
  show bi (Nat.beq y.1 k) ((k,v)::l) (y::zab k v l)=if Nat.beq y.1 k=true then (k,v)::l else y::setV k v l
  rw [setV2_eq,zay]
noncomputable def lof (H:List AO) (k:Nat):Option (List AV):=o1 (nth H k) fun o=>AO.rec (motive:=fun _=>Option (List AV)) (fun xs=>some xs) (fun _ _ _=>none) (fun _=>none) (fun _ xs=>some xs) (fun _=>none) none o
theorem zdq (H:List AO) (k:Nat):lof H k=zah H (.obj k):=by
 unfold lof
 show _=match nth H k with
  | some (.list xs)=>some xs
  | some (.arg _ xs)=>some xs
  | _=>none
 generalize nth H k=z
 cases z with
 | none=>rfl
 | some o=>cases o<;>rfl
noncomputable def iLt (x y:Int):Bool:=Int.rec (motive:=fun _=>Bool) (fun a=>Int.rec (motive:=fun _=>Bool) (fun b=>Nat.ble (Nat.succ a) b) (fun _=>false) y) (fun a=>Int.rec (motive:=fun _=>Bool) (fun _=>true) (fun b=>Nat.ble (Nat.succ b) a) y) x
theorem iLt_eq (x y:Int):iLt x y=decide (x < y):=by
 cases x with
 | ofNat a =>
  cases y with
  | ofNat b =>
   show Nat.ble (a + 1) b=_
   rw [Bool.eq_iff_iff,Nat.ble_eq,decide_eq_true_eq]
   simp -iota only [Int.ofNat_eq_natCast];omega
  | negSucc b=>show false=_;symm;rw [decide_eq_false_iff_not];simp -iota only [Int.ofNat_eq_natCast,Int.negSucc_eq];omega
 | negSucc a =>
  cases y with
  | ofNat b=>show true=_;symm;rw [decide_eq_true_eq];simp -iota only [Int.ofNat_eq_natCast,Int.negSucc_eq];omega
  | negSucc b =>
   show Nat.ble (b + 1) a=_
   rw [Bool.eq_iff_iff,Nat.ble_eq,decide_eq_true_eq]
   simp -iota only [Int.negSucc_eq];omega
noncomputable def iEq (x y:Int):Bool:=Int.rec (motive:=fun _=>Bool) (fun a=>Int.rec (motive:=fun _=>Bool) (fun b=>Nat.beq a b) (fun _=>false) y) (fun a=>Int.rec (motive:=fun _=>Bool) (fun _=>false) (fun b=>Nat.beq a b) y) x
theorem iEq_eq (x y:Int):iEq x y=decide (x=y):=by
 cases x with
 | ofNat a =>
  cases y with
  | ofNat b =>
   show Nat.beq a b=_
   rw [Bool.eq_iff_iff,Nat.beq_eq,decide_eq_true_eq]
   simp -iota only [Int.ofNat_eq_natCast];omega
  | negSucc b=>show false=_;symm;rw [decide_eq_false_iff_not];simp -iota only [Int.ofNat_eq_natCast,Int.negSucc_eq];omega
 | negSucc a =>
  cases y with
  | ofNat b=>show false=_;symm;rw [decide_eq_false_iff_not];simp -iota only [Int.ofNat_eq_natCast,Int.negSucc_eq];omega
  | negSucc b =>
   show Nat.beq a b=_
   rw [Bool.eq_iff_iff,Nat.beq_eq,decide_eq_true_eq]
   simp -iota only [Int.negSucc_eq];omega
noncomputable def onInt {γ:Type} (a:AV) (f:Int→Option γ):Option γ:=AV.rec (motive:=fun _=>Option γ) (fun _=>none) f (fun _=>none) (fun _=>none) (fun _=>none) a
theorem zao {γ:Type} {a:AV} {f:Int→Option γ} {r:γ} (h:onInt a f=some r) {Γ:Prop} (κ:∀ i,a=.int i→f i=some r→Γ):Γ:=by
 cases a with
 | int i=>exact κ i rfl h
 | _=>exact nsf h
noncomputable def onCons {γ:Type} (l:List AV) (f:AV→List AV→Option γ):Option γ:=List.rec (motive:=fun _=>Option γ) none (fun x xs _=>f x xs) l
theorem onCons_some {γ:Type} {l:List AV} {f:AV→List AV→Option γ} {r:γ} (h:onCons l f=some r) {Γ:Prop} (κ:∀ x xs,l=x::xs→f x xs=some r→Γ):Γ:=by
 cases l with
 | cons x xs=>exact κ x xs rfl h
 | nil=>exact nsf h
noncomputable def onNil {γ:Type} (l:List AV) (z:Option γ):Option γ:=List.rec (motive:=fun _=>Option γ) z (fun _ _ _=>none) l
theorem zdf {γ:Type} {l:List AV} {z:Option γ} {r:γ} (h:onNil l z=some r) {Γ:Prop} (κ:l=[]→z=some r→Γ):Γ:=by
 cases l with
 | nil=>exact κ rfl h
 | cons=>exact nsf h
noncomputable def cI {γ:Type} (l:List AV) (f:Int→List AV→Option γ):Option γ:=onCons l fun a l=>AV.rec (motive:=fun _=>Option γ) (fun _=>none) (fun i=>f i l) (fun _=>none) (fun _=>none) (fun _=>none) a
theorem cI_some {γ:Type} {l:List AV} {f:Int→List AV→Option γ} {r:γ} (h:cI l f=some r) {Γ:Prop} (κ:∀ i xs,l=.int i::xs→f i xs=some r→Γ):Γ:=by
 refine onCons_some h ?_;rintro a xs rfl h
 cases a with
 | int i=>exact κ i xs rfl h
 | _=>exact nsf h
noncomputable def cS {γ:Type} (l:List AV) (f:Str→List AV→Option γ):Option γ:=onCons l fun a l=>AV.rec (motive:=fun _=>Option γ) (fun _=>none) (fun _=>none) (fun i=>f i l) (fun _=>none) (fun _=>none) a
theorem cS_some {γ:Type} {l:List AV} {f:Str→List AV→Option γ} {r:γ} (h:cS l f=some r) {Γ:Prop} (κ:∀ i xs,l=.str i::xs→f i xs=some r→Γ):Γ:=by
 refine onCons_some h ?_;rintro a xs rfl h
 cases a with
 | str i=>exact κ i xs rfl h
 | _=>exact nsf h
noncomputable def cO {γ:Type} (l:List AV) (f:Nat→List AV→Option γ):Option γ:=onCons l fun a l=>AV.rec (motive:=fun _=>Option γ) (fun _=>none) (fun _=>none) (fun _=>none) (fun i=>f i l) (fun _=>none) a
theorem cO_some {γ:Type} {l:List AV} {f:Nat→List AV→Option γ} {r:γ} (h:cO l f=some r) {Γ:Prop} (κ:∀ i xs,l=.obj i::xs→f i xs=some r→Γ):Γ:=by
 refine onCons_some h ?_;rintro a xs rfl h
 cases a with
 | obj i=>exact κ i xs rfl h
 | _=>exact nsf h
noncomputable def onObj {γ:Type} (a:AV) (f:Nat→Option γ):Option γ:=AV.rec (motive:=fun _=>Option γ) (fun _=>none) (fun _=>none) (fun _=>none) f (fun _=>none) a
theorem zde {γ:Type} {a:AV} {f:Nat→Option γ} {r:γ} (h:onObj a f=some r) {Γ:Prop} (κ:∀ i,a=.obj i→f i=some r→Γ):Γ:=by
 cases a with
 | obj i=>exact κ i rfl h
 | _=>exact nsf h
noncomputable def RE (G:Str→Option AV) (call:CallT) (sc:Scope) (n:Nat) (e:Expr) (f:CE):Prop:=∀ vars H r,f vars H=some r→ev G call n sc vars e H=some r
noncomputable def RB (G:Str→Option AV) (call:CallT) (sc:Scope) (n:Nat) (e:Expr) (f:CB):Prop:=∀ vars H r,f vars H=some r→tst G call n sc vars e H=some r
noncomputable def RS (G:Str→Option AV) (call:CallT) (sc:Scope) (n:Nat) (st:Stmt) (f:CS):Prop:=∀ vars H r,f vars H=some r→exS G call n sc vars st H=some r
noncomputable def RSs (G:Str→Option AV) (call:CallT) (sc:Scope) (n:Nat) (l:List Stmt) (f:CS):Prop:=∀ vars H r,f vars H=some r→exLGo (exS G call n sc) l vars H=some r
noncomputable def REs (G:Str→Option AV) (call:CallT) (sc:Scope) (n:Nat) (l:List Expr) (f:Vars→List AO→Option (List AV×List AO)):Prop:=∀ vars H r,f vars H=some r→evs (ev G call n sc vars) l H=some r
section
variable {G:Str→Option AV} {call:CallT} {sc:Scope} {n:Nat}
noncomputable def za1 (v:AV):CE:=fun _ H=>some (v,H)
noncomputable def za8 (k:Nat):CE:=fun vars H=>o1 (za2 k vars) fun v=>some (v,H)
theorem zd5 {i:Int} {kd:_} {p:Pos}:RE G call sc (n + 1) (.Constant (.int i) kd p) (za1 (.int i)):=fun _ _ _ h=>h
theorem RE_str {x:Str} {kd:_} {p:Pos}:RE G call sc (n + 1) (.Constant (.str x) kd p) (za1 (.str x)):=fun _ _ _ h=>h
theorem RE_none {kd:_} {p:Pos}:RE G call sc (n + 1) (.Constant .none kd p) (za1 (.lit .none)):=fun _ _ _ h=>h
theorem RE_bool {b:Bool} {kd:_} {p:Pos}:RE G call sc (n + 1) (.Constant (.bool b) kd p) (za1 (.lit (.bool b))):=fun _ _ _ h=>h
theorem zbi {x:Str} {p:Pos} {kx:Nat} (hk:key x=kx) (h1:(x == ("__debug__":Str))=false) (h2:isVar (sc.names.lookup x)=true):RE G call sc (n + 1) (.Name x p) (za8 kx):=by
 subst hk
 intro vars H r h
 refine za7 h fun v e h=>?_
 rw [zbj] at e
 obtain rfl:=sj h
 show evName G sc vars x H=_
 unfold evName
 rw [if_neg (by simpa -iota using h1)]
 cases q:sc.names.lookup x with
 | none=>rw [q] at h2;exact ftf h2
 | some kk =>
  rw [q] at h2
  cases kk<;>first | (show Option.map (fun z=>(z,H)) (look (key x) vars)=_;rw [e];rfl) | (first | exact nsf h2 | exact ftf h2)
theorem zcz {x:Str} {p:Pos} {v:AV} (h1:(x == ("__debug__":Str))=false) (h2:sc.names.lookup x=some .globalImplicit) (h3:G x=some v):RE G call sc (n + 1) (.Name x p) (za1 v):=by
 intro vars H r h
 obtain rfl:=sj h
 show evName G sc vars x H=_
 unfold evName
 rw [if_neg (by simpa using h1),h2]
 simp only [h3,Option.map_some]
noncomputable def zbh (g:AV→AV→List AO→Option (AV×List AO)) (fl fr:CE):CE:=fun vars H=>ob (fl vars H) fun a H=>ob (fr vars H) fun b H=>g a b H
noncomputable def gAdd (a b:AV) (H:List AO):Option (AV×List AO):=AV.rec (motive:=fun _=>Option (AV×List AO)) (fun _=>none) (fun x=>onInt b fun y=>some (.int (Int.add x y),H)) (fun _=>binop .Add a b H) (fun _=>binop .Add a b H) (fun _=>none) a
noncomputable def gSub (a b:AV) (H:List AO):Option (AV×List AO):=onInt a fun x=>onInt b fun y=>some (.int (Int.sub x y),H)
noncomputable def gFD (a b:AV) (H:List AO):Option (AV×List AO):=onInt a fun x=>onInt b fun y=>bi (iLt 0 y) (bi (iLt y 1000000) (some (.int (Int.fdiv x y),H)) none) none
noncomputable def gMod (a b:AV) (H:List AO):Option (AV×List AO):=onInt a fun x=>onInt b fun y=>bi (iLt 0 y) (bi (iLt y 1000000) (some (.int (Int.fmod x y),H)) none) none
theorem gAdd_ok {a b:AV} {H:List AO} {r:AV×List AO} (h:gAdd a b H=some r):binop .Add a b H=some r:=by
 cases a with
 | int x=>refine zao (a:=b) h ?_;rintro y rfl h;exact h
 | lit _=>exact nsf h
 | str _=>exact h
 | obj _=>exact h
 | rng _=>exact nsf h
theorem gSub_ok {a b:AV} {H:List AO} {r:AV×List AO} (h:gSub a b H=some r):binop .Sub a b H=some r:=by
 refine zao h ?_;rintro x rfl h1
 clear h
 refine zao h1 ?_;rintro y rfl h
 clear h1
 exact h
theorem ifif {α:Type} {p q:Bool} {x:Option α}:bi p (bi q x none) none=if (p && q)=true then x else none:=by cases p<;>(first | exact nsf q | exact ftf q | exact snf q | obtain rfl:=sj q | refine opjs q ?_ | refine op3k q ?_;rintro rfl rfl rfl | subst q | cases q)<;>rfl
theorem gFD_ok {a b:AV} {H:List AO} {r:AV×List AO} (h:gFD a b H=some r):binop .FloorDiv a b H=some r:=by
 refine zao h ?_;rintro x rfl h1
 clear h
 refine zao h1 ?_;rintro y rfl h
 clear h1
 rw [iLt_eq,iLt_eq,ifif] at h
 exact h
theorem gMod_ok {a b:AV} {H:List AO} {r:AV×List AO} (h:gMod a b H=some r):binop .Mod a b H=some r:=by
 refine zao h ?_;rintro x rfl h1
 clear h
 refine zao h1 ?_;rintro y rfl h
 clear h1
 rw [iLt_eq,iLt_eq,ifif] at h
 exact h
theorem RE_bin {op:Operator} {l r:Expr} {p:Pos} {g:AV→AV→List AO→Option (AV×List AO)} {fl fr:CE} (hg:∀ a b H r,g a b H=some r→binop op a b H=some r) (hl:RE G call sc n l fl) (hr:RE G call sc n r fr):RE G call sc (n + 1) (.BinOp l op r p) (zbh g fl fr):=by
 intro vars H q h
 refine zai h fun a H1 e1 h=>?_
 refine zai h fun b H2 e2 h=>?_
 show evBin (ev G call n sc vars) l op r H=_
 simp only [evBin,hl _ _ _ e1,hr _ _ _ e2,Option.bind_eq_bind,Option.bind_some]
 exact hg _ _ _ _ h
theorem RE_add {l r:Expr} {p:Pos} {fl fr:CE} (hl:RE G call sc n l fl) (hr:RE G call sc n r fr):RE G call sc (n + 1) (.BinOp l .Add r p) (zbh gAdd fl fr):=RE_bin (fun _ _ _ _ h=>gAdd_ok h) hl hr
theorem RE_sub {l r:Expr} {p:Pos} {fl fr:CE} (hl:RE G call sc n l fl) (hr:RE G call sc n r fr):RE G call sc (n + 1) (.BinOp l .Sub r p) (zbh gSub fl fr):=RE_bin (fun _ _ _ _ h=>gSub_ok h) hl hr
theorem RE_fd {l r:Expr} {p:Pos} {fl fr:CE} (hl:RE G call sc n l fl) (hr:RE G call sc n r fr):RE G call sc (n + 1) (.BinOp l .FloorDiv r p) (zbh gFD fl fr):=RE_bin (fun _ _ _ _ h=>gFD_ok h) hl hr
theorem RE_mod {l r:Expr} {p:Pos} {fl fr:CE} (hl:RE G call sc n l fl) (hr:RE G call sc n r fr):RE G call sc (n + 1) (.BinOp l .Mod r p) (zbh gMod fl fr):=RE_bin (fun _ _ _ _ h=>gMod_ok h) hl hr
theorem RE_mul {l r:Expr} {p:Pos} {fl fr:CE} (hl:RE G call sc n l fl) (hr:RE G call sc n r fr):RE G call sc (n + 1) (.BinOp l .Mult r p) (zbh (binop .Mult) fl fr):=RE_bin (fun _ _ _ _ h=>h) hl hr
noncomputable def cNeg (f:CE):CE:=fun vars H=>ob (f vars H) fun a H=>onInt a fun i=>some (.int (Int.neg i),H)
theorem RE_neg {x:Expr} {p:Pos} {f:CE} (hx:RE G call sc n x f):RE G call sc (n + 1) (.UnaryOp .USub x p) (cNeg f):=by
 intro vars H q h
 refine zai h fun a H1 e1 h=>?_
 refine zao h ?_;rintro i rfl h
 show evUn (ev G call n sc vars) .USub x H=_
 simp -iota only [evUn,hx _ _ _ e1]
 exact h
noncomputable def cIf {α:Type} (t:CB) (f g:Vars→List AO→Option α):Vars→List AO→Option α:=fun vars H=>ob (t vars H) fun q H=>bi q (f vars H) (g vars H)
theorem RE_if {t b o:Expr} {p:Pos} {ft:CB} {fb fo:CE} (ht:RB G call sc n t ft) (hb:RE G call sc n b fb) (ho:RE G call sc n o fo):RE G call sc (n + 1) (.IfExp t b o p) (cIf ft fb fo):=by
 intro vars H q h
 refine zai h fun a H1 e1 h=>?_
 show evIf (ev G call n sc vars) (tst G call n sc vars) t b o H=_
 simp -iota only [evIf,ht _ _ _ e1]
 cases a with
 | true=>exact hb _ _ _ h
 | false=>exact ho _ _ _ h
noncomputable def zcd:Vars→List AO→Option (List AV×List AO):=fun _ H=>some ([],H)
noncomputable def zaa (f:CE) (g:Vars→List AO→Option (List AV×List AO)):Vars→List AO→Option (List AV×List AO):=fun vars H=>ob (f vars H) fun v H=>ob (g vars H) fun vs H=>some (v::vs,H)
theorem zb6:REs G call sc n [] zcd:=fun _ _ _ h=>h
theorem zas {e:Expr} {es:List Expr} {f:CE} {g:Vars→List AO→Option (List AV×List AO)} (hs:notStar e=true) (he:RE G call sc n e f) (hes:REs G call sc n es g):REs G call sc n (e::es) (zaa f g):=by
 intro vars H q h
 refine zai h fun v H1 e1 h=>?_
 refine zai h fun vs H2 e2 h=>?_
 refine (if_pos hs).trans ?_
 rw [he _ _ _ e1]
 show (do let (vs,H) ← evs (ev G call n sc vars) es H1;some (v::vs,H))=some q
 rw [hes _ _ _ e2];exact h
noncomputable def newLF (H:List AO) (xs:List AV):Option (AV×List AO):=bi (Nat.ble (lenF xs) 1048576) (some (.obj (lenF H),appF H [.list xs])) none
theorem newLF_eq (H:List AO) (xs:List AV):newLF H xs=newL H xs:=by
 unfold newLF newL
 rw [zay,zau,zau,zc3]
 by_cases h:xs.length≤1048576
 ·rw [if_pos h,if_pos (Nat.ble_eq.mpr h)]
 ·rw [if_neg h,if_neg (fun q=>h (Nat.ble_eq.mp q))]
noncomputable def cList (g:Vars→List AO→Option (List AV×List AO)):CE:=fun vars H=>ob (g vars H) fun xs H=>newLF H xs
theorem RE_list {es:List Expr} {p:Pos} {g:Vars→List AO→Option (List AV×List AO)} (hg:REs G call sc n es g):RE G call sc (n + 1) (.List es p) (cList g):=by
 intro vars H q h
 refine zai h fun xs H1 e1 h=>?_
 rw [newLF_eq] at h
 show evList (ev G call n sc vars) es H=_
 simp -iota only [evList,hg _ _ _ e1]
 exact h
noncomputable def gCmp (g:Int→Int→Bool) (op:CmpOp) (a b:AV) (H:List AO):Option Bool :=
 AV.rec (motive:=fun _=>Option Bool) (fun _=>cmp op a b H) (fun x=>AV.rec (motive:=fun _=>Option Bool) (fun _=>cmp op a b H) (fun y=>some (g x y)) (fun _=>cmp op a b H) (fun _=>cmp op a b H) (fun _=>cmp op a b H) b) (fun _=>cmp op a b H) (fun _=>cmp op a b H) (fun _=>cmp op a b H) a
theorem gCmp_ok {g:Int→Int→Bool} {op:CmpOp} (hg:∀ x y H,cmp op (.int x) (.int y) H=some (g x y)) {a b:AV} {H:List AO}:gCmp g op a b H=cmp op a b H:=by
 cases a<;>first | rfl | (cases b<;>first | rfl | exact (hg _ _ _).symm)
noncomputable def gOf:CmpOp→AV→AV→List AO→Option Bool
 | .Lt=>gCmp iLt .Lt
 | .LtE=>gCmp (fun x y=>not (iLt y x)) .LtE
 | .Gt=>gCmp (fun x y=>iLt y x) .Gt
 | .GtE=>gCmp (fun x y=>not (iLt x y)) .GtE
 | .Eq=>gCmp iEq .Eq
 | .NotEq=>gCmp (fun x y=>not (iEq x y)) .NotEq
 | op=>cmp op
theorem iLe1 (x y:Int):decide (x≤y)=!iLt y x:=by rw [iLt_eq,← decide_not];exact decide_eq_decide.mpr Int.not_lt.symm
theorem iEqB (x y:Int):(x == y)=iEq x y:=by rw [iEq_eq,Bool.beq_eq_decide_eq]
theorem gOf_ok (op:CmpOp) {a b:AV} {H:List AO}:gOf op a b H=cmp op a b H:=by
 cases op with
 | Lt=>exact gCmp_ok fun x y H=>by rw [iLt_eq];rfl
 | LtE=>exact gCmp_ok fun x y H=>by exact congrArg some (iLe1 x y)
 | Gt=>exact gCmp_ok fun x y H=>by rw [iLt_eq];rfl
 | GtE=>exact gCmp_ok fun x y H=>by exact congrArg some (iLe1 y x)
 | Eq=>exact gCmp_ok fun x y H=>by exact congrArg some (iEqB x y)
 | NotEq=>exact gCmp_ok fun x y H=>by exact congrArg (fun q=>some (!q)) (iEqB x y)
 | _=>rfl
noncomputable def cCmp (g:AV→AV→List AO→Option Bool) (fl fr:CE):CE:=fun vars H=>ob (fl vars H) fun a H=>ob (fr vars H) fun b H=>o1 (g a b H) fun q=>some (.lit (.bool q),H)
theorem RE_cmp {op:CmpOp} {l r:Expr} {p:Pos} {fl fr:CE} (hm:behindInMarks op r=false) (hl:RE G call sc n l fl) (hr:RE G call sc n r fr):RE G call sc (n + 1) (.Compare l [op] [r] p) (cCmp (gOf op) fl fr):=by
 intro vars H q h
 refine zai h fun a H1 e1 h=>?_
 refine zai h fun b H2 e2 h=>?_
 refine za7 h fun t e3 h=>?_
 rw [gOf_ok] at e3
 show evCmp (ev G call n sc vars) l op r H=_
 simp only [evCmp,hm,hl _ _ _ e1]
 simp [hr _ _ _ e2,e3];exact Option.some.inj h
noncomputable def zdv (g:AV→AV→List AO→Option Bool) (fl fr:CE):CB:=fun vars H=>ob (fl vars H) fun a H=>ob (fr vars H) fun b H=>o1 (g a b H) fun q=>some (q,H)
theorem RB_cmp {op:CmpOp} {l r:Expr} {p:Pos} {fl fr:CE} (hm:behindInMarks op r=false) (hl:RE G call sc n l fl) (hr:RE G call sc n r fr):RB G call sc (n + 1) (.Compare l [op] [r] p) (zdv (gOf op) fl fr):=by
 intro vars H q h
 refine zai h fun a H1 e1 h=>?_
 refine zai h fun b H2 e2 h=>?_
 refine za7 h fun t e3 h=>?_
 rw [gOf_ok] at e3
 show tsCmp (ev G call n sc vars) l op r H=_
 simp only [tsCmp,hm,hl _ _ _ e1]
 simp [hr _ _ _ e2,e3];exact Option.some.inj h
noncomputable def tNot (f:CB):CB:=fun vars H=>ob (f vars H) fun b H=>some (not b,H)
theorem RB_not {x:Expr} {p:Pos} {f:CB} (hx:RB G call sc n x f):RB G call sc (n + 1) (.UnaryOp .Not x p) (tNot f):=by
 intro vars H q h
 refine zai h fun a H1 e1 h=>?_
 show tsNot (tst G call n sc vars) x H=_
 simp -iota only [tsNot,hx _ _ _ e1]
 exact h
noncomputable def tVal (f:CE):CB:=fun vars H=>ob (f vars H) fun a H=>o1 (truth a H) fun q=>some (q,H)
noncomputable def isVal:Expr→Bool
 | .UnaryOp .Not _ _ | .BoolOp .. | .IfExp .. | .Compare ..=>false
 | _=>true
theorem RB_val {x:Expr} {f:CE} (hv:isVal x=true) (hx:RE G call sc n x f):RB G call sc (n + 1) x (tVal f):=by
 intro vars H q h
 refine zai h fun a H1 e1 h=>?_
 refine za7 h fun t e3 h=>?_
 have:tst G call (n + 1) sc vars x H=tsVal (ev G call n sc vars) x H:=by
  cases x with
  | UnaryOp op _ _=>cases op<;>first | rfl | exact ftf hv
  | BoolOp _ _ _=>exact ftf hv
  | IfExp _ _ _ _=>exact ftf hv
  | Compare _ _ _ _=>exact ftf hv
  | _=>rfl
 rw [this]
 simp only [tsVal,hx _ _ _ e1]
 simp [e3];exact Option.some.inj h
noncomputable def RBs (G:Str→Option AV) (call:CallT) (sc:Scope) (n:Nat) (op:BoolOp) (l:List Expr) (f:CB):Prop:=∀ vars H r,f vars H=some r→tstAll (tst G call n sc vars) op l H=some r
noncomputable def tTrue:CB:=fun _ H=>some (true,H)
noncomputable def tFalse:CB:=fun _ H=>some (false,H)
noncomputable def tAnd (f g:CB):CB:=fun vars H=>ob (f vars H) fun b H=>bi b (g vars H) (some (false,H))
noncomputable def tOr (f g:CB):CB:=fun vars H=>ob (f vars H) fun b H=>bi b (some (true,H)) (g vars H)
theorem RBs_and0:RBs G call sc n .And [] tTrue:=fun _ _ _ h=>h
theorem RBs_or0:RBs G call sc n .Or [] tFalse:=fun _ _ _ h=>h
theorem RBs_and {e:Expr} {es:List Expr} {f g:CB} (he:RB G call sc n e f) (hes:RBs G call sc n .And es g):RBs G call sc n .And (e::es) (tAnd f g):=by
 intro vars H q h
 refine zai h fun b H1 e1 h=>?_
 cases b with
 | true=>exact bj (he _ _ _ e1) (hes _ _ _ h)
 | false=>exact bj (he _ _ _ e1) h
theorem RBs_or {e:Expr} {es:List Expr} {f g:CB} (he:RB G call sc n e f) (hes:RBs G call sc n .Or es g):RBs G call sc n .Or (e::es) (tOr f g):=by
 intro vars H q h
 refine zai h fun b H1 e1 h=>?_
 cases b with
 | true=>exact bj (he _ _ _ e1) h
 | false=>exact bj (he _ _ _ e1) (hes _ _ _ h)
theorem RB_bool {op:BoolOp} {es:List Expr} {p:Pos} {f:CB} (h:RBs G call sc n op es f):RB G call sc (n + 1) (.BoolOp op es p) f:=fun vars H r e=>by
 exact h _ _ _ e
noncomputable def RVs (G:Str→Option AV) (call:CallT) (sc:Scope) (n:Nat) (op:BoolOp) (l:List Expr) (f:CE):Prop:=∀ vars H r,f vars H=some r→evBool (ev G call n sc vars) op l H=some r
theorem RVs_one {op:BoolOp} {e:Expr} {f:CE} (he:RE G call sc n e f):RVs G call sc n op [e] f:=fun vars H r h=>he _ _ _ h
noncomputable def cAnd (f g:CE):CE:=fun vars H=>ob (f vars H) fun v H=>o1 (truth v H) fun b=>bi b (g vars H) (some (v,H))
noncomputable def cOr (f g:CE):CE:=fun vars H=>ob (f vars H) fun v H=>o1 (truth v H) fun b=>bi b (some (v,H)) (g vars H)
theorem RVs_and {e e2:Expr} {es:List Expr} {f g:CE} (he:RE G call sc n e f) (hes:RVs G call sc n .And (e2::es) g):RVs G call sc n .And (e::e2::es) (cAnd f g):=by
 intro vars H q h
 refine zai h fun v H1 e1 h=>?_
 refine za7 h fun b e3 h=>?_
 rw [evBool]
 ·simp only [he _ _ _ e1,Option.bind_eq_bind,Option.bind_some,e3]
  cases b with
  | true=>exact hes _ _ _ h
  | false=>exact h
 ·simp
theorem RVs_or {e e2:Expr} {es:List Expr} {f g:CE} (he:RE G call sc n e f) (hes:RVs G call sc n .Or (e2::es) g):RVs G call sc n .Or (e::e2::es) (cOr f g):=by
 intro vars H q h
 refine zai h fun v H1 e1 h=>?_
 refine za7 h fun b e3 h=>?_
 rw [evBool]
 ·simp only [he _ _ _ e1,Option.bind_eq_bind,Option.bind_some,e3]
  cases b with
  | true=>exact h
  | false=>exact hes _ _ _ h
 ·simp
theorem RE_boolop {op:BoolOp} {es:List Expr} {p:Pos} {f:CE} (h:RVs G call sc n op es f):RE G call sc (n + 1) (.BoolOp op es p) f:=fun vars H r e=>by
 exact h _ _ _ e
end
end
noncomputable section
noncomputable def aEq (a b:AV):Bool:=AV.rec (motive:=fun _=>Bool) (fun _=>decide (a=b)) (fun x=>AV.rec (motive:=fun _=>Bool) (fun _=>false) (fun y=>iEq x y) (fun _=>false) (fun _=>false) (fun _=>false) b) (fun _=>decide (a=b)) (fun x=>AV.rec (motive:=fun _=>Bool) (fun _=>false) (fun _=>false) (fun _=>false) (fun y=>Nat.beq x y) (fun _=>false) b) (fun _=>decide (a=b)) a
theorem aEq_eq {a b:AV} (h:aEq a b=true):a=b:=by
 cases a with
 | int x =>
  cases b with
  | int y =>
   have:iEq x y=true:=h
   rw [iEq_eq,decide_eq_true_eq] at this
   rw [this]
  | _=>(first | exact nsf h | exact ftf h)
 | obj x =>
  cases b with
  | obj y =>
   have:Nat.beq x y=true:=h
   rw [Nat.eq_of_beq_eq_true this]
  | _=>(first | exact nsf h | exact ftf h)
 | lit _=>exact of_decide_eq_true h
 | str _=>exact of_decide_eq_true h
 | rng _=>exact of_decide_eq_true h
noncomputable def lEq (l:List AV):List AV→Bool:=List.rec (motive:=fun _=>List AV→Bool) (fun m=>List.rec (motive:=fun _=>Bool) true (fun _ _ _=>false) m) (fun x _ ih m=>List.rec (motive:=fun _=>Bool) false (fun y ys _=>bi (aEq x y) (ih ys) false) m) l
theorem lEq_eq:∀ {l m:List AV},lEq l m=true→l=m
 | [],[],_=>rfl
 | [],_::_,h=>by exact ftf h
 | _::_,[],h=>by exact ftf h
 | x::l,y::m,h=>by
  have h':bi (aEq x y) (lEq l m) false=true:=h
  rw [zay] at h'
  split at h'
  ·rename_i q;rw [aEq_eq q,lEq_eq h']
  ·exact ftf h'
section
variable {G:Str→Option AV} {call:CallT} {sc:Scope} {n:Nat}
noncomputable def RP (G:Str→Option AV) (call:CallT) (sc:Scope) (n:Nat) (x:Option Expr) (f:Vars→List AO→Option (Option Int×List AO)):Prop:=∀ vars H r,f vars H=some r→evPart (ev G call n sc vars) x H=some r
noncomputable def pNone:Vars→List AO→Option (Option Int×List AO):=fun _ H=>some (none,H)
noncomputable def pSome (f:CE):Vars→List AO→Option (Option Int×List AO):=fun vars H=>ob (f vars H) fun v H=>match v with
 | .int i=>some (some i,H)
 | .lit .none=>some (none,H)
 | _=>none
theorem RP_none:RP G call sc n none pNone:=fun _ _ _ h=>h
theorem zcp {e:Expr} {f:CE} (he:RE G call sc n e f):RP G call sc n (some e) (pSome f):=by
 intro vars H q h
 refine zai h fun v H1 e1 h=>?_
 simp only [evPart,he _ _ _ e1,Option.bind_eq_bind,Option.bind_some]
 exact h
noncomputable def cSlice (fv:CE) (fl fu ft:Vars→List AO→Option (Option Int×List AO)):CE:=fun vars H=>ob (fv vars H) fun o H=>ob (fl vars H) fun l H=>ob (fu vars H) fun u H=>ob (ft vars H) fun t H=>match o with
 | .obj k=>o1 (lof H k) fun xs=>if t=some 0 then none else newLF H (sliceA xs l u t)
 | .str x=>if t=none∧x.length≤1048576 then some (.str (zdh x l u),H) else none
 | _=>none
theorem RE_slice {v:Expr} {lo up st:Option Expr} {p p2:Pos} {fv:CE} {fl fu ft:Vars→List AO→Option (Option Int×List AO)} (hv:RE G call sc n v fv) (hl:RP G call sc n lo fl) (hu:RP G call sc n up fu) (ht:RP G call sc n st ft) :
  RE G call sc (n + 1) (.Subscript v (.Slice lo up st p2) p) (cSlice fv fl fu ft):=by
 intro vars H q h
 refine zai h fun o H1 e1 h=>?_
 refine zai h fun l H2 e2 h=>?_
 refine zai h fun u H3 e3 h=>?_
 refine zai h fun t H4 e4 h=>?_
 show evSlice (ev G call n sc vars) v lo up st H=_
 simp only [evSlice,hv _ _ _ e1,hl _ _ _ e2,hu _ _ _ e3,ht _ _ _ e4,Option.bind_eq_bind,Option.bind_some]
 cases o with
 | obj k =>
  refine za7 (f:=fun xs=>if t=some 0 then none else newLF H4 (sliceA xs l u t)) h fun xs e5 h=>?_
  rw [zdq] at e5
  rw [newLF_eq] at h
  show (zah H4 (.obj k)).bind _=_
  rw [e5];exact h
 | str x=>exact h
 | _=>exact nsf h
noncomputable def itemF (o i:AV) (H:List AO):Option AV:=AV.rec (motive:=fun _=>Option AV) (fun _=>none) (fun _=>none) (fun _=>itemAt o i H)
 (fun k=>onInt i fun j=>o1 (lof H k) fun xs=>Int.rec (motive:=fun _=>Option AV) (fun n=>nth xs n) (fun _=>itemAt o i H) j) (fun _=>none) o
theorem itemF_ok {o i:AV} {H:List AO} {x:AV} (h:itemF o i H=some x):itemAt o i H=some x:=by
 cases o with
 | lit _=>exact nsf h
 | int _=>exact nsf h
 | str _=>exact h
 | rng _=>exact nsf h
 | obj k =>
  cases i with
  | int j =>
   have h2:(o1 (lof H k) fun xs=>Int.rec (motive:=fun _=>Option AV) (fun n=>nth xs n) (fun _=>itemAt (.obj k) (.int j) H) j)=some x:=h
   refine za7 h2 fun xs e1 h3=>?_
   cases j with
   | negSucc m=>exact h3
   | ofNat m =>
    have h':nth xs m=some x:=h3
    rw [zaw] at h'
    rw [zdq] at e1
    have hm:=(List.getElem?_eq_some_iff.mp h').1
    simp only [itemAt,e1,Option.bind_eq_bind,Option.bind_some]
    have:seqIndex? (Int.ofNat m) xs.length=some m:=by
     unfold seqIndex?
     simp
     omega
    rw [this];exact h'
  | _=>exact nsf h
noncomputable def zcj (fv fi:CE):CE:=fun vars H=>ob (fv vars H) fun o H=>ob (fi vars H) fun i H=>o1 (itemF o i H) fun x=>some (x,H)
theorem zdx {v sl:Expr} {p:Pos} {fv fi:CE} (hs:notSlice sl=true) (hv:RE G call sc n v fv) (hi:RE G call sc n sl fi):RE G call sc (n + 1) (.Subscript v sl p) (zcj fv fi):=by
 intro vars H q h
 refine zai h fun o H1 e1 h=>?_
 refine zai h fun i H2 e2 h=>?_
 refine za7 h fun x e3 h=>?_
 have:ev G call (n + 1) sc vars (.Subscript v sl p) H=evItem (ev G call n sc vars) v sl H:=by cases sl<;>first | rfl | exact ftf hs
 rw [this]
 simp only [evItem,hv _ _ _ e1,hi _ _ _ e2,itemF_ok e3,Option.bind_eq_bind,Option.bind_some]
 exact h
noncomputable def apd (ov:AV) (x:AV) (H:List AO):Option (AV×List AO):=onObj ov fun k=>o1 (lof H k) fun xs=>bi (Nat.ble (Nat.succ (lenF xs)) 1048576) (some (.lit .none,setF H (.list (appF xs [x])) k)) none
noncomputable def methodF (name:Str) (ov:AV) (vs:List AV) (H:List AO):Option (AV×List AO):=bi (decide (name="append")) (match vs with
 | [x]=>apd ov x H
 | _=>none) (method name ov vs H)
set_option tactic.hygienic true in
theorem methodF_ok {name:Str} {ov:AV} {vs:List AV} {H:List AO} {r:AV×List AO} (h:methodF name ov vs H=some r):method name ov vs H=some r:=by
 unfold methodF at h
 rw [zay] at h
 split at h
 ·rename_i q
  have q':name="append":=of_decide_eq_true q
  split at h
  ·rename_i x
   refine zde h ?_;rintro k rfl h2
   clear h
   refine za7 h2 fun xs e1 h3=>?_
   clear h2
   rw [zdq] at e1
   rw [zay,zau,setF_eq,zc3] at h3
   unfold method
   rw [if_pos q']
   show ((zah H (.obj k)).map fun xs=>(k,xs)).bind (fun p=>if p.2.length < 1048576 then some (AV.lit .none,H.set p.1 (.list (p.2++[x]))) else none)=some r
   rw [e1]
   show (if xs.length < 1048576 then some (AV.lit .none,H.set k (.list (xs++[x]))) else none)=some r
   refine ifsk h3 fun q2 h3=>?_
   have q3:xs.length < 1048576:=Nat.ble_eq.mp q2
   rw [if_pos q3];exact h3
  ·exact nsf h
 ·exact h
noncomputable def cMeth (fo:CE) (name:Str) (g:Vars→List AO→Option (List AV×List AO)):CE:=fun vars H=>ob (fo vars H) fun ov H=>bi (selfOk ov H) (ob (g vars H) fun vs H=>methodF name ov vs H) none
theorem RE_meth {o:Expr} {name:Str} {apos p:Pos} {args:List Expr} {fo:CE} {g:Vars→List AO→Option (List AV×List AO)} (hc:(decide (args.length < 20) && apos.endLine == p.line && notCall o)=true) (ho:RE G call sc n o fo) (hg:REs G call sc n args g) :
  RE G call sc (n + 1) (.Call (.Attribute o name apos) args [] p) (cMeth fo name g):=by
 intro vars H q h
 refine zai h fun ov H1 e1 h=>?_
 rw [zay] at h
 refine ifsk h fun hs h=>?_
 refine zai h fun vs H2 e2 h=>?_
 show evMeth (ev G call n sc vars) o name apos args p H=_
 unfold evMeth
 rw [if_pos hc]
 simp only [ho _ _ _ e1,Option.bind_eq_bind,Option.bind_some]
 rw [if_pos hs]
 simp only [hg _ _ _ e2,Option.bind_some]
 exact methodF_ok h
noncomputable def RKs (G:Str→Option AV) (call:CallT) (sc:Scope) (n:Nat) (l:List Keyword) (f:Vars→List AO→Option (List (Str×AV)×List AO)):Prop:=∀ vars H r,f vars H=some r→evKw (ev G call n sc vars) l H=some r
noncomputable def kNil:Vars→List AO→Option (List (Str×AV)×List AO):=fun _ H=>some ([],H)
noncomputable def kCons (x:Str) (f:CE) (g:Vars→List AO→Option (List (Str×AV)×List AO)):Vars→List AO→Option (List (Str×AV)×List AO):=fun vars H=>ob (f vars H) fun v H=>ob (g vars H) fun vs H=>some ((x,v)::vs,H)
theorem zcq:RKs G call sc n [] kNil:=fun _ _ _ h=>h
theorem RKs_cons {x:Str} {e:Expr} {p:Pos} {ks:List Keyword} {f:CE} {g:Vars→List AO→Option (List (Str×AV)×List AO)} (he:RE G call sc n e f) (hes:RKs G call sc n ks g):RKs G call sc n (⟨some x,e,p⟩::ks) (kCons x f g):=by
 intro vars H q h
 refine zai h fun v H1 e1 h=>?_
 refine zai h fun vs H2 e2 h=>?_
 exact bj (he _ _ _ e1) (bj (hes _ _ _ e2) h)
noncomputable def zbo (call disp:CallT):Prop:=∀ v args kws H r,disp v args kws H=some r→call v args kws H=some r
noncomputable def zc1 (disp:CallT) (fg:CE) (g:Vars→List AO→Option (List AV×List AO)) (k:Vars→List AO→Option (List (Str×AV)×List AO)):CE:=fun vars H=>ob (fg vars H) fun v H=>ob (g vars H) fun vs H=>ob (k vars H) fun ks H=>disp v vs ks H
theorem zcr {disp:CallT} {x:Str} {p1 p:Pos} {args:List Expr} {kws:List Keyword} {fg:CE} {g:Vars→List AO→Option (List AV×List AO)} {k:Vars→List AO→Option (List (Str×AV)×List AO)} (D:zbo call disp)
  (hf:RE G call sc n (.Name x p1) fg) (hg:REs G call sc n args g) (hk:RKs G call sc n kws k):RE G call sc (n + 1) (.Call (.Name x p1) args kws p) (zc1 disp fg g k):=by
 intro vars H q h
 refine zai h fun v H1 e1 h=>?_
 refine zai h fun vs H2 e2 h=>?_
 refine zai h fun ks H3 e3 h=>?_
 show evCallN call (ev G call n sc vars) x p1 args kws H=_
 simp only [evCallN,hf _ _ _ e1,hg _ _ _ e2,hk _ _ _ e3,Option.bind_eq_bind,Option.bind_some]
 exact D _ _ _ _ _ h
noncomputable def itemsF (H:List AO) (it:AV):Option (Bool×List AV):=onObj it fun k=>o1 (nth H k) fun o=>AO.rec (motive:=fun _=>Option (Bool×List AV)) (fun xs=>some (true,xs)) (fun _ _ _=>zdo H it) (fun _=>none) (fun _ _=>none) (fun _=>none) none o
theorem itemsF_ok {H:List AO} {it:AV} {r:Bool×List AV} (h:itemsF H it=some r):zdo H it=some r:=by
 refine zde h ?_;rintro k rfl h1
 clear h
 refine za7 h1 fun o e1 h=>?_
 clear h1
 rw [zaw] at e1
 cases o with
 | list xs=>simp only [zdo,zaw,e1];exact h
 | range _ _ _=>exact h
 | opq _=>exact nsf h
 | arg _ _=>exact nsf h
 | tab _=>exact nsf h
 | code=>exact nsf h
noncomputable def stillF (isL:Bool) (H:List AO) (it:AV) (all:List AV):Bool:=bi isL (AV.rec (motive:=fun _=>Bool) (fun _=>false) (fun _=>false) (fun _=>false) (fun k=>Option.rec (motive:=fun _=>Bool) false (fun xs=>lEq xs all) (lof H k)) (fun _=>false) it) true
theorem stillF_ok {isL:Bool} {H:List AO} {it:AV} {all:List AV} (h:stillF isL H it all=true):still isL H it all=true:=by
 unfold stillF at h
 rw [zay] at h
 cases isL with
 | false=>rfl
 | true =>
  rw [if_pos rfl] at h
  cases it with
  | obj k =>
   have h':Option.rec (motive:=fun _=>Bool) false (fun xs=>lEq xs all) (lof H k)=true:=h
   rw [zdq] at h'
   cases q:zah H (.obj k) with
   | none=>rw [q] at h';exact ftf h'
   | some xs =>
    rw [q] at h'
    have:=lEq_eq (l:=xs) h'
    simp -iota [still,q,this]
  | _=>(first | exact nsf h | exact ftf h)
noncomputable def cGo (f:AV→List AO→Option (Option AV×List AO)) (it:AV) (isL:Bool) (all:List AV) (k:Nat) (l:List AV):List AO→Option (List AO) :=
 List.rec (motive:=fun _=>List AO→Option (List AO)) (fun H=>bi (stillF isL H it all) (some H) none)
  (fun x _ ih H=>bi (stillF isL H it all) (ob (f x H) fun y H=>Option.rec (motive:=fun _=>Option (List AO)) (ih H) (fun v=>o1 (lof H k) fun acc=>bi (Nat.ble (Nat.succ (lenF acc)) 1048576) (ih (setF H (.list (appF acc [v])) k)) none) y) none) l
theorem cGo_ok {f g:AV→List AO→Option (Option AV×List AO)} {it:AV} {isL:Bool} {all:List AV} {k:Nat} (hf:∀ a H r,f a H=some r→g a H=some r):∀ {l:List AV} {H H':List AO},cGo f it isL all k l H=some H'→compGo g it isL all k l H=some H'
 | [],H,H',h=>by
  have h':bi (stillF isL H it all) (some H) none=some H':=h
  rw [zay] at h'
  split at h'
  ·rename_i q
   exact (if_pos (stillF_ok q)).trans h'
  ·exact nsf h'
 | x::l,H,H',h=>by
  have h':bi (stillF isL H it all) (ob (f x H) fun y H=>Option.rec (motive:=fun _=>Option (List AO)) (cGo f it isL all k l H) (fun v=>o1 (lof H k) fun acc=>bi (Nat.ble (Nat.succ (lenF acc)) 1048576) (cGo f it isL all k l (setF H (.list (appF acc [v])) k)) none) y) none=some H':=h
  clear h
  rw [zay] at h'
  split at h'
  ·rename_i q
   refine (if_pos (stillF_ok q)).trans ?_
   refine zai h' fun y H1 e1 h=>?_
   clear h'
   simp only [hf _ _ _ e1,Option.bind_eq_bind,Option.bind_some]
   cases y with
   | none=>exact cGo_ok hf h
   | some v =>
    refine za7 (f:=fun acc=>bi (Nat.ble (Nat.succ (lenF acc)) 1048576) (cGo f it isL all k l (setF H1 (.list (appF acc [v])) k)) none) h fun acc e2 h3=>?_
    clear h
    rw [zdq] at e2
    rw [zay,zau,setF_eq,zc3] at h3
    simp only [e2,Option.bind_some]
    refine ifsk h3 fun q2 h3=>?_
    have q3:acc.length < 1048576:=Nat.ble_eq.mp q2
    rw [if_pos q3];exact cGo_ok hf h3
  ·exact nsf h'
noncomputable def cComp (k:Nat) (fit:CE) (fi:CB) (fe:CE):CE:=fun vars H=>ob (fit vars H) fun it H=>ob (itemsF H it) fun isL xs=>o1 (cGo (fun a H=>ob (fi ((k,a)::vars) H) fun ok H=>bi ok (ob (fe ((k,a)::vars) H) fun r H=>some (some r,H)) (some (none,H))) it isL xs (lenF H) xs (appF H [.list []])) fun H'=>some (.obj (lenF H),H')
theorem RE_comp {elt iter:Expr} {x:Str} {px p:Pos} {ifs:List Expr} {sc':Scope} {fit fe:CE} {fi:CB} {kx:Nat} (hk:key x=kx) (hc:(compOk sc sc' x && notSetD iter)=true) (hit:RE G call sc n iter fit) (hi:RBs G call sc' n .And ifs fi) (he:RE G call sc' n elt fe) :
  RE G call sc (n + 1) (.ListComp elt [⟨.Name x px,iter,ifs,0⟩] sc' p) (cComp kx fit fi fe):=by
 subst hk
 intro vars H q h
 refine zai h fun it H1 e1 h=>?_
 refine zai h fun isL xs e2 h=>?_
 refine za7 h fun H' e3 h=>?_
 rw [zau,zc3] at e3
 rw [zau] at h
 show evComp (ev G call n sc vars) (ev G call n sc') (tst G call n sc') sc sc' vars elt x iter ifs H=_
 unfold evComp
 rw [if_pos hc]
 simp only [hit _ _ _ e1,itemsF_ok e2,Option.bind_eq_bind,Option.bind_some]
 rw [cGo_ok (g:=compBody (ev G call n sc') (tst G call n sc') vars x ifs elt) (fun a H r h=>?_) e3]
 ·exact h
 ·refine zai h fun ok H2 g1 h4=>?_
  clear h
  simp only [compBody]
  simp only [hi _ _ _ g1,Option.bind_eq_bind,Option.bind_some]
  rw [zay] at h4
  cases ok with
  | false=>exact h4
  | true =>
   rw [if_pos rfl] at h4
   refine zai h4 fun w H3 g2 h5=>?_
   simp only [he _ _ _ g2,Option.bind_some,if_true]
   exact h5
end
end
noncomputable section
section
variable {G:Str→Option AV} {call:CallT} {sc:Scope} {n:Nat}
noncomputable def force {α γ:Type} (l:List α):(List α→γ)→γ:=List.rec (motive:=fun _=>(List α→γ)→γ) (fun k=>k []) (fun x _ ih k=>ih fun ys=>k (x::ys)) l
theorem zbl {α γ:Type}:∀ (l:List α) (k:List α→γ),force l k=k l
 | [],k=>rfl
 | x::l,k=>zbl l fun ys=>k (x::ys)
noncomputable def ox {γ:Type} (x:Option ExR) (f:AFlow→Vars→List AO→Option γ):Option γ:=Option.rec (motive:=fun _=>Option γ) none (fun p=>f p.1 p.2.1 p.2.2) x
theorem ox_some {γ:Type} {x:Option ExR} {f:AFlow→Vars→List AO→Option γ} {r:γ} (h:ox x f=some r) {Γ:Prop} (κ:∀ a v H,x=some (a,v,H)→f a v H=some r→Γ):Γ:=by
 cases x with
 | none=>exact nsf h
 | some p=>exact κ p.1 p.2.1 p.2.2 rfl h
noncomputable def retF (z:Option ExR):Option (AV×List AO):=ox z fun fl _ H=>AFlow.rec (motive:=fun _=>Option (AV×List AO)) none none (fun x=>some (x,H)) fl
theorem retF_ok {z:Option ExR} {r:AV×List AO} (h:retF z=some r):∃ v,z=some (.ret r.1,v,r.2):=by
 refine ox_some h fun fl v H e h=>?_
 cases fl with
 | ret x=>obtain rfl:=sj h;exact ⟨v,e⟩
 | _=>exact nsf h
noncomputable def stOk (sc:Scope) (x:Str):Bool:=!(x == (".0":Str)) && (sc.names.lookup x == some .local || sc.names.lookup x == some .cell)
theorem stOk_st {x:Str} (h:stOk sc x=true):Storable sc x:=by
 unfold stOk at h
 simp -iota at h
 exact ⟨fun q=>absurd q (by simpa -iota using h.1),by simpa -iota using h.2⟩
noncomputable def cAs (k:Nat) (f:CE):CS:=fun vars H=>ob (f vars H) fun v H=>force (zab k v vars) fun vars=>some (.next,vars,H)
theorem RS_as {x:Str} {p1 p:Pos} {e:Expr} {f:CE} {kx:Nat} (hk:key x=kx) (hs:stOk sc x=true) (he:RE G call sc n e f):RS G call sc (n + 1) (.Assign [.Name x p1] e p) (cAs kx f):=by
 subst hk
 intro vars H q h
 refine zai h fun v H1 e1 h=>?_
 rw [zbl,setV2_eq] at h
 show asName sc (ev G call n sc vars) x e vars H=_
 simp -iota only [asName,he _ _ _ e1,st1_of (stOk_st hs),Option.bind_eq_bind,Option.bind_some]
 exact h
noncomputable def cAs2 (k j:Nat) (f:CE):CS:=fun vars H=>ob (f vars H) fun v H=>force (zab j v (zab k v vars)) fun vars=>some (.next,vars,H)
theorem RS_as2 {x y:Str} {p1 p2 p:Pos} {e:Expr} {f:CE} {kx ky:Nat} (hk:key x=kx) (hk2:key y=ky) (hs:stOk sc x=true) (hs2:stOk sc y=true) (he:RE G call sc n e f):RS G call sc (n + 1) (.Assign [.Name x p1,.Name y p2] e p) (cAs2 kx ky f):=by
 subst hk hk2
 intro vars H q h
 refine zai h fun v H1 e1 h=>?_
 rw [zbl,setV2_eq,setV2_eq] at h
 show asTwo sc (ev G call n sc vars) x y e vars H=_
 simp -iota only [asTwo,he _ _ _ e1,st1_of (stOk_st hs),st1_of (stOk_st hs2),Option.bind_eq_bind,Option.bind_some]
 exact h
noncomputable def setN (ks:List Nat):List AV→Vars→Option Vars:=List.rec (motive:=fun _=>List AV→Vars→Option Vars) (fun l vars=>List.rec (motive:=fun _=>Option Vars) (some vars) (fun _ _ _=>none) l) (fun k _ ih l vars=>List.rec (motive:=fun _=>Option Vars) none (fun v vs _=>ih vs (zab k v vars)) l) ks
theorem setN_ok:∀ {xs:List Str} {vs:List AV} {vars r:Vars},(∀ x∈xs,Storable sc x)→setN (xs.map key) vs vars=some r→stN sc xs vs vars=some r∧xs.length=vs.length
 | [],[],vars,r,_,h=>⟨h,rfl⟩
 | [],_::_,_,_,_,h=>by exact nsf h
 | _::_,[],_,_,_,h=>by exact nsf h
 | x::xs,v::vs,vars,r,hs,h=>by
  have h':setN (xs.map key) vs (zab (key x) v vars)=some r:=h
  rw [setV2_eq] at h'
  obtain ⟨h1,h2⟩:=setN_ok (fun y hy=>hs y (List.mem_cons_of_mem _ hy)) h'
  refine ⟨?_,by simp -iota [h2]⟩
  show (do stN sc xs vs (← st1 sc x v vars))=some r
  rw [st1_of (hs x (List.mem_cons_self ..))]
  exact h1
noncomputable def cTup (ks:List Nat) (g:Vars→List AO→Option (List AV×List AO)):CS:=fun vars H=>ob (g vars H) fun xs H=>o1 (setN ks xs vars) fun v=>force v fun v=>some (.next,v,H)
noncomputable def tupOk (sc:Scope) (ts vs:List Expr) (names:List Str):Bool:=decide (namesOf ts=some names) && (swapped sc ts vs).isSome && names.all (stOk sc) && decide names.Nodup && decide (names.length≤1000)
theorem tup_ok {ts vs:List Expr} {names:List Str} (h:namesOf ts=some names) (h2:((swapped sc ts vs).isSome && names.all (stOk sc) && decide names.Nodup && decide (names.length≤1000))=true):tupOk sc ts vs names=true:=by
 unfold tupOk
 rw [decide_eq_true h,Bool.true_and];exact h2
theorem RS_tup {ts vs:List Expr} {k1 k2:Nat} {p1 p2 p:Pos} {names:List Str} {g:Vars→List AO→Option (List AV×List AO)} (hc:tupOk sc ts vs names=true) (hg:REs G call sc n vs g) :
  RS G call sc (n + 1) (.Assign [.Tuple ts k1 p1] (.Tuple vs k2 p2) p) (cTup (names.map key) g):=by
 intro vars H q h
 refine zai h fun xs H1 e1 h=>?_
 refine za7 h fun v e2 h=>?_
 rw [zbl] at h
 unfold tupOk at hc
 simp only [Bool.and_eq_true,decide_eq_true_eq] at hc
 obtain ⟨⟨⟨⟨c1,c2⟩,c3⟩,c4⟩,c5⟩:=hc
 obtain ⟨sw,hsw⟩:=Option.isSome_iff_exists.mp c2
 obtain ⟨g1,g2⟩:=setN_ok (sc:=sc) (fun x hx=>stOk_st (List.all_eq_true.mp c3 x hx)) e2
 show asTup sc (ev G call n sc vars) ts vs vars H=_
 simp only [asTup,c1,hsw,hg _ _ _ e1,Option.bind_eq_bind,Option.bind_some]
 rw [if_pos (by simp only [Bool.and_eq_true,decide_eq_true_eq];exact ⟨⟨g2,c4⟩,c5⟩)]
 simp only [g1,Option.bind_some]
 exact h
noncomputable def cUnp (ks:List Nat) (g:CE):CS:=fun vars H=>ob (g vars H) fun v H=>onObj v fun k=>o1 (lof H k) fun xs=>o1 (setN ks xs vars) fun v=>force v fun v=>some (.next,v,H)
noncomputable def unpOk (sc:Scope) (ts:List Expr) (names:List Str):Bool:=decide (namesOf ts=some names) && names.all (stOk sc) && decide names.Nodup && decide (names.length≤1000)
theorem unp_ok {ts:List Expr} {names:List Str} (h:namesOf ts=some names) (h2:(names.all (stOk sc) && decide names.Nodup && decide (names.length≤1000))=true):unpOk sc ts names=true:=by
 unfold unpOk
 rw [decide_eq_true h,Bool.true_and];exact h2
theorem RS_unp {ts:List Expr} {t0 b0 o0:Expr} {k1:Nat} {p1 p2 p:Pos} {names:List Str} {ks:List Nat} {g:CE} (hc:unpOk sc ts names=true) (hk:names.map key=ks) (hg:RE G call sc n (.IfExp t0 b0 o0 p2) g) :
  RS G call sc (n + 1) (.Assign [.Tuple ts k1 p1] (.IfExp t0 b0 o0 p2) p) (cUnp ks g):=by
 subst hk
 intro vars H q h
 refine zai h fun xv H1 e1 h=>?_
 refine zde h ?_;rintro k rfl h1
 clear h
 refine za7 h1 fun xs e2 h2=>?_
 clear h1
 refine za7 h2 fun v e3 h=>?_
 rw [zbl] at h
 rw [zdq] at e2
 unfold unpOk at hc
 simp -iota only [Bool.and_eq_true,decide_eq_true_eq] at hc
 obtain ⟨⟨⟨c1,c3⟩,c4⟩,c5⟩:=hc
 obtain ⟨g1,g2⟩:=setN_ok (sc:=sc) (fun x hx=>stOk_st (List.all_eq_true.mp c3 x hx)) e3
 show asUnp sc (ev G call n sc vars) ts (.IfExp t0 b0 o0 p2) vars H=_
 refine bj c1 (bj (hg _ _ _ e1) (bj e2 ?_))
 refine (if_pos (by simp -iota only [Bool.and_eq_true,decide_eq_true_eq];exact ⟨⟨g2,c4⟩,c5⟩)).trans (bj g1 h)
noncomputable def cSet (fo fi fe:CE):CS:=fun vars H=>ob (fe vars H) fun v H=>ob (fo vars H) fun ov H=>ob (fi vars H) fun iv H=>onObj ov fun k=>onInt iv fun j=>o1 (lof H k) fun xs=>bi (decide (0≤j) && decide (j < xs.length)) (some (.next,vars,H.set k (.list (xs.set j.toNat v)))) none
theorem RS_set {o i e:Expr} {p1 p:Pos} {fo fi fe:CE} (ho:RE G call sc n o fo) (hi:RE G call sc n i fi) (he:RE G call sc n e fe):RS G call sc (n + 1) (.Assign [.Subscript o i p1] e p) (cSet fo fi fe):=by
 intro vars H q h
 refine zai h fun v H1 e1 h=>?_
 refine zai h fun ov H2 e2 h=>?_
 refine zai h fun iv H3 e3 h=>?_
 refine zde h ?_;rintro k rfl h
 rename_i h9
 clear h9
 refine zao h ?_;rintro j rfl h
 rename_i h9
 clear h9
 refine za7 h fun xs e4 h=>?_
 rw [zdq] at e4
 show asItem (ev G call n sc vars) o i e vars H=_
 simp only [asItem,he _ _ _ e1,ho _ _ _ e2,hi _ _ _ e3,Option.bind_eq_bind,Option.bind_some,zc0,objL,e4,Option.map_some]
 rw [zay] at h
 exact h
noncomputable def cAug (g:Int→Int→Int) (k:Nat) (f:CE):CS:=fun vars H=>o1 (za2 k vars) fun a=>ob (f vars H) fun b H=>onInt a fun i=>onInt b fun j=>force (zab k (.int (g i j)) vars) fun vars=>some (.next,vars,H)
theorem RS_augAdd {x:Str} {p1 p:Pos} {e:Expr} {f:CE} {kx:Nat} (hk:key x=kx) (h1:(x == ("__debug__":Str))=false) (hs:stOk sc x=true) (he:RE G call sc (n + 1) e f):RS G call sc (n + 2) (.AugAssign (.Name x p1) .Add e p) (cAug Int.add kx f):=by
 subst hk
 intro vars H q h
 refine za7 h fun a e1 h=>?_
 refine zai h fun b H1 e2 h=>?_
 refine zao h fun i hi h2=>?_
 clear h
 refine zao h2 fun j hj h5=>?_
 clear h2
 subst hi hj
 rw [zbl,setV2_eq] at h5
 have hv:isVar (sc.names.lookup x)=true:=by
  rcases (stOk_st hs).2 with q | q<;>rw [q]<;>rfl
 have e3:ev G call (n + 1) sc vars (.Name x p1) H=some (.int i,H):=zbi rfl h1 hv vars H (.int i,H) (by show o1 (za2 (key x) vars) _=_;rw [e1];rfl)
 show asAug sc (ev G call (n + 1) sc vars) x p1 .Add e vars H=_
 simp only [asAug,e3,he _ _ _ e2,st1_of (stOk_st hs),Option.bind_eq_bind,Option.bind_some]
 exact h5
theorem RS_augSub {x:Str} {p1 p:Pos} {e:Expr} {f:CE} {kx:Nat} (hk:key x=kx) (h1:(x == ("__debug__":Str))=false) (hs:stOk sc x=true) (he:RE G call sc (n + 1) e f):RS G call sc (n + 2) (.AugAssign (.Name x p1) .Sub e p) (cAug Int.sub kx f):=by
 subst hk
 intro vars H q h
 refine za7 h fun a e1 h=>?_
 refine zai h fun b H1 e2 h=>?_
 refine zao h fun i hi h2=>?_
 clear h
 refine zao h2 fun j hj h5=>?_
 clear h2
 subst hi hj
 rw [zbl,setV2_eq] at h5
 have hv:isVar (sc.names.lookup x)=true:=by
  rcases (stOk_st hs).2 with q | q<;>rw [q]<;>rfl
 have e3:ev G call (n + 1) sc vars (.Name x p1) H=some (.int i,H):=zbi rfl h1 hv vars H (.int i,H) (by show o1 (za2 (key x) vars) _=_;rw [e1];rfl)
 show asAug sc (ev G call (n + 1) sc vars) x p1 .Sub e vars H=_
 simp only [asAug,e3,he _ _ _ e2,st1_of (stOk_st hs),Option.bind_eq_bind,Option.bind_some]
 exact h5
noncomputable def forceA {γ:Type} (l:List AV):(List AV→γ)→γ:=List.rec (motive:=fun _=>(List AV→γ)→γ) (fun k=>k []) (fun x _ ih k=>AV.rec (motive:=fun _=>γ) (fun v=>ih fun ys=>k (.lit v::ys))
 (fun i=>Int.rec (motive:=fun _=>γ) (fun n=>ih fun ys=>k (.int (Int.ofNat n)::ys)) (fun n=>ih fun ys=>k (.int (Int.negSucc n)::ys)) i) (fun s=>ih fun ys=>k (.str s::ys)) (fun o=>ih fun ys=>k (.obj o::ys)) (fun n=>ih fun ys=>k (.rng n::ys)) x) l
theorem forceA_eq {γ:Type}:∀ (l:List AV) (k:List AV→γ),forceA l k=k l
 | [],k=>rfl
 | x::l,k=>by
  cases x with
  | int i=>cases i<;>exact forceA_eq l _
  | _=>exact forceA_eq l _
noncomputable def forceH {γ:Type} (H:List AO):(List AO→γ)→γ:=List.rec (motive:=fun _=>(List AO→γ)→γ) (fun k=>k []) (fun o _ ih k=>AO.rec (motive:=fun _=>γ) (fun xs=>forceA xs fun ys=>ih fun os=>k (.list ys::os))
 (fun a b c=>ih fun os=>k (.range a b c::os)) (fun P=>ih fun os=>k (.opq P::os)) (fun o xs=>ih fun os=>k (.arg o xs::os)) (fun xs=>ih fun os=>k (.tab xs::os)) (ih fun os=>k (.code::os)) o) H
theorem forceH_eq {γ:Type}:∀ (H:List AO) (k:List AO→γ),forceH H k=k H
 | [],k=>rfl
 | o::H,k=>by
  cases o with
  | list xs=>exact (forceA_eq xs _).trans (forceH_eq H _)
  | _=>exact forceH_eq H _
noncomputable def cExpr (f:CE):CS:=fun vars H=>ob (f vars H) fun v H=>match v with
 | .lit .none=>forceH H fun H=>some (.next,vars,H)
 | _=>none
theorem RS_expr {g:Expr} {args:List Expr} {kws:List Keyword} {p1 p:Pos} {f:CE} (he:RE G call sc n (.Call g args kws p1) f):RS G call sc (n + 1) (.Expr (.Call g args kws p1) p) (cExpr f):=by
 intro vars H q h
 refine zai h fun v H1 e1 h=>?_
 show exExpr (ev G call n sc vars) (.Call g args kws p1) vars H=_
 simp -iota only [exExpr,he _ _ _ e1,Option.bind_eq_bind,Option.bind_some]
 simp -iota only [forceH_eq] at h
 exact h
noncomputable def cRet (f:CE):CS:=fun vars H=>ob (f vars H) fun v H=>some (.ret v,vars,H)
theorem RS_ret {e:Expr} {p:Pos} {f:CE} (he:RE G call sc n e f):RS G call sc (n + 1) (.Return (some e) p) (cRet f):=by
 intro vars H q h
 refine zai h fun v H1 e1 h=>?_
 show exRet (ev G call n sc vars) e vars H=_
 simp -iota only [exRet,he _ _ _ e1,Option.bind_eq_bind,Option.bind_some]
 exact h
noncomputable def cBrk:CS:=fun vars H=>some (.brk,vars,H)
theorem RS_brk {p:Pos}:RS G call sc (n + 1) (.Break p) cBrk:=fun _ _ _ h=>h
noncomputable def cSkip:CS:=fun vars H=>some (.next,vars,H)
noncomputable def zcx (f g:CS):CS:=fun vars H=>ox (f vars H) fun r vars H=>force H fun H=>AFlow.rec (motive:=fun _=>Option ExR) (g vars H) (some (.brk,vars,H)) (fun v=>some (.ret v,vars,H)) r
theorem RSs_nil:RSs G call sc n [] cSkip:=fun _ _ _ h=>h
theorem zce {st:Stmt} {l:List Stmt} {f g:CS} (hf:RS G call sc n st f) (hg:RSs G call sc n l g):RSs G call sc n (st::l) (zcx f g):=by
 intro vars H q h
 refine ox_some h fun r v H1 e1 h=>?_
 rw [zbl] at h
 cases r with
 | next=>exact bj (hf _ _ _ e1) (hg _ _ _ h)
 | brk=>exact bj (hf _ _ _ e1) h
 | ret w=>exact bj (hf _ _ _ e1) h
theorem zco {st:Stmt} {f:CS} (hf:RS G call sc n st f):RSs G call sc n [st] f:=by
 intro vars H q h
 obtain ⟨r,v,H1⟩:=q
 exact bj (hf _ _ _ h) (by cases r<;>rfl)
theorem RS_if {t:Expr} {b o:List Stmt} {p:Pos} {ft:CB} {fb fo:CS} (ht:RB G call sc n t ft) (hb:RSs G call sc n b fb) (ho:RSs G call sc n o fo):RS G call sc (n + 1) (.If t b o p) (cIf ft fb fo):=by
 intro vars H q h
 refine zai h fun a H1 e1 h=>?_
 show exIf (tst G call n sc vars) (exS G call n sc) t b o vars H=_
 cases a with
 | true=>exact bj (ht _ _ _ e1) (hb _ _ _ h)
 | false=>exact bj (ht _ _ _ e1) (ho _ _ _ h)
noncomputable def cWh (t:CB) (b:CS) (fuel:Nat):CS:=Nat.rec (motive:=fun _=>CS) (fun _ _=>none) (fun _ ih vars H=>ob (t vars H) fun q H=>bi q (ox (b vars H) fun r vars H=>AFlow.rec (motive:=fun _=>Option ExR) (ih vars H) (some (.next,vars,H)) (fun v=>some (.ret v,vars,H)) r) (some (.next,vars,H))) fuel
theorem cWh_ok {t:Vars→List AO→Option (Bool×List AO)} {b:Vars→List AO→Option ExR} {ft:CB} {fb:CS} (ht:∀ v H r,ft v H=some r→t v H=some r) (hb:∀ v H r,fb v H=some r→b v H=some r):∀ {k:Nat} {vars:Vars} {H:List AO} {r:ExR},cWh ft fb k vars H=some r→whileGo t b k vars H=some r
 | 0,_,_,_,h=>by exact nsf h
 | k + 1,vars,H,q,h=>by
  have h':(ob (ft vars H) fun q H=>bi q (ox (fb vars H) fun r vars H=>AFlow.rec (motive:=fun _=>Option ExR) (cWh ft fb k vars H) (some (.next,vars,H)) (fun v=>some (.ret v,vars,H)) r) (some (.next,vars,H)))=some q:=h
  clear h
  refine zai h' fun z H1 e1 h2=>?_
  clear h'
  refine bj (ht _ _ _ e1) ?_
  cases z with
  | false=>exact h2
  | true =>
   rw [zay,if_pos rfl] at h2
   refine ox_some h2 fun r v H2 e2 h3=>?_
   refine (if_pos rfl).trans (bj (hb _ _ _ e2) ?_)
   cases r with
   | next=>exact cWh_ok ht hb h3
   | brk=>exact h3
   | ret w=>exact h3
theorem RS_while {t:Expr} {b:List Stmt} {p:Pos} {ft:CB} {fb:CS} (ht:RB G call sc n t ft) (hb:RSs G call sc n b fb):RS G call sc (n + 1) (.While t b [] p) (cWh ft fb zar):=by
 intro vars H q h
 show whileGo (fun vars=>tst G call n sc vars t) (fun vars=>exLGo (exS G call n sc) b vars) zar vars H=_
 exact cWh_ok (fun v H r h=>ht v H r h) (fun v H r h=>hb v H r h) h
noncomputable def cFr (k:Nat) (b:CS) (it:AV) (isL:Bool) (all l:List AV):CS :=
 List.rec (motive:=fun _=>CS) (fun vars H=>bi (stillF isL H it all) (some (.next,vars,H)) none)
  (fun y _ ih vars H=>bi (stillF isL H it all) (ox (force (zab k y vars) fun vars=>b vars H) fun r vars H=>AFlow.rec (motive:=fun _=>Option ExR) (ih vars H) (some (.next,vars,H)) (fun v=>some (.ret v,vars,H)) r) none) l
theorem cFr_ok {x:Str} {b:Vars→List AO→Option ExR} {fb:CS} {it:AV} {isL:Bool} {all:List AV} (hs:Storable sc x) (hb:∀ v H r,fb v H=some r→b v H=some r):∀ {l:List AV} {vars:Vars} {H:List AO} {r:ExR},cFr (key x) fb it isL all l vars H=some r→forGo sc x b it isL all l vars H=some r
 | [],vars,H,q,h=>by
  have h':bi (stillF isL H it all) (some (AFlow.next,vars,H)) none=some q:=h
  rw [zay] at h'
  split at h'
  ·rename_i z
   exact (if_pos (stillF_ok z)).trans h'
  ·exact nsf h'
 | y::l,vars,H,q,h=>by
  have h':bi (stillF isL H it all) (ox (force (zab (key x) y vars) fun vars=>fb vars H) fun r vars H=>AFlow.rec (motive:=fun _=>Option ExR) (cFr (key x) fb it isL all l vars H) (some (.next,vars,H)) (fun v=>some (.ret v,vars,H)) r) none=some q:=h
  clear h
  rw [zay] at h'
  split at h'
  ·rename_i z
   refine ox_some h' fun r v H2 e2 h3=>?_
   rw [zbl,setV2_eq] at e2
   refine (if_pos (stillF_ok z)).trans (bj (st1_of hs _ _) (bj (hb _ _ _ e2) ?_))
   cases r with
   | next=>exact cFr_ok hs hb h3
   | brk=>exact h3
   | ret w=>exact h3
  ·exact nsf h'
noncomputable def cFor (k:Nat) (fit:CE) (b:CS):CS:=fun vars H=>ob (fit vars H) fun it H=>ob (itemsF H it) fun isL xs=>cFr k b it isL xs xs vars H
theorem RS_for {x:Str} {px p:Pos} {iter:Expr} {b:List Stmt} {fit:CE} {fb:CS} {kx:Nat} (hk:key x=kx) (hs:stOk sc x=true) (hset:notSetD iter=true) (hit:RE G call sc n iter fit) (hb:RSs G call sc n b fb):RS G call sc (n + 1) (.For (.Name x px) iter b [] p) (cFor kx fit fb):=by
 subst hk
 intro vars H q h
 refine zai h fun it H1 e1 h=>?_
 refine zai h fun isL xs e2 h=>?_
 show exFor sc (ev G call n sc vars) (exS G call n sc) x iter b vars H=_
 simp only [exFor,hit _ _ _ e1,itemsF_ok e2,Option.bind_eq_bind,Option.bind_some]
 rw [if_pos hset]
 exact cFr_ok (stOk_st hs) (fun v H r h=>hb v H r h) h
end
noncomputable abbrev CF:=List AV→List (Str×AV)→List AO→Option (AV×List AO)
noncomputable def cLam (ks:List Nat) (cap:Vars) (f:CE):CF:=fun args _ H=>bi (Nat.beq args.length ks.length) (f (ks.zip args++cap) H) none
theorem cLam_ok {G:Str→Option AV} {call:CallT} {ps:List Str} {e:Expr} {sc:Scope} {cap:Vars} {f:CE} (he:RE G call sc za0 e f) {args:List AV} {kws:List (Str×AV)} {H:List AO} {r:AV×List AO} (h:cLam (ps.map key) cap f args kws H=some r):callLam G call ps e sc cap args H=some r:=by
 have h':bi (Nat.beq args.length (ps.map key).length) (f ((ps.map key).zip args++cap) H) none=some r:=h
 rw [zay] at h'
 split at h'
 ·rename_i q
  unfold callLam
  rw [if_pos (by simpa -iota using Nat.eq_of_beq_eq_true q)]
  exact he _ _ _ h'
 ·exact nsf h'
noncomputable def lookN {α:Type} (k:Nat) (l:List (Nat×α)):Option α:=List.rec (motive:=fun _=>Option α) none (fun y _ ih=>bi (Nat.beq y.1 k) (some y.2) ih) l
noncomputable def cDisp (L:List (Nat×CF)) (LL:List CF):CallT:=fun v args kws H=>AV.rec (motive:=fun _=>Option (AV×List AO))
 (fun v=>match v with
  | .ref a=>o1 (lookN a L) fun f=>f args kws H
  | .builtin b=>if kws=[] then builtins b args H else none
  | .type b=>if kws=[] then typesCall b args H else none
  | _=>none) (fun _=>none) (fun _=>none) (fun k=>o1 (nth LL k) fun f=>f args kws H) (fun _=>none) v
noncomputable def CFOk (G:Str→Option AV) (T:List (Nat×UF)) (TL:List UF) (d:Nat) (u:UF) (f:CF):Prop:=∀ args kws H r,f args kws H=some r→callT G (zbv G T TL d) d u args kws H=some r
noncomputable def TabC (G:Str→Option AV) (T:List (Nat×UF)) (TL:List UF) (d:Nat) (L:List (Nat×CF)) (LL:List CF):Prop :=
 (∀ (a:Nat) (f:CF),lookN a L=some f→∃ u,T.lookup a=some u∧CFOk G T TL d u f)∧∀ (k:Nat) (f:CF),LL[k]?=some f→∃ u,TL[k]?=some u∧CFOk G T TL d u f
theorem cDisp_ok {G:Str→Option AV} {T:List (Nat×UF)} {TL:List UF} {d:Nat} {L:List (Nat×CF)} {LL:List CF} (hL:TabC G T TL d L LL):zbo (zbv G T TL (d + 1)) (cDisp L LL):=by
 intro v args kws H r h
 cases v with
 | lit v =>
  cases v with
  | ref a =>
   refine za7 (x:=lookN a L) (f:=fun f=>f args kws H) h fun f e1 h1=>?_
   clear h
   obtain ⟨u,e2,e3⟩:=hL.1 a f e1
   show (do callT G (zbv G T TL d) d (← T.lookup a) args kws H)=some r
   rw [e2]
   exact e3 _ _ _ _ h1
  | builtin b=>exact h
  | type b=>exact h
  | _=>exact nsf h
 | int _=>exact nsf h
 | str _=>exact nsf h
 | rng _=>exact nsf h
 | obj k =>
  refine za7 (x:=nth LL k) (f:=fun f=>f args kws H) h fun f e1 h1=>?_
  clear h
  rw [zaw] at e1
  obtain ⟨u,e2,e3⟩:=hL.2 k f e1
  show (do callT G (zbv G T TL d) d (← TL[k]?) args kws H)=some r
  rw [e2]
  exact e3 _ _ _ _ h1
noncomputable def noDisp:CallT:=fun _ _ _ _=>none
theorem noDisp_ok {call:CallT}:zbo call noDisp:=fun _ _ _ _ _ h=>by exact nsf h
end
open PySem
noncomputable def cFail {α:Type}:Vars→List AO→Option α:=fun _ _=>none
theorem RS_fail {G:Str→Option AV} {call:CallT} {sc:Scope} {n:Nat} {st:Stmt}:RS G call sc n st cFail:=fun _ _ _ h=>by exact nsf h
noncomputable def hid (y:Str) (sc:Scope):Scope:={ sc with names:=sc.names.map fun p=>if p.1 == y then (p.1,.free) else p }
noncomputable section
noncomputable def qpos (pd:List (Nat×Option AV)):List AV→Option Vars :=
 List.rec (motive:=fun _=>List AV→Option Vars) (fun args=>List.rec (motive:=fun _=>Option Vars) (some []) (fun _ _ _=>none) args)
  (fun p _ ih args=>List.rec (motive:=fun _=>Option Vars) (o1 p.2 fun v=>o1 (ih []) fun r=>some ((p.1,v)::r)) (fun x xs _=>o1 (ih xs) fun r=>some ((p.1,x)::r)) args) pd
theorem qpos_ok:∀ {ks:List Nat} {ds:List (Option AV)} {args:List AV} {v:Vars},ks.length=ds.length→qpos (ks.zip ds) args=some v→args.length≤ks.length∧∃ rest,ds.drop args.length=rest.map some∧v=ks.zip (args++rest)
 | [],[],[],v,_,h=>by obtain rfl:=sj h;exact ⟨by simp -iota,[],by simp -iota,rfl⟩
 | [],[],_::_,v,_,h=>by exact nsf h
 | k::ks,d::ds,[],v,hl,h=>by
  have h':o1 d (fun v=>o1 (qpos (ks.zip ds) []) fun r=>some ((k,v)::r))=some v:=h
  refine za7 h' ?_;rintro u rfl h1
  refine za7 h1 fun r e h2=>?_
  obtain rfl:=sj h2
  obtain ⟨_,rest,g1,g2⟩:=qpos_ok (by simpa -iota using hl) e
  refine ⟨by simp -iota,u::rest,?_,?_⟩
  ·simp -iota only [List.length_nil,List.drop_zero,List.map_cons] at g1 ⊢;rw [g1]
  ·rw [g2];rfl
 | k::ks,d::ds,x::xs,v,hl,h=>by
  have h':o1 (qpos (ks.zip ds) xs) (fun r=>some ((k,x)::r))=some v:=h
  refine za7 h' fun r e h2=>?_
  obtain rfl:=sj h2
  obtain ⟨g0,rest,g1,g2⟩:=qpos_ok (by simpa -iota using hl) e
  refine ⟨by simpa -iota using g0,rest,by simpa -iota using g1,?_⟩
  rw [g2];rfl
 | [],_::_,_,_,hl,_=>by cases hl
 | _::_,[],_,_,hl,_=>by cases hl
noncomputable def pdOf (F:FnD):List (Nat×Option AV):=(F.pos.map key).zip (List.replicate (F.pos.length - F.dfl.length) none++F.dfl.map some)
theorem qpos_pdOf {F:FnD} {args:List AV} {v:Vars} (hd:F.dfl.length≤F.pos.length) (h:qpos (pdOf F) args=some v) {Γ:Prop} (κ:args.length≤F.pos.length→F.pos.length≤args.length + F.dfl.length→v=(F.pos.map key).zip (args++F.dfl.drop (args.length + F.dfl.length - F.pos.length))→Γ):Γ:=by
 obtain ⟨g0,rest,g1,g2⟩:=qpos_ok (by rw [List.length_map,List.length_append,List.length_replicate,List.length_map,Nat.sub_add_cancel hd]) h
 rw [List.length_map] at g0
 have hpl:F.pos.length≤args.length + F.dfl.length:=by
  refine Classical.byContradiction fun q=>?_
  have hlt:args.length < F.pos.length - F.dfl.length:=Nat.lt_sub_of_add_lt (Nat.lt_of_not_le q)
  have hx:(List.replicate (F.pos.length - F.dfl.length) (none:Option AV)++F.dfl.map some)[args.length]?=some none:=by
   rw [List.getElem?_append_left (by rw [List.length_replicate];exact hlt),List.getElem?_replicate,if_pos hlt]
  have:(rest.map some)[0]?=some none:=by rw [← g1,List.getElem?_drop];exact hx
  cases rest with
  | nil=>exact nsf this
  | cons=>cases this
 refine κ g0 hpl ?_
 have hsub:F.pos.length - F.dfl.length≤args.length:=Nat.sub_le_of_le_add hpl
 rw [List.drop_append,List.drop_eq_nil_of_le (by rw [List.length_replicate];exact hsub),List.nil_append,List.length_replicate,← List.map_drop] at g1
 have e:F.dfl.drop (args.length - (F.pos.length - F.dfl.length))=rest:=(List.map_inj_right (fun _ _ h=>Option.some.inj h)).mp g1
 rw [g2,← e,Nat.sub_sub_right _ hd]
noncomputable def natsEq (a b:List Nat):Bool:=List.rec (motive:=fun _=>List Nat→Bool) (fun b=>List.rec (motive:=fun _=>Bool) true (fun _ _ _=>false) b) (fun x _ ih b=>List.rec (motive:=fun _=>Bool) false (fun y ys _=>bi (Nat.beq x y) (ih ys) false) b) a b
theorem natsEq_ok:∀ {a b:List Nat},natsEq a b=true→a=b
 | [],[],_=>rfl
 | [],_::_,h=>by exact ftf h
 | _::_,[],h=>by exact ftf h
 | x::xs,y::ys,h=>by
  have h':bi (Nat.beq x y) (natsEq xs ys) false=true:=h
  rw [zay] at h'
  split at h'
  ·rename_i q;rw [Nat.eq_of_beq_eq_true q,natsEq_ok h']
  ·exact ftf h'
noncomputable def qkw (kw:Option (List Nat×Nat×AV)) (kws:List (Str×AV)):Option Vars :=
 Option.rec (motive:=fun _=>Option Vars) (List.rec (motive:=fun _=>Option Vars) (some []) (fun _ _ _=>none) kws)
  (fun p=>List.rec (motive:=fun _=>Option Vars) (some [(p.2.1,p.2.2)]) (fun y ys _=>List.rec (motive:=fun _=>Option Vars) (bi (natsEq y.1.cps.toList p.1) (some [(p.2.1,y.2)]) none) (fun _ _ _=>none) ys) kws) kw
noncomputable def kwOf (F:FnD) (kw:Option (List Nat×Nat×AV)):Prop:=F.kwo=[]∧kw=none∨∃ n d,F.kwo=[(n,d)]∧kw=some (n.cps.toList,key n,d)
theorem qkw_ok {F:FnD} {kw:Option (List Nat×Nat×AV)} (hk:kwOf F kw) {kws:List (Str×AV)} {v:Vars} (h:qkw kw kws=some v) :
  (kws.all (fun k=>F.kwo.any fun y=>y.1 == k.1)=true∧kws.length≤1)∧v=F.kwo.map (fun y=>(key y.1,(kws.lookup y.1).getD y.2)):=by
 rcases hk with ⟨h1,rfl⟩ | ⟨n,d,h1,rfl⟩
 ·cases kws with
  | nil=>obtain rfl:=sj h;rw [h1];exact ⟨⟨rfl,by simp⟩,rfl⟩
  | cons=>exact nsf h
 ·rw [h1]
  cases kws with
  | nil=>obtain rfl:=sj h;exact ⟨⟨rfl,by simp⟩,rfl⟩
  | cons y ys =>
   cases ys with
   | nil =>
    have h':bi (natsEq y.1.cps.toList n.cps.toList) (some [(key n,y.2)]) none=some v:=h
    rw [zay] at h'
    split at h'
    ·rename_i q
     obtain rfl:=sj h'
     have:=natsEq_ok q
     obtain ⟨⟨⟨c⟩⟩,u⟩:=y
     obtain ⟨⟨c'⟩⟩:=n
     dsimp only at this
     subst this
     simp [List.lookup]
    ·exact nsf h'
   | cons=>exact nsf h
noncomputable def cFunQ (pd:List (Nat×Option AV)) (kw:Option (List Nat×Nat×AV)) (body:CS):CF:=fun args kws H =>
 o1 (qpos pd args) fun v1=>o1 (qkw kw kws) fun v2=>ox (body (appF v1 v2) H) fun r _ H=>AFlow.rec (motive:=fun _=>Option (AV×List AO)) (some (.lit .none,H)) none (fun v=>some (v,H)) r
theorem cFunQ_ok {G:Str→Option AV} {call:CallT} {F:FnD} {body:CS} {pd:List (Nat×Option AV)} {kw:Option (List Nat×Nat×AV)} (hpd:pdOf F=pd) (hd:F.dfl.length≤F.pos.length) (hkw:kwOf F kw) (hb:RSs G call F.sc za0 F.body body) {args:List AV} {kws:List (Str×AV)} {H:List AO} {r:AV×List AO}
  (h:cFunQ pd kw body args kws H=some r):callF G call F args kws H=some r:=by
 refine za7 h fun v1 e1 h1=>?_
 clear h
 refine za7 h1 fun v2 e2 h2=>?_
 clear h1
 refine ox_some h2 fun fl v H1 e3 h3=>?_
 clear h2
 subst hpd
 refine qpos_pdOf hd e1 fun g1 g2 g3=>?_
 obtain ⟨k1,k2⟩:=qkw_ok hkw e2
 have hB:F.binds args kws=some (v1++v2):=by
  unfold FnD.binds
  rw [if_pos (by simp -iota only [Bool.and_eq_true,decide_eq_true_eq];exact ⟨⟨⟨g1,g2⟩,k1.1⟩,k1.2⟩),g3,k2]
 rw [zc3] at e3
 have:exL G call za0 F.sc F.body (v1++v2) H=some (fl,v,H1):=hb _ _ _ e3
 simp -iota only [callF,hB,this,Option.bind_eq_bind,Option.bind_some]
 cases fl with
 | next=>exact h3
 | brk=>exact h3
 | ret w=>exact h3
noncomputable def allF {α:Type} (p:α→Bool) (l:List α):Bool:=List.rec (motive:=fun _=>Bool) true (fun x _ ih=>bi (p x) ih false) l
theorem allF_eq {α:Type} (p:α→Bool):∀ l:List α,allF p l=l.all p
 | []=>rfl
 | x::l=>by
  show bi (p x) (allF p l) false=_
  rw [allF_eq p l,zay,List.all_cons]
  cases p x<;>rfl
noncomputable def takeF {α:Type} (l:List α):Nat→List α:=List.rec (motive:=fun _=>Nat→List α) (fun _=>[]) (fun x _ ih k=>Nat.rec (motive:=fun _=>List α) [] (fun j _=>x::ih j) k) l
theorem takeF_eq {α:Type}:∀ (l:List α) (k:Nat),takeF l k=l.take k
 | [],_=>by simp [takeF]
 | _::_,0=>rfl
 | x::l,k + 1=>congrArg (x::·) (takeF_eq l k)
noncomputable def clF (n:Nat) (a:AV):Bool:=AV.rec (motive:=fun _=>Bool) (fun _=>true) (fun _=>true) (fun _=>true) (fun k=>Nat.ble (Nat.succ k) n) (fun _=>true) a
noncomputable def clO (n:Nat) (o:AO):Bool:=AO.rec (motive:=fun _=>Bool) (fun xs=>allF (clF n) xs) (fun _ _ _=>true) (fun _=>true) (fun _ xs=>allF (clF n) xs) (fun xs=>allF (clF n) xs) true o
set_option tactic.hygienic true in
theorem clF_eq (n:Nat):∀ xs:List AV,allF (clF n) xs=zb1 n xs:=fun xs=>by
 rw [allF_eq];unfold zb1
 congr 1;funext a
 cases a<;>try rfl
 rename_i k
 show Nat.ble (k + 1) n=decide (k < n)
 rw [Bool.eq_iff_iff,Nat.ble_eq,decide_eq_true_eq];exact Iff.rfl
theorem clO_eq (n:Nat) (H:List AO):allF (clO n) H=cleanH n H:=by
 rw [allF_eq];unfold cleanH
 congr 1;funext o
 cases o<;>first | rfl | exact clF_eq n _
noncomputable def gcG (n:Nat) (H0:List AO) (r:AV) (H:List AO):AV×List AO :=
 bi (allF (clO n) H0) (AV.rec (motive:=fun _=>AV×List AO) (fun _=>(r,H0)) (fun _=>(r,H0)) (fun _=>(r,H0))
  (fun k=>bi (Nat.ble (Nat.succ k) n) (r,H0) (Option.rec (motive:=fun _=>AV×List AO) (r,H) (fun o=>AO.rec (motive:=fun _=>AV×List AO) (fun xs=>bi (allF (clF n) xs) (.obj n,appF H0 [.list xs]) (r,H)) (fun _ _ _=>(r,H)) (fun _=>(r,H)) (fun _ _=>(r,H)) (fun _=>(r,H)) (r,H) o) (nth H k))) (fun _=>(r,H0)) r) (r,H)
noncomputable def gcF (n:Nat) (r:AV) (H:List AO):AV×List AO:=gcG n (takeF H n) r H
theorem gcF_eq (n:Nat) (r:AV) (H:List AO):gcF n r H=gc n r H:=by
 unfold gcF gc gcG gcGo
 rw [takeF_eq,clO_eq,zay]
 split
 ·cases r with
  | obj k =>
   show bi (Nat.ble (k + 1) n) _ _=if decide (k < n)=true then _ else _
   have hb:Nat.ble (k + 1) n=decide (k < n):=by rw [Bool.eq_iff_iff,Nat.ble_eq,decide_eq_true_eq];exact Iff.rfl
   rw [zay,hb]
   split
   ·rfl
   ·rw [zaw]
    cases H[k]? with
    | none=>rfl
    | some o =>
     cases o with
     | list xs =>
      show bi (allF (clF n) xs) (AV.obj n,appF (H.take n) [.list xs]) _=if zb1 n xs=true then _ else _
      rw [clF_eq,zay,zc3]
     | _=>rfl
  | _=>rfl
 ·rfl
noncomputable def cGc (f:CF):CF:=fun args kws H=>ob (f args kws H) fun r H'=>some (gcF (lenF H) r H')
theorem cGc_ok {G:Str→Option AV} {T:List (Nat×UF)} {TL:List UF} {d:Nat} {F:FnD} {f:CF} (hf:∀ args kws H r,f args kws H=some r→callF G (zbv G T TL d) F args kws H=some r):CFOk G T TL d (.code F) (cGc f):=by
 intro args kws H r h
 refine zai h fun a b e h2=>?_
 clear h
 show (callF G (zbv G T TL d) F args kws H).map (fun r=>gc H.length r.1 r.2)=some r
 rw [hf _ _ _ _ e,Option.map_some,← gcF_eq,← zau]
 exact h2
noncomputable def lenQ (args:List AV) (H:List AO):Option (AV×List AO):=List.rec (motive:=fun _=>Option (AV×List AO)) none
 (fun x xs _=>List.rec (motive:=fun _=>Option (AV×List AO)) (AV.rec (motive:=fun _=>Option (AV×List AO)) (fun _=>none) (fun _=>none) (fun s=>bi (Nat.ble s.length 1048576) (some (.int (Int.ofNat s.length),H)) none) (fun k=>o1 (lof H k) fun l=>some (.int (Int.ofNat (lenF l)),H)) (fun _=>none) x) (fun _ _ _=>none) xs) args
theorem lenQ_ok {args:List AV} {H:List AO} {r:AV×List AO} (h:lenQ args H=some r):builtins "len" args H=some r:=by
 cases args with
 | nil=>exact nsf h
 | cons x xs =>
  cases xs with
  | cons=>exact nsf h
  | nil =>
   cases x with
   | lit _=>exact nsf h
   | int _=>exact nsf h
   | rng _=>exact nsf h
   | str s =>
    have h':bi (Nat.ble s.length 1048576) (some (AV.int (Int.ofNat s.length),H)) none=some r:=h
    rw [zay] at h'
    refine ifsk h' fun q h'=>?_
    unfold builtins
    rw [if_pos rfl]
    show (if s.length≤1048576 then some (AV.int s.length,H) else none)=some r
    rw [if_pos (Nat.ble_eq.mp q)]
    exact h'
   | obj k =>
    have h':(o1 (lof H k) fun l=>some (AV.int (Int.ofNat (lenF l)),H))=some r:=h
    refine za7 h' fun l e h2=>?_
    rw [zdq] at e
    obtain rfl:=sj h2
    unfold builtins
    rw [if_pos rfl]
    show (zah H (.obj k)).bind (fun xs=>some (AV.int xs.length,H))=_
    rw [e,zau];rfl
noncomputable def BltOk (call:CallT):Prop:=(∀ b args H r,builtins b args H=some r→call (.lit (.builtin b)) args [] H=some r)∧∀ b args H r,typesCall b args H=some r→call (.lit (.type b)) args [] H=some r
theorem zb0 {G:Str→Option AV} {T:List (Nat×UF)} {TL:List UF} {d:Nat}:BltOk (zbv G T TL (d + 1)):=⟨fun b args H r h=>h,fun b args H r h=>h⟩
section
variable {G:Str→Option AV} {call:CallT} {sc:Scope} {n:Nat}
theorem RKs_consN {x y:Str} {e:Expr} {p:Pos} {ks:List Keyword} {f:CE} {g:Vars→List AO→Option (List (Str×AV)×List AO)} (hx:x=y) (he:RE G call sc n e f) (hes:RKs G call sc n ks g):RKs G call sc n (⟨some x,e,p⟩::ks) (kCons y f g):=by
 subst hx;exact RKs_cons he hes
noncomputable def cLen (f:CE):CE:=fun vars H=>ob (f vars H) fun v H=>lenQ [v] H
theorem RE_len {e:Expr} {p1 p:Pos} {f:CE} (B:BltOk call) (h2:sc.names.lookup ("len":Str)=some .globalImplicit) (h3:G "len"=some (.lit (.builtin "len"))) (hs:notStar e=true) (he:RE G call (sc) (n + 1) e f) :
  RE G call sc (n + 2) (.Call (.Name "len" p1) [e] [] p) (cLen f):=by
 intro vars H r h
 refine zai h fun v H1 e1 h1=>?_
 have hg:RE G call sc (n + 1) (.Name "len" p1) (za1 (.lit (.builtin "len"))):=zcz (by decide +kernel) h2 h3
 have hc:zaa f zcd vars H=some ([v],H1):=by show ob (f vars H) _=_;rw [e1];rfl
 refine zcr (disp:=call) (fun _ _ _ _ _ h=>h) hg (zas hs he zb6) zcq vars H r ?_
 have hcc:∀ cc:Option (List AV×List AO),cc=zaa f zcd vars H→(ob cc fun vs H=>ob (kNil vars H) fun ks H=>call (.lit (.builtin "len")) vs ks H)=some r→zc1 call (za1 (.lit (.builtin "len"))) (zaa f zcd) kNil vars H=some r:=fun cc q z=>by subst q;exact z
 refine hcc _ rfl ?_
 rw [hc]
 exact B.1 _ _ _ _ (lenQ_ok h1)
noncomputable def rangeQ (v:AV) (H:List AO):Option (AV×List AO):=onInt v fun i=>some (.obj (lenF H),appF H [.range 0 i 1])
noncomputable def cRange (f:CE):CE:=fun vars H=>ob (f vars H) rangeQ
theorem RE_range {e:Expr} {p1 p:Pos} {f:CE} (B:BltOk call) (h2:sc.names.lookup ("range":Str)=some .globalImplicit) (h3:G "range"=some (.lit (.type "range"))) (hs:notStar e=true) (he:RE G call (sc) (n + 1) e f) :
  RE G call sc (n + 2) (.Call (.Name "range" p1) [e] [] p) (cRange f):=by
 intro vars H r h
 refine zai h fun v H1 e1 h1=>?_
 have hg:RE G call sc (n + 1) (.Name "range" p1) (za1 (.lit (.type "range"))):=zcz (by decide +kernel) h2 h3
 have hc:zaa f zcd vars H=some ([v],H1):=by show ob (f vars H) _=_;rw [e1];rfl
 refine zcr (disp:=call) (fun _ _ _ _ _ h=>h) hg (zas hs he zb6) zcq vars H r ?_
 have hcc:∀ cc:Option (List AV×List AO),cc=zaa f zcd vars H→(ob cc fun vs H=>ob (kNil vars H) fun ks H=>call (.lit (.type "range")) vs ks H)=some r→zc1 call (za1 (.lit (.type "range"))) (zaa f zcd) kNil vars H=some r:=fun cc q z=>by subst q;exact z
 refine hcc _ rfl ?_
 rw [hc]
 refine B.2 _ _ _ _ ?_
 refine zao h1 ?_;rintro i rfl h2
 unfold typesCall
 rw [if_pos rfl]
 rw [zau,zc3] at h2
 exact h2
theorem RS_tupN {ts vs:List Expr} {k1 k2:Nat} {p1 p2 p:Pos} {names:List Str} {ks:List Nat} {g:Vars→List AO→Option (List AV×List AO)} (hc:tupOk sc ts vs names=true) (hk:names.map key=ks) (hg:REs G call sc n vs g) :
  RS G call sc (n + 1) (.Assign [.Tuple ts k1 p1] (.Tuple vs k2 p2) p) (cTup ks g):=by subst hk;exact RS_tup hc hg
noncomputable def selfF (ov:AV) (H:List AO):Bool:=AV.rec (motive:=fun _=>Bool) (fun _=>false) (fun _=>false) (fun _=>true) (fun k=>Option.rec (motive:=fun _=>Bool) false (fun _=>true) (lof H k)) (fun _=>false) ov
theorem selfF_eq (ov:AV) (H:List AO):selfF ov H=selfOk ov H:=by
 cases ov with
 | obj k =>
  show Option.rec (motive:=fun _=>Bool) false (fun _=>true) (lof H k)=(zah H (.obj k)).isSome
  rw [zdq]
  cases zah H (.obj k)<;>rfl
 | _=>rfl
noncomputable def cMethQ (fo:CE) (m:AV→List AV→List AO→Option (AV×List AO)) (g:Vars→List AO→Option (List AV×List AO)):CE:=fun vars H=>ob (fo vars H) fun ov H=>bi (selfF ov H) (ob (g vars H) fun vs H=>m ov vs H) none
theorem RE_methQ {o:Expr} {name:Str} {apos p:Pos} {args:List Expr} {fo:CE} {m:AV→List AV→List AO→Option (AV×List AO)} {g:Vars→List AO→Option (List AV×List AO)} (hm:∀ ov vs H r,m ov vs H=some r→method name ov vs H=some r) (hc:(decide (args.length < 20) && apos.endLine == p.line && notCall o)=true) (ho:RE G call sc n o fo) (hg:REs G call sc n args g) :
  RE G call sc (n + 1) (.Call (.Attribute o name apos) args [] p) (cMethQ fo m g):=by
 intro vars H q h
 refine zai h fun ov H1 e1 h=>?_
 rw [zay,selfF_eq] at h
 refine ifsk h fun hs h=>?_
 refine zai h fun vs H2 e2 h=>?_
 show evMeth (ev G call n sc vars) o name apos args p H=_
 unfold evMeth
 rw [if_pos hc]
 simp only [ho _ _ _ e1,Option.bind_eq_bind,Option.bind_some]
 rw [if_pos hs]
 simp only [hg _ _ _ e2,Option.bind_some]
 exact hm _ _ _ _ h
noncomputable def mApp (ov:AV) (vs:List AV) (H:List AO):Option (AV×List AO):=List.rec (motive:=fun _=>Option (AV×List AO)) none (fun x xs _=>List.rec (motive:=fun _=>Option (AV×List AO)) (apd ov x H) (fun _ _ _=>none) xs) vs
theorem mApp_ok:∀ ov vs H r,mApp ov vs H=some r→method "append" ov vs H=some r:=by
 intro ov vs H r h
 refine methodF_ok ?_
 unfold methodF
 rw [zay,if_pos (by simp -iota)]
 cases vs with
 | nil=>exact nsf h
 | cons x xs =>
  cases xs with
  | nil=>exact h
  | cons=>exact nsf h
noncomputable def insF (x:AV) (l:List AV):Nat→List AV:=List.rec (motive:=fun _=>Nat→List AV) (fun _=>[x]) (fun y ys ih k=>Nat.rec (motive:=fun _=>List AV) (x::y::ys) (fun j _=>y::ih j) k) l
theorem insF_eq (x:AV):∀ (l:List AV) (k:Nat),insF x l k=l.take k++x::l.drop k
 | [],k=>by simp [insF]
 | _::_,0=>rfl
 | y::l,k + 1=>congrArg (y::·) (insF_eq x l k)
noncomputable def mIns (ov:AV) (vs:List AV) (H:List AO):Option (AV×List AO):=List.rec (motive:=fun _=>Option (AV×List AO)) none (fun i xs _=>List.rec (motive:=fun _=>Option (AV×List AO)) none (fun x ys _=>List.rec (motive:=fun _=>Option (AV×List AO))
 (onObj ov fun k=>o1 (lof H k) fun l=>onInt i fun i=>Int.rec (motive:=fun _=>Option (AV×List AO)) (fun n=>bi (Nat.ble (Nat.succ (lenF l)) 1048576) (bi (Nat.ble n (lenF l)) (some (.lit .none,setF H (.list (insF x l n)) k)) none) none) (fun _=>none) i) (fun _ _ _=>none) ys) xs) vs
theorem mIns_ok:∀ ov vs H r,mIns ov vs H=some r→method "insert" ov vs H=some r:=by
 intro ov vs H r h
 cases vs with
 | nil=>exact nsf h
 | cons i xs =>
  cases xs with
  | nil=>exact nsf h
  | cons x ys =>
   cases ys with
   | cons=>exact nsf h
   | nil =>
    have h':(onObj ov fun k=>o1 (lof H k) fun l=>onInt i fun i=>Int.rec (motive:=fun _=>Option (AV×List AO)) (fun n=>bi (Nat.ble (Nat.succ (lenF l)) 1048576) (bi (Nat.ble n (lenF l)) (some (.lit .none,setF H (.list (insF x l n)) k)) none) none) (fun _=>none) i)=some r:=h
    clear h
    refine zde h' ?_;rintro k rfl h1
    refine za7 h1 fun l e h2=>?_
    refine zao h2 ?_;rintro j rfl h3
    cases j with
    | negSucc _=>exact nsf h3
    | ofNat a =>
     have h4:bi (Nat.ble (Nat.succ (lenF l)) 1048576) (bi (Nat.ble a (lenF l)) (some (AV.lit .none,setF H (.list (insF x l a)) k)) none) none=some r:=h3
     rw [zay,zay,setF_eq,insF_eq,zau] at h4
     rw [zdq] at e
     refine ifsk h4 fun q1 h4=>?_
     refine ifsk h4 fun q2 h4=>?_
     unfold method
     rw [if_neg (by decide +kernel),if_pos rfl]
     show ((zah H (.obj k)).map fun xs=>(k,xs)).bind (fun p=>if (decide (p.2.length < 1048576) && decide (0≤Int.ofNat a) && decide (Int.ofNat a≤p.2.length))=true then some (AV.lit .none,H.set p.1 (.list (p.2.take (Int.ofNat a).toNat++x::p.2.drop (Int.ofNat a).toNat))) else none)=some r
     rw [e]
     show (if (decide (l.length < 1048576) && decide (0≤Int.ofNat a) && decide (Int.ofNat a≤l.length))=true then some (AV.lit .none,H.set k (.list (l.take a++x::l.drop a))) else none)=some r
     have q3:l.length < 1048576:=Nat.ble_eq.mp q1
     have q4:a≤l.length:=Nat.ble_eq.mp q2
     rw [if_pos (by simp -iota only [Bool.and_eq_true,decide_eq_true_eq];refine ⟨⟨q3,?_⟩,?_⟩<;>simp -iota<;>omega)]
     exact h4
end
end
noncomputable def one:List Nat→Option Nat
 | [b]=>some b
 | _=>none
theorem arg2_is:∀ {l:List AV} {p:AV×AV},arg2 l=some p→l=[p.1,p.2]
 | [_,_],_,e=>by obtain rfl:=sj e;rfl
 | [],_,e | [_],_,e | _::_::_::_,_,e=>nsf e
theorem arg3_is:∀ {l:List AV} {p:AV×AV×AV},arg3 l=some p→l=[p.1,p.2.1,p.2.2]
 | [_,_,_],_,e=>by obtain rfl:=sj e;rfl
 | [],_,e | [_],_,e | [_,_],_,e | _::_::_::_::_,_,e=>nsf e
theorem one_is:∀ {l:List Nat} {p:Nat},one l=some p→l=[p]
 | [_],_,e=>by obtain rfl:=sj e;rfl
 | [],_,e | _::_::_,_,e=>nsf e
noncomputable def constAV:Expr→AV
 | .Constant (.int i) _ _=>.int i
 | .Constant (.str i) _ _=>.str i
 | .Constant (.bool i) _ _=>.lit (.bool i)
 | _=>.lit .none
noncomputable def fnOfStmt:Stmt→FnD
 | .FunctionDef name a body _ _ _ sc _ _ _=>{ pos:=a.args.map (·.arg),dfl:=a.defaults.map constAV,kwo:=(a.kwonlyargs.map (·.arg)).zip (a.kw_defaults.map fun | some e=>constAV e | none=>.lit .none),body:=body,sc:=sc }
 | _=>{ pos:=[],dfl:=[],kwo:=[],body:=[],sc:=default }
noncomputable def za6:Nat→List Stmt→Stmt
 | 0,s::_=>s
 | k + 1,_::l=>za6 k l
 | _,[]=>.Pass ⟨0,0,0,0⟩
noncomputable def fnd (k:Nat):FnD:=fnOfStmt (za6 k PySem.Challenge.pw_tc0011_01.main.body)
noncomputable def gNames:List (Str×AV):=[("insort_right",.lit (.ref 23)),("bisect_right",.lit (.ref 32)),("insort_left",.lit (.ref 41)),("bisect_left",.lit (.ref 50)),("_grouping_intervals",.lit (.ref 57)),("_substitution_cost",.lit (.ref 64)),("_levenshtein_distance",.lit (.ref 71)),("_law_laid",.lit (.ref 78)),("_law_sizes",.lit (.ref 83)),("_law_marks",.lit (.ref 90)),("_law_refused",.lit (.ref 97)),("_law_written",.lit (.ref 104)),("_law_grown",.lit (.ref 109)),("_law_counts",.lit (.ref 116)),("_law_stretch",.lit (.ref 121)),("law",.lit (.ref 126)),("CHAR_MAX",.int 127),("_MAX_STRING_SIZE",.int 40),("_MOVE_COST",.int 2),("_CASE_COST",.int 1),("len",.lit (.builtin "len")),("min",.lit (.builtin "min")),("abs",.lit (.builtin "abs")),("isinstance",.lit (.builtin "isinstance")),("sum",.lit (.builtin "sum")),("sorted",.lit (.builtin "sorted")),("range",.lit (.type "range")),("bool",.lit (.type "bool")),("list",.lit (.type "list"))]
noncomputable def nmKey:Str:=⟨#[107,101,121]⟩
theorem nm_key:("key":Str)=nmKey:=by decide +kernel
noncomputable def G2:Str→Option AV:=fun x=>gNames.lookup x
noncomputable def zck:Nat:=158456325028528675187087900672
theorem hk_a:key "a"=zck:=by decide +kernel
noncomputable def kk_answers:Nat:=794889263257962974796277498092801317859657106891370612066964958706915670702295196846396500753853337575849027975911195664672265814120451914361259889574643644494732698279293528610707350386185168839988044260263184723514034187351724392448
theorem zbu:key "answers"=kk_answers:=by decide +kernel
noncomputable def kk_b:Nat:=316912650057057350374175801344
theorem hk_b:key "b"=kk_b:=by decide +kernel
noncomputable def kk_bchar:Nat:=214524926879081553593184399971293543204169609303295473355415327121868260951264225977424579939264594947258565661562541568562977887665138996861772051444137984
theorem hk_bchar:key "bchar"=kk_bchar:=by decide +kernel
noncomputable def kk_below:Nat:=7198262071269114212496861612297570979606885885612783135575299119583401530311091638610733015590260767931031095217572524431985525407190041932278572077902346307239936
theorem hk_below:key "below"=kk_below:=by decide +kernel
noncomputable def zdm:Nat:=2281220308811097609320585802850145663304713961140606179662333858834980966091028409412201272151850088423304996838783141007229495333489078597069332778135195025166516312985132251866659889344413696
theorem hk_bindex:key "bindex"=zdm:=by decide +kernel
noncomputable def kk_bound:Nat:=3599131035634557106248430806150205093979147551849637454542885717492442201515535695434845391207792714813330123870322334255903766468220375746448954270277097633087488
theorem hk_bound:key "bound"=kk_bound:=by decide +kernel
noncomputable def kk_ch_a:Nat:=645562469521727147413979793002790004558760934293574323896099928304921517742284906301524938004854494520754355133086695424
theorem hk_ch_a:key "ch_a"=kk_ch_a:=by decide +kernel
noncomputable def kk_ch_b:Nat:=1291124939043454294827959586003542973141187382500880202103764767440083423246495204958936276324888952379730148126273568768
theorem hk_ch_b:key "ch_b"=kk_ch_b:=by decide +kernel
noncomputable def kk_code:Nat:=42307582002575910332922579714105690248376965764723353587757251001518752096076466117633080214123977566821513578610497175945216
theorem hk_code:key "code"=kk_code:=by decide +kernel
noncomputable def kk_counts:Nat:=39191066485258739495582803211213117307923157363667596720061647028464177134361321296684764225792969770691846961093554570700022468921811899422075436662549843194136762114133744307171800004101335359252594688
theorem zbd:key "counts"=kk_counts:=by decide +kernel
noncomputable def zaq:Nat:=7507516828804700229971157695510737457942142807484543991054562338680650428540944519964602469286888584917438606493447395569528037818167286352317066551689910330311175066848727493218527971178144454039162035172973804287905472513124334029635146479744240886743040
theorem zda:key "distance"=zaq:=by decide +kernel
noncomputable def kk_due:Nat:=2135987035920910082395021706169973363769378751103444442057776289552762956762470975869476034052096
theorem hk_due:key "due"=kk_due:=by decide +kernel
noncomputable def kk_each:Nat:=41315998049390537434494706752049208507263459928310710428134755197199909815961429853180689895823484955182288114306875654144
theorem hk_each:key "each"=kk_each:=by decide +kernel
noncomputable def zc9:Nat:=1386334847060407429789207092071541868405617255820018306296346869763518567465726716599956844993561754715019357060949205415679229952
theorem zcn:key "ends"=zc9:=by decide +kernel
noncomputable def kk_firsts:Nat:=19595533242629369747791401605606558653961578681833798360030823514232088567180660648342382112896484885345393755761868899649577269077775900785382119191739567178505287851408953536545000102280043797191589888
theorem zci:key "firsts"=kk_firsts:=by decide +kernel
noncomputable def ze1:Nat:=57586096570152913699974892898403281503666360829594199272686171479879075224248571126957526259324683437013281981925157348094460263491526011943183268324433562129399808
theorem hk_found:key "found"=ze1:=by decide +kernel
noncomputable def kk_gone:Nat:=693167423530203714894603546035907629029408207089227425181814746541646045875115824886229226030770742887450113261662130131588612096
theorem hk_gone:key "gone"=kk_gone:=by decide +kernel
noncomputable def kk_hi:Nat:=1645504557321206042154969182557370787392339517304003810599895040
theorem hk_hi:key "hi"=kk_hi:=by decide +kernel
noncomputable def zbr:Nat:=1353842624082429130653522550851148464366009054930885359309119633619278285031333501104487108063029912943421642039845757189619712
theorem zbc:key "high"=zbr:=by decide +kernel
noncomputable def kk_i:Nat:=40564819207303340847894502572032
theorem hk_i:key "i"=kk_i:=by decide +kernel
noncomputable def zct:Nat:=3599131035634557106248430806148785488449600318723962437134127008940852152485253200726379863691344717768536795581263631862825179696383004299098898330651987965640704
theorem hk_index:key "index"=zct:=by decide +kernel
noncomputable def zat:Nat:=864657178211191254577873193340010652618333493911045573229434574698635193716392541977059583168559663732235530846437937828609207637222134404479119486519331042557627981934565417637779480691215371064807006027487430954411975896086089516904879689606396367906783138561431536097875175155468476245561992688329547004012985326415973555301731502447411977819251461707194750128798668628564636617250884694641955707661546252773934235648
theorem zbb:key "insert_delete"=zat:=by decide +kernel
noncomputable def kk_j:Nat:=81129638414606681695789005144064
theorem hk_j:key "j"=kk_j:=by decide +kernel
noncomputable def kk_k:Nat:=162259276829213363391578010288128
theorem hk_k:key "k"=kk_k:=by decide +kernel
noncomputable def kk_kept:Nat:=1419606883389857208104148062281258864703403926276058416067372369952895390759577069026099053198077174112254971331947009049792801144832
theorem hk_kept:key "kept"=kk_kept:=by decide +kernel
noncomputable def zbw:Nat:=4374501449566023848745004454235242731529091140447027893929025804098743510166948992627207863730700288
theorem hk_key:key "key"=zbw:=by decide +kernel
noncomputable def kk_kind:Nat:=86645927941275464361825443254505541524963393166812588321376199741204595599853155501558106316938483630294681729776259497845587968
theorem hk_kind:key "kind"=kk_kind:=by decide +kernel
noncomputable def zdk:Nat:=21153791001287955166461289857057016973868015909866354570648486364572686966677796375974234275510369776006167740831172141252608
theorem hk_laid:key "laid"=zdk:=by decide +kernel
noncomputable def kk_least:Nat:=7198262071269114212496861612297571017514479359920798793873930543414623516749919836886037169527065052989645177973648612831382666475601845532158327335874874314850304
theorem hk_least:key "least"=kk_least:=by decide +kernel
noncomputable def zd3:Nat:=1684996666696914987166688442938727241620875184835512563224996216832
theorem hk_lo:key "lo"=zd3:=by decide +kernel
noncomputable def kk_long:Nat:=88725430211866075506509253892583053011415552435874875409909581824083584855338721349318720979484013646735792687446873888106215374848
theorem hk_long:key "long"=kk_long:=by decide +kernel
noncomputable def zd1:Nat:=2239744742177804210557442280568444279806642163931564522066677543902519112801036130216390056496603332608
theorem zcc:key "low"=zd1:=by decide +kernel
noncomputable def zcy:Nat:=2772669694120814859578414184143092247384580759016146155257304258823285406693380200406323565418391184826524492360261427472281632768
theorem hk_mark:key "mark"=zcy:=by decide +kernel
noncomputable def zbk:Nat:=230344386280611654799899571593522273946798186577872991193172869460818331514960937976481038385823470709361357317816470236631828640432492970601728337521723861664530432
theorem hk_marks:key "marks"=zbk:=by decide +kernel
noncomputable def zap:Nat:=3936100983140358674171118325863157284992965899914305070885052542372637793387124590872970999445893039720829780736966231396814791581933648118672071180119526539312112250155254361548163893139965487226770461785840755462436234082510904472630464076288954262262720233472
theorem zcu:key "max_cost"=zap:=by decide +kernel
noncomputable def kk_mid:Nat:=133499189745056880149688856635649663308503311240639757135531936354085287725843762498374327074816
theorem hk_mid:key "mid"=kk_mid:=by decide +kernel
noncomputable def zb4:Nat:=6210072369202835740595917953850015005093277132277760026441365770892894498511625300217916396045184155705347715601885351220257939254896981252589748542427525281803707449644029775043896309717385955197292040171620669746583043943058898944
theorem zds:key "minimum"=zb4:=by decide +kernel
noncomputable def kk_more:Nat:=709803441694928604052074031140769412126114004059368883386178300408095650975211155068498074167347423468122660434876644357996852281344
theorem hk_more:key "more"=kk_more:=by decide +kernel
noncomputable def kk_n:Nat:=1298074214633706907132624082305024
theorem hk_n:key "n"=kk_n:=by decide +kernel
noncomputable def ze3:Nat:=74751027079122046462216955587793574866616173680038959026824893288009369608273281923305565756496916708933716265349662779186561677530919121579574835318200769192512008982968097179324826509542338592768
theorem hk_number:key "number"=ze3:=by decide +kernel
noncomputable def zaf:Nat:=6210072369202835740595917953850010295778571147588832906773163739897778677361681225362472662139479199811320531061806216130252076673375966499493414449827503743379497435002521201775896460727162971813060979742963054328397896957602824192
theorem zba:key "numbers"=zaf:=by decide +kernel
noncomputable def kk_one:Nat:=34175792574734561318320347298719573820310060017655111072924420635420073327863297757752917458157568
theorem hk_one:key "one"=kk_one:=by decide +kernel
noncomputable def zc5:Nat:=57586096570152913699974892898380569179866970174671962692896763401246779091411458918538571145759403789285456340342709200177838261906650906621794041523988821566291968
theorem zdd:key "order"=zc5:=by decide +kernel
noncomputable def kk_place:Nat:=6864797660130609714981900799082747059893517729273958931945315642268629716643408097570507689540227172783839429687492704938365462514448988580276378244246142976
theorem zdc:key "place"=kk_place:=by decide +kernel
noncomputable def zcf:Nat:=372141426839350727961253789638658323828809118849711057421565262548931620595651901128299147532451133550538148176572185851048220905397288960
theorem hk_post:key "post"=zcf:=by decide +kernel
noncomputable def zd0:Nat:=1093625362391505962186251113559026362249921920564963554333581460255557893613603113820135913722740736
theorem hk_pre:key "pre"=zd0:=by decide +kernel
noncomputable def zak:Nat:=313528531882069915964662425689704936576404046498570097639715885733581856257617008355104767247103163560718410506824238316088559326773109586896100244678095006423760551864266502790285203158144725938773950464
theorem hk_result:key "result"=zak:=by decide +kernel
noncomputable def zaj:Nat:=143343663499379469475676305956380433907625098491620129412267362809761223219266312333848963615782613286912
theorem zbg:key "row"=zaj:=by decide +kernel
noncomputable def kk_rulers:Nat:=78382132970517478991165606422426234615846314727335193440123294056928371304005243271656025701362686920967270069287325659607594844179944931695168628461836111941819459678252925355891027716585024861365075968
theorem zb8:key "rulers"=kk_rulers:=by decide +kernel
noncomputable def zbp:Nat:=306180206916083902309240650087602477125394576658759860976285044661698369738672753739516803987132405806587480557617512730685992197447418003945789906845137575951154397880538226709669985333868131487055872
theorem zc6:key "script"=zbp:=by decide +kernel
noncomputable def kk_seconds:Nat:=758065474756205534740712640850831334933907610789652454440083464346589472563486535632117515025396360733742526426862267946464285982789825052992243141128835861340759121680555920949084324462300717138890076116591064714717677458817024
theorem zbm:key "seconds"=kk_seconds:=by decide +kernel
noncomputable def kk_short:Nat:=60383398797144661635864873295812302618090101674466492128681204747932262524097961109084755233596548341470284466535603669328767102485943870769717738464734811542438841155584
theorem hk_short:key "short"=kk_short:=by decide +kernel
noncomputable def kk_sign:Nat:=177450860423732151013018507785157425371517122293174897451605290588373424319498585261780377181873878681843773813466029135949713113088
theorem hk_sign:key "sign"=kk_sign:=by decide +kernel
noncomputable def zdw:Nat:=181709681073901722637330951972036969504285185039198434146861644903613138349638629054080495880942189555502092488024077123080104706048000
theorem zd6:key "size"=zdw:=by decide +kernel
noncomputable def zcs:Nat:=15095849699286165408966218323953075745377365955567484350835777173019466153853780447542941047572279973779011849761684433679578219461888726032338225029807907254702287355904
theorem zb7:key "sizes"=zcs:=by decide +kernel
noncomputable def zb9:Nat:=455769356286876421213391376429928771581843008288282776618612654822665501744149044785377709669659813124768351375542642016894122463755070740078733894670691190536574364452911148547808775048267194859198863192020478356793701847951767371821557525208765667316651895420793866741557080275213082721947371889396818112425827062729670982230734958231552
theorem zc7:key "substitute"=zb9:=by decide +kernel
noncomputable def kk_text:Nat:=186070713419675363980626894819329161914404559424855528710782631274465797239101783663058423224390134000215947146601553085676537611240341504
theorem hk_text:key "text"=kk_text:=by decide +kernel
noncomputable def kk_told:Nat:=709803441694928604052074031140909396172500116822528723528713828603467407159804727404768187992594379831773717442183140260475366801408
theorem zcg:key "told"=kk_told:=by decide +kernel
noncomputable def zal:Nat:=2977131414714805823690030317109267719461823008411010580323431506887396529380359640339790151541444366100214213927295538613311421371811627008
theorem zby:key "turn"=zal:=by decide +kernel
noncomputable def zd2:Nat:=247330401473104534060502521019647193012262763816017663604093373202164944568354875581326981384674551876994200806375779679141516575751117310181760082397431781228028143960326144
theorem hk_turns:key "turns"=zd2:=by decide +kernel
noncomputable def kk_two:Nat:=573374653997517877902705223825521845627082795941090879890491006279138041316614493300931577365860269948928
theorem hk_two:key "two"=kk_two:=by decide +kernel
noncomputable def kk_upto:Nat:=1488565707357402911845015158554633573043584505446566338809103840682818587063449290648126597749358274890330421586950298240949769414704627712
theorem hk_upto:key "upto"=kk_upto:=by decide +kernel
noncomputable def kk_x:Nat:=1329227995784915872903807060280344576
theorem hk_x:key "x"=kk_x:=by decide +kernel
theorem g_insort_right:G2 "insort_right"=some (.lit (.ref 23)):=by decide +kernel
theorem zcb:G2 "bisect_right"=some (.lit (.ref 32)):=by decide +kernel
theorem g_insort_left:G2 "insort_left"=some (.lit (.ref 41)):=by decide +kernel
theorem zcv:G2 "bisect_left"=some (.lit (.ref 50)):=by decide +kernel
theorem g_substitution_cost:G2 "_substitution_cost"=some (.lit (.ref 64)):=by decide +kernel
theorem g_levenshtein_distance:G2 "_levenshtein_distance"=some (.lit (.ref 71)):=by decide +kernel
theorem g_law_laid:G2 "_law_laid"=some (.lit (.ref 78)):=by decide +kernel
theorem g_law_sizes:G2 "_law_sizes"=some (.lit (.ref 83)):=by decide +kernel
theorem g_law_marks:G2 "_law_marks"=some (.lit (.ref 90)):=by decide +kernel
theorem g_law_written:G2 "_law_written"=some (.lit (.ref 104)):=by decide +kernel
theorem g_law_grown:G2 "_law_grown"=some (.lit (.ref 109)):=by decide +kernel
theorem g_law_counts:G2 "_law_counts"=some (.lit (.ref 116)):=by decide +kernel
theorem g_law_stretch:G2 "_law_stretch"=some (.lit (.ref 121)):=by decide +kernel
theorem g_MAX_STRING_SIZE:G2 "_MAX_STRING_SIZE"=some (.int 40):=by decide +kernel
theorem g_MOVE_COST:G2 "_MOVE_COST"=some (.int 2):=by decide +kernel
theorem g_CASE_COST:G2 "_CASE_COST"=some (.int 1):=by decide +kernel
theorem g_len:G2 "len"=some (.lit (.builtin "len")):=by decide +kernel
theorem g_min:G2 "min"=some (.lit (.builtin "min")):=by decide +kernel
theorem g_abs:G2 "abs"=some (.lit (.builtin "abs")):=by decide +kernel
theorem g_isinstance:G2 "isinstance"=some (.lit (.builtin "isinstance")):=by decide +kernel
theorem g_sum:G2 "sum"=some (.lit (.builtin "sum")):=by decide +kernel
theorem g_sorted:G2 "sorted"=some (.lit (.builtin "sorted")):=by decide +kernel
theorem zch:G2 "range"=some (.lit (.type "range")):=by decide +kernel
theorem g_bool:G2 "bool"=some (.lit (.type "bool")):=by decide +kernel
theorem g_list:G2 "list"=some (.lit (.type "list")):=by decide +kernel
noncomputable def c_insr (disp:CallT):{ f:CS // ∀ call,zbo call disp→BltOk call→RSs G2 call (fnd 1).sc za0 (fnd 1).body f }:=by
 refine' ⟨_,fun call D B=>?h⟩
 case h =>
  unfold za0
  conv in (fnd 1).sc=>whnf
  conv in (fnd 1).body=>whnf
  repeat' (first
   | with_reducible refine' zco ?_
   | with_reducible refine' zce ?_ ?_
   | ((with_reducible refine' RS_as ?k ?a ?_);(case k=>with_reducible first | exact hk_a | exact hk_hi | exact hk_key | exact hk_lo | exact hk_x);(case a=>decide +kernel))
   | with_reducible refine' RS_expr ?_
   | with_reducible refine' RS_if ?_ ?_ ?_
   | ((with_reducible refine' RB_cmp ?a ?_ ?_);(case a=>rfl))
   | with_reducible exact RE_none
   | ((with_reducible refine' zbi ?k ?a ?b);(case k=>with_reducible first | exact hk_a | exact hk_hi | exact hk_key | exact hk_lo | exact hk_x);(case a=>decide +kernel);(case b=>decide +kernel))
   | ((with_reducible refine' zcz ?a ?b ?c);(case a=>decide +kernel);(case b=>decide +kernel);(case c=>with_reducible first | exact zcb))
   | ((with_reducible refine' RE_methQ mIns_ok ?a ?_ ?_);(case a=>decide +kernel))
   | ((with_reducible refine' zcr ?a ?_ ?_ ?_);(case a=>assumption))
   | with_reducible exact zb6
   | ((with_reducible refine' zas ?a ?_ ?_);(case a=>rfl))
   | with_reducible exact zcq
   | ((with_reducible refine' RKs_consN ?k ?_ ?_);(case k=>exact nm_key))
   | with_reducible refine' zcp ?_)
noncomputable def c_bisr (disp:CallT):{ f:CS // ∀ call,zbo call disp→BltOk call→RSs G2 call (fnd 2).sc za0 (fnd 2).body f }:=by
 refine' ⟨_,fun call D B=>?h⟩
 case h =>
  unfold za0
  conv in (fnd 2).sc=>whnf
  conv in (fnd 2).body=>whnf
  repeat' (first
   | with_reducible exact RSs_nil
   | with_reducible refine' zco ?_
   | with_reducible refine' zce ?_ ?_
   | ((with_reducible refine' RS_as ?k ?a ?_);(case k=>with_reducible first | exact hk_a | exact hk_hi | exact hk_key | exact hk_lo | exact hk_mid | exact hk_x);(case a=>decide +kernel))
   | with_reducible refine' RS_ret ?_
   | with_reducible refine' RS_if ?_ ?_ ?_
   | with_reducible refine' RS_while ?_ ?_
   | with_reducible exact RS_fail
   | ((with_reducible refine' RB_cmp ?a ?_ ?_);(case a=>rfl))
   | with_reducible exact zd5
   | with_reducible exact RE_none
   | ((with_reducible refine' zbi ?k ?a ?b);(case k=>with_reducible first | exact hk_a | exact hk_hi | exact hk_key | exact hk_lo | exact hk_mid | exact hk_x);(case a=>decide +kernel);(case b=>decide +kernel))
   | with_reducible refine' RE_add ?_ ?_
   | with_reducible refine' RE_fd ?_ ?_
   | ((with_reducible refine' zdx ?a ?_ ?_);(case a=>rfl))
   | ((with_reducible refine' RE_len ?a ?b ?c ?d ?_);(case a=>assumption);(case b=>decide +kernel);(case c=>exact g_len);(case d=>rfl))
   | ((with_reducible refine' zcr ?a ?_ ?_ ?_);(case a=>assumption))
   | with_reducible exact zb6
   | ((with_reducible refine' zas ?a ?_ ?_);(case a=>rfl))
   | with_reducible exact zcq
   | with_reducible refine' zcp ?_)
noncomputable def c_insl (disp:CallT):{ f:CS // ∀ call,zbo call disp→BltOk call→RSs G2 call (fnd 3).sc za0 (fnd 3).body f }:=by
 refine' ⟨_,fun call D B=>?h⟩
 case h =>
  unfold za0
  conv in (fnd 3).sc=>whnf
  conv in (fnd 3).body=>whnf
  repeat' (first
   | with_reducible refine' zco ?_
   | with_reducible refine' zce ?_ ?_
   | ((with_reducible refine' RS_as ?k ?a ?_);(case k=>with_reducible first | exact hk_a | exact hk_hi | exact hk_key | exact hk_lo | exact hk_x);(case a=>decide +kernel))
   | with_reducible refine' RS_expr ?_
   | with_reducible refine' RS_if ?_ ?_ ?_
   | ((with_reducible refine' RB_cmp ?a ?_ ?_);(case a=>rfl))
   | with_reducible exact RE_none
   | ((with_reducible refine' zbi ?k ?a ?b);(case k=>with_reducible first | exact hk_a | exact hk_hi | exact hk_key | exact hk_lo | exact hk_x);(case a=>decide +kernel);(case b=>decide +kernel))
   | ((with_reducible refine' zcz ?a ?b ?c);(case a=>decide +kernel);(case b=>decide +kernel);(case c=>with_reducible first | exact zcv))
   | ((with_reducible refine' RE_methQ mIns_ok ?a ?_ ?_);(case a=>decide +kernel))
   | ((with_reducible refine' zcr ?a ?_ ?_ ?_);(case a=>assumption))
   | with_reducible exact zb6
   | ((with_reducible refine' zas ?a ?_ ?_);(case a=>rfl))
   | with_reducible exact zcq
   | ((with_reducible refine' RKs_consN ?k ?_ ?_);(case k=>exact nm_key))
   | with_reducible refine' zcp ?_)
noncomputable def c_bisl (disp:CallT):{ f:CS // ∀ call,zbo call disp→BltOk call→RSs G2 call (fnd 4).sc za0 (fnd 4).body f }:=by
 refine' ⟨_,fun call D B=>?h⟩
 case h =>
  unfold za0
  conv in (fnd 4).sc=>whnf
  conv in (fnd 4).body=>whnf
  repeat' (first
   | with_reducible exact RSs_nil
   | with_reducible refine' zco ?_
   | with_reducible refine' zce ?_ ?_
   | ((with_reducible refine' RS_as ?k ?a ?_);(case k=>with_reducible first | exact hk_a | exact hk_hi | exact hk_key | exact hk_lo | exact hk_mid | exact hk_x);(case a=>decide +kernel))
   | with_reducible refine' RS_ret ?_
   | with_reducible refine' RS_if ?_ ?_ ?_
   | with_reducible refine' RS_while ?_ ?_
   | with_reducible exact RS_fail
   | ((with_reducible refine' RB_cmp ?a ?_ ?_);(case a=>rfl))
   | with_reducible exact zd5
   | with_reducible exact RE_none
   | ((with_reducible refine' zbi ?k ?a ?b);(case k=>with_reducible first | exact hk_a | exact hk_hi | exact hk_key | exact hk_lo | exact hk_mid | exact hk_x);(case a=>decide +kernel);(case b=>decide +kernel))
   | with_reducible refine' RE_add ?_ ?_
   | with_reducible refine' RE_fd ?_ ?_
   | ((with_reducible refine' zdx ?a ?_ ?_);(case a=>rfl))
   | ((with_reducible refine' RE_len ?a ?b ?c ?d ?_);(case a=>assumption);(case b=>decide +kernel);(case c=>exact g_len);(case d=>rfl))
   | ((with_reducible refine' zcr ?a ?_ ?_ ?_);(case a=>assumption))
   | with_reducible exact zb6
   | ((with_reducible refine' zas ?a ?_ ?_);(case a=>rfl))
   | with_reducible exact zcq
   | with_reducible refine' zcp ?_)
noncomputable def c_subst (disp:CallT):{ f:CS // ∀ call,zbo call disp→BltOk call→RSs G2 call (fnd 12).sc za0 (fnd 12).body f }:=by
 refine' ⟨_,fun call D B=>?h⟩
 case h =>
  unfold za0
  conv in (fnd 12).sc=>whnf
  conv in (fnd 12).body=>whnf
  repeat' (first
   | with_reducible exact RSs_nil
   | with_reducible refine' zco ?_
   | with_reducible refine' zce ?_ ?_
   | with_reducible refine' RS_ret ?_
   | with_reducible refine' RS_if ?_ ?_ ?_
   | ((with_reducible refine' RB_cmp ?a ?_ ?_);(case a=>rfl))
   | with_reducible exact zd5
   | ((with_reducible refine' zbi ?k ?a ?b);(case k=>with_reducible first | exact hk_ch_a | exact hk_ch_b);(case a=>decide +kernel);(case b=>decide +kernel))
   | ((with_reducible refine' zcz ?a ?b ?c);(case a=>decide +kernel);(case b=>decide +kernel);(case c=>with_reducible first | exact g_MOVE_COST | exact g_CASE_COST))
   | ((with_reducible refine' RE_meth ?a ?_ ?_);(case a=>decide +kernel))
   | with_reducible exact zb6
   | with_reducible refine' zcp ?_)
noncomputable def c_lev (disp:CallT):{ f:CS // ∀ call,zbo call disp→BltOk call→RSs G2 call (fnd 13).sc za0 (fnd 13).body f }:=by
 refine' ⟨_,fun call D B=>?h⟩
 case h =>
  unfold za0
  conv in (fnd 13).sc=>whnf
  conv in (fnd 13).body=>whnf
  repeat' (first
   | with_reducible exact RSs_nil
   | with_reducible refine' zco ?_
   | with_reducible refine' zce ?_ ?_
   | ((with_reducible refine' RS_as ?k ?a ?_);(case k=>with_reducible first | exact hk_a | exact hk_b | exact hk_bchar | exact hk_bindex | exact zda | exact hk_index | exact zbb | exact zcu | exact zds | exact hk_post | exact hk_pre | exact hk_result | exact zbg | exact zc7);(case a=>decide +kernel))
   | ((with_reducible refine' RS_as2 ?k ?j ?a ?b ?_);(case k=>with_reducible first | exact hk_a | exact hk_b | exact hk_bchar | exact hk_bindex | exact zda | exact hk_index | exact zbb | exact zcu | exact zds | exact hk_post | exact hk_pre | exact hk_result | exact zbg | exact zc7);(case j=>with_reducible first | exact hk_a | exact hk_b | exact hk_bchar | exact hk_bindex | exact zda | exact hk_index | exact zbb | exact zcu | exact zds | exact hk_post | exact hk_pre | exact hk_result | exact zbg | exact zc7);(case a=>decide +kernel);(case b=>decide +kernel))
   | ((with_reducible refine' RS_tupN ?a ?k ?_);(case a=>exact tup_ok (by rfl) (by decide +kernel));(case k=>simp -iota only [List.map_cons,List.map_nil,hk_a,hk_b,hk_bchar,hk_bindex,zda,hk_index,zbb,zcu,zds,hk_post,hk_pre,hk_result,zbg,zc7];exact rfl))
   | with_reducible refine' RS_set ?_ ?_ ?_
   | ((with_reducible refine' RS_augAdd ?k ?a ?b ?_);(case k=>with_reducible first | exact hk_a | exact hk_b | exact hk_bchar | exact hk_bindex | exact zda | exact hk_index | exact zbb | exact zcu | exact zds | exact hk_post | exact hk_pre | exact hk_result | exact zbg | exact zc7);(case a=>decide +kernel);(case b=>decide +kernel))
   | ((with_reducible refine' RS_augSub ?k ?a ?b ?_);(case k=>with_reducible first | exact hk_a | exact hk_b | exact hk_bchar | exact hk_bindex | exact zda | exact hk_index | exact zbb | exact zcu | exact zds | exact hk_post | exact hk_pre | exact hk_result | exact zbg | exact zc7);(case a=>decide +kernel);(case b=>decide +kernel))
   | with_reducible refine' RS_ret ?_
   | with_reducible refine' RS_if ?_ ?_ ?_
   | with_reducible refine' RS_while ?_ ?_
   | ((with_reducible refine' RS_for ?k ?a ?b ?_ ?_);(case k=>with_reducible first | exact hk_a | exact hk_b | exact hk_bchar | exact hk_bindex | exact zda | exact hk_index | exact zbb | exact zcu | exact zds | exact hk_post | exact hk_pre | exact hk_result | exact zbg | exact zc7);(case a=>decide +kernel);(case b=>rfl))
   | with_reducible refine' RB_not ?_
   | with_reducible refine' RB_bool ?_
   | ((with_reducible refine' RB_cmp ?a ?_ ?_);(case a=>rfl))
   | ((with_reducible refine' RB_val ?a ?_);(case a=>rfl))
   | with_reducible exact RBs_and0
   | with_reducible exact RBs_or0
   | with_reducible refine' RBs_and ?_ ?_
   | with_reducible refine' RBs_or ?_ ?_
   | with_reducible exact zd5
   | with_reducible exact RE_none
   | ((with_reducible refine' zbi ?k ?a ?b);(case k=>with_reducible first | exact hk_a | exact hk_b | exact hk_bchar | exact hk_bindex | exact zda | exact hk_index | exact zbb | exact zcu | exact zds | exact hk_post | exact hk_pre | exact hk_result | exact zbg | exact zc7);(case a=>decide +kernel);(case b=>decide +kernel))
   | ((with_reducible refine' zcz ?a ?b ?c);(case a=>decide +kernel);(case b=>decide +kernel);(case c=>with_reducible first | exact g_substitution_cost | exact g_MAX_STRING_SIZE | exact g_MOVE_COST | exact g_len | exact g_min | exact zch | exact g_list))
   | with_reducible refine' RE_add ?_ ?_
   | with_reducible refine' RE_sub ?_ ?_
   | with_reducible refine' RE_mul ?_ ?_
   | with_reducible refine' RE_slice ?_ ?_ ?_ ?_
   | ((with_reducible refine' zdx ?a ?_ ?_);(case a=>rfl))
   | ((with_reducible refine' RE_len ?a ?b ?c ?d ?_);(case a=>assumption);(case b=>decide +kernel);(case c=>exact g_len);(case d=>rfl))
   | ((with_reducible refine' RE_range ?a ?b ?c ?d ?_);(case a=>assumption);(case b=>decide +kernel);(case c=>exact zch);(case d=>rfl))
   | ((with_reducible refine' zcr ?a ?_ ?_ ?_);(case a=>assumption))
   | with_reducible refine' RE_boolop ?_
   | with_reducible refine' RVs_or ?_ ?_
   | with_reducible refine' RVs_one ?_
   | with_reducible exact zb6
   | ((with_reducible refine' zas ?a ?_ ?_);(case a=>rfl))
   | with_reducible exact zcq
   | with_reducible exact RP_none
   | with_reducible refine' zcp ?_)
noncomputable def c_laid (disp:CallT):{ f:CS // ∀ call,zbo call disp→BltOk call→RSs G2 call (fnd 15).sc za0 (fnd 15).body f }:=by
 refine' ⟨_,fun call D B=>?h⟩
 case h =>
  unfold za0
  conv in (fnd 15).sc=>whnf
  conv in (fnd 15).body=>whnf
  repeat' (first
   | with_reducible exact RSs_nil
   | with_reducible refine' zco ?_
   | with_reducible refine' zce ?_ ?_
   | ((with_reducible refine' RS_as ?k ?a ?_);(case k=>with_reducible first | exact hk_gone | exact zba | exact zbg | exact zby | exact hk_x);(case a=>decide +kernel))
   | with_reducible refine' RS_ret ?_
   | with_reducible refine' RS_if ?_ ?_ ?_
   | ((with_reducible refine' RS_for ?k ?a ?b ?_ ?_);(case k=>with_reducible first | exact hk_gone | exact zba | exact zbg | exact zby | exact hk_x);(case a=>decide +kernel);(case b=>rfl))
   | ((with_reducible refine' RB_cmp ?a ?_ ?_);(case a=>rfl))
   | with_reducible exact zd5
   | with_reducible exact RE_none
   | ((with_reducible refine' zbi ?k ?a ?b);(case k=>with_reducible first | exact hk_gone | exact zba | exact zbg | exact zby | exact hk_x);(case a=>decide +kernel);(case b=>decide +kernel))
   | ((with_reducible refine' zcz ?a ?b ?c);(case a=>decide +kernel);(case b=>decide +kernel);(case c=>with_reducible first | exact g_insort_right | exact g_insort_left | exact g_len | exact zch))
   | with_reducible refine' RE_sub ?_ ?_
   | with_reducible refine' RE_mod ?_ ?_
   | with_reducible refine' RE_neg ?_
   | with_reducible refine' RE_if ?_ ?_ ?_
   | with_reducible refine' RE_list ?_
   | ((with_reducible refine' RE_cmp ?a ?_ ?_);(case a=>rfl))
   | ((with_reducible refine' zdx ?a ?_ ?_);(case a=>rfl))
   | ((with_reducible refine' RE_len ?a ?b ?c ?d ?_);(case a=>assumption);(case b=>decide +kernel);(case c=>exact g_len);(case d=>rfl))
   | ((with_reducible refine' RE_range ?a ?b ?c ?d ?_);(case a=>assumption);(case b=>decide +kernel);(case c=>exact zch);(case d=>rfl))
   | ((with_reducible refine' zcr ?a ?_ ?_ ?_);(case a=>assumption))
   | with_reducible exact zb6
   | ((with_reducible refine' zas ?a ?_ ?_);(case a=>rfl))
   | with_reducible exact zcq
   | with_reducible refine' zcp ?_)
noncomputable def c_sizes (disp:CallT):{ f:CS // ∀ call,zbo call disp→BltOk call→RSs G2 call (fnd 16).sc za0 (fnd 16).body f }:=by
 refine' ⟨_,fun call D B=>?h⟩
 case h =>
  unfold za0
  conv in (fnd 16).sc=>whnf
  conv in (fnd 16).body=>whnf
  repeat' (first
   | with_reducible refine' zco ?_
   | with_reducible refine' RS_ret ?_
   | with_reducible exact RBs_and0
   | with_reducible exact zd5
   | ((with_reducible refine' zbi ?k ?a ?b);(case k=>with_reducible first | exact hk_k | exact hk_marks);(case a=>decide +kernel);(case b=>decide +kernel))
   | ((with_reducible refine' zcz ?a ?b ?c);(case a=>decide +kernel);(case b=>decide +kernel);(case c=>with_reducible first | exact g_len | exact g_sum | exact zch))
   | with_reducible refine' RE_sub ?_ ?_
   | with_reducible refine' RE_slice ?_ ?_ ?_ ?_
   | ((with_reducible refine' zdx ?a ?_ ?_);(case a=>rfl))
   | ((with_reducible refine' RE_len ?a ?b ?c ?d ?_);(case a=>assumption);(case b=>decide +kernel);(case c=>exact g_len);(case d=>rfl))
   | ((with_reducible refine' RE_range ?a ?b ?c ?d ?_);(case a=>assumption);(case b=>decide +kernel);(case c=>exact zch);(case d=>rfl))
   | ((with_reducible refine' zcr ?a ?_ ?_ ?_);(case a=>assumption))
   | ((with_reducible refine' RE_comp ?k ?a ?_ ?_ ?_);(case k=>with_reducible first | exact hk_k | exact hk_marks);(case a=>decide +kernel))
   | with_reducible exact zb6
   | ((with_reducible refine' zas ?a ?_ ?_);(case a=>rfl))
   | with_reducible exact zcq
   | with_reducible exact RP_none
   | with_reducible refine' zcp ?_)
noncomputable def c_written (disp:CallT):{ f:CS // ∀ call,zbo call disp→BltOk call→RSs G2 call (fnd 19).sc za0 (fnd 19).body f }:=by
 refine' ⟨_,fun call D B=>?h⟩
 case h =>
  unfold za0
  conv in (fnd 19).sc=>whnf
  conv in (fnd 19).body=>whnf
  repeat' (first
   | with_reducible refine' zco ?_
   | with_reducible refine' zce ?_ ?_
   | ((with_reducible refine' RS_as ?k ?a ?_);(case k=>with_reducible first | exact zbc | exact hk_j | exact zcc | exact hk_marks | exact hk_sign | exact hk_text);(case a=>decide +kernel))
   | with_reducible refine' RS_ret ?_
   | ((with_reducible refine' RS_for ?k ?a ?b ?_ ?_);(case k=>with_reducible first | exact zbc | exact hk_j | exact zcc | exact hk_marks | exact hk_sign | exact hk_text);(case a=>decide +kernel);(case b=>rfl))
   | with_reducible refine' RB_bool ?_
   | ((with_reducible refine' RB_cmp ?a ?_ ?_);(case a=>rfl))
   | with_reducible exact RBs_and0
   | with_reducible refine' RBs_and ?_ ?_
   | with_reducible exact zd5
   | with_reducible exact RE_str
   | ((with_reducible refine' zbi ?k ?a ?b);(case k=>with_reducible first | exact zbc | exact hk_j | exact zcc | exact hk_marks | exact hk_sign | exact hk_text);(case a=>decide +kernel);(case b=>decide +kernel))
   | ((with_reducible refine' zcz ?a ?b ?c);(case a=>decide +kernel);(case b=>decide +kernel);(case c=>with_reducible first | exact zch))
   | with_reducible refine' RE_add ?_ ?_
   | with_reducible refine' RE_sub ?_ ?_
   | with_reducible refine' RE_neg ?_
   | with_reducible refine' RE_if ?_ ?_ ?_
   | ((with_reducible refine' zdx ?a ?_ ?_);(case a=>rfl))
   | ((with_reducible refine' zcr ?a ?_ ?_ ?_);(case a=>assumption))
   | with_reducible exact zb6
   | ((with_reducible refine' zas ?a ?_ ?_);(case a=>rfl))
   | with_reducible exact zcq
   | with_reducible refine' zcp ?_)
noncomputable def c_grown (disp:CallT):{ f:CS // ∀ call,zbo call disp→BltOk call→RSs G2 call (fnd 20).sc za0 (fnd 20).body f }:=by
 refine' ⟨_,fun call D B=>?h⟩
 case h =>
  unfold za0
  conv in (fnd 20).sc=>whnf
  conv in (fnd 20).body=>whnf
  repeat' (first
   | with_reducible refine' zco ?_
   | with_reducible refine' zce ?_ ?_
   | ((with_reducible refine' RS_as ?k ?a ?_);(case k=>with_reducible first | exact hk_i | exact hk_long | exact hk_more | exact hk_one | exact hk_short | exact hk_two);(case a=>decide +kernel))
   | ((with_reducible refine' RS_unp ?a ?k ?_);(case a=>exact unp_ok (by rfl) (by decide +kernel));(case k=>simp -iota only [List.map_cons,List.map_nil,hk_i,hk_long,hk_more,hk_one,hk_short,hk_two];exact rfl))
   | with_reducible refine' RS_ret ?_
   | ((with_reducible refine' RB_cmp ?a ?_ ?_);(case a=>rfl))
   | with_reducible exact RBs_and0
   | with_reducible exact zd5
   | ((with_reducible refine' zbi ?k ?a ?b);(case k=>with_reducible first | exact hk_i | exact hk_long | exact hk_more | exact hk_one | exact hk_short | exact hk_two);(case a=>decide +kernel);(case b=>decide +kernel))
   | ((with_reducible refine' zcz ?a ?b ?c);(case a=>decide +kernel);(case b=>decide +kernel);(case c=>with_reducible first | exact g_len | exact g_abs | exact zch))
   | with_reducible refine' RE_add ?_ ?_
   | with_reducible refine' RE_sub ?_ ?_
   | with_reducible refine' RE_if ?_ ?_ ?_
   | with_reducible refine' RE_list ?_
   | ((with_reducible refine' RE_cmp ?a ?_ ?_);(case a=>rfl))
   | with_reducible refine' RE_slice ?_ ?_ ?_ ?_
   | ((with_reducible refine' RE_len ?a ?b ?c ?d ?_);(case a=>assumption);(case b=>decide +kernel);(case c=>exact g_len);(case d=>rfl))
   | ((with_reducible refine' RE_range ?a ?b ?c ?d ?_);(case a=>assumption);(case b=>decide +kernel);(case c=>exact zch);(case d=>rfl))
   | ((with_reducible refine' zcr ?a ?_ ?_ ?_);(case a=>assumption))
   | ((with_reducible refine' RE_comp ?k ?a ?_ ?_ ?_);(case k=>with_reducible first | exact hk_i | exact hk_long | exact hk_more | exact hk_one | exact hk_short | exact hk_two);(case a=>decide +kernel))
   | with_reducible exact zb6
   | ((with_reducible refine' zas ?a ?_ ?_);(case a=>rfl))
   | with_reducible exact zcq
   | with_reducible exact RP_none
   | with_reducible refine' zcp ?_)
noncomputable def c_stretch (disp:CallT):{ f:CS // ∀ call,zbo call disp→BltOk call→RSs G2 call (fnd 22).sc za0 (fnd 22).body f }:=by
 refine' ⟨_,fun call D B=>?h⟩
 case h =>
  unfold za0
  conv in (fnd 22).sc=>whnf
  conv in (fnd 22).body=>whnf
  repeat' (first
   | with_reducible refine' zco ?_
   | with_reducible refine' zce ?_ ?_
   | ((with_reducible refine' RS_as ?k ?a ?_);(case k=>with_reducible first | exact hk_bound | exact zbd | exact hk_due | exact hk_each | exact hk_found | exact zbc | exact hk_kind | exact hk_least | exact zcc | exact hk_more | exact hk_number | exact hk_one | exact zb8 | exact hk_sign | exact zby | exact hk_two);(case a=>decide +kernel))
   | ((with_reducible refine' RS_tupN ?a ?k ?_);(case a=>exact tup_ok (by rfl) (by decide +kernel));(case k=>simp -iota only [List.map_cons,List.map_nil,hk_bound,zbd,hk_due,hk_each,hk_found,zbc,hk_kind,hk_least,zcc,hk_more,hk_number,hk_one,zb8,hk_sign,zby,hk_two];exact rfl))
   | with_reducible refine' RS_ret ?_
   | ((with_reducible refine' RB_val ?a ?_);(case a=>rfl))
   | with_reducible exact RBs_and0
   | with_reducible exact zd5
   | with_reducible exact RE_str
   | with_reducible exact RE_bool
   | ((with_reducible refine' zbi ?k ?a ?b);(case k=>with_reducible first | exact hk_bound | exact zbd | exact hk_due | exact hk_each | exact hk_found | exact zbc | exact hk_kind | exact hk_least | exact zcc | exact hk_more | exact hk_number | exact hk_one | exact zb8 | exact hk_sign | exact zby | exact hk_two);(case a=>decide +kernel);(case b=>decide +kernel))
   | ((with_reducible refine' zcz ?a ?b ?c);(case a=>decide +kernel);(case b=>decide +kernel);(case c=>with_reducible first | exact g_levenshtein_distance | exact g_law_written | exact g_law_grown | exact g_isinstance | exact g_bool))
   | with_reducible refine' RE_add ?_ ?_
   | with_reducible refine' RE_sub ?_ ?_
   | with_reducible refine' RE_fd ?_ ?_
   | with_reducible refine' RE_mod ?_ ?_
   | with_reducible refine' RE_mul ?_ ?_
   | with_reducible refine' RE_if ?_ ?_ ?_
   | with_reducible refine' RE_list ?_
   | ((with_reducible refine' RE_cmp ?a ?_ ?_);(case a=>rfl))
   | ((with_reducible refine' zdx ?a ?_ ?_);(case a=>rfl))
   | ((with_reducible refine' zcr ?a ?_ ?_ ?_);(case a=>assumption))
   | ((with_reducible refine' RE_comp ?k ?a ?_ ?_ ?_);(case k=>with_reducible first | exact hk_bound | exact zbd | exact hk_due | exact hk_each | exact hk_found | exact zbc | exact hk_kind | exact hk_least | exact zcc | exact hk_more | exact hk_number | exact hk_one | exact zb8 | exact hk_sign | exact zby | exact hk_two);(case a=>decide +kernel))
   | with_reducible refine' RE_boolop ?_
   | with_reducible refine' RVs_and ?_ ?_
   | with_reducible refine' RVs_one ?_
   | with_reducible exact zb6
   | ((with_reducible refine' zas ?a ?_ ?_);(case a=>rfl))
   | with_reducible exact zcq
   | with_reducible refine' zcp ?_)
noncomputable def c_countsR (disp:CallT):{ f:CS // ∀ call,zbo call disp→BltOk call→RSs G2 call (hid "row" (fnd 21).sc) za0 ((fnd 21).body.drop 2) f }:=by
 refine' ⟨_,fun call D B=>?h⟩
 case h =>
  unfold za0
  conv in (hid "row" (fnd 21).sc)=>whnf
  conv in (fnd 21).body.drop 2=>whnf
  repeat' (first
   | with_reducible exact RSs_nil
   | with_reducible refine' zco ?_
   | with_reducible refine' zce ?_ ?_
   | ((with_reducible refine' RS_as ?k ?a ?_);(case k=>with_reducible first | exact hk_below | exact zcn | exact zbc | exact hk_k | exact hk_key | exact zcc | exact zbg | exact zcg | exact hk_turns | exact hk_upto);(case a=>decide +kernel))
   | with_reducible refine' RS_ret ?_
   | with_reducible refine' RS_if ?_ ?_ ?_
   | ((with_reducible refine' RB_cmp ?a ?_ ?_);(case a=>rfl))
   | with_reducible exact zd5
   | ((with_reducible refine' zbi ?k ?a ?b);(case k=>with_reducible first | exact hk_below | exact zcn | exact zbc | exact hk_k | exact hk_key | exact zcc | exact zbg | exact zcg | exact hk_turns | exact hk_upto);(case a=>decide +kernel);(case b=>decide +kernel))
   | ((with_reducible refine' zcz ?a ?b ?c);(case a=>decide +kernel);(case b=>decide +kernel);(case c=>with_reducible first | exact zcb | exact zcv | exact g_len | exact g_min | exact zch | exact g_list))
   | with_reducible refine' RE_sub ?_ ?_
   | with_reducible refine' RE_list ?_
   | ((with_reducible refine' zdx ?a ?_ ?_);(case a=>rfl))
   | ((with_reducible refine' zcr ?a ?_ ?_ ?_);(case a=>assumption))
   | with_reducible exact zb6
   | ((with_reducible refine' zas ?a ?_ ?_);(case a=>rfl))
   | with_reducible exact zcq
   | ((with_reducible refine' RKs_consN ?k ?_ ?_);(case k=>exact nm_key))
   | with_reducible refine' zcp ?_)
open PySem PySem.Calls PyProof.Rows PySem.W PyProof PySem.StrLaws
noncomputable def sL (l:List Nat):Str:=⟨l.toArray⟩
theorem sL_len (l:List Nat):(sL l).length=l.length:=by simp -iota [sL,Str.length]
theorem sL_inj {l m:List Nat} (h:sL l=sL m):l=m:=by
 have:=congrArg (fun x:Str=>x.cps.toList) h
 simpa -iota [sL] using this
theorem idx_none_lo (hi:Option Int) (n:Nat):Builtin.Str.strSliceIndices none hi 1 n=Builtin.Str.strSliceIndices (some ((0:Nat):Int)) hi 1 n:=by
 unfold Builtin.Str.strSliceIndices
 have e:max (0:Int) (min 0 (n:Int))=0:=by omega
 simp [e]
theorem idx_none_hi (lo:Option Int) (n:Nat):Builtin.Str.strSliceIndices lo none 1 n=Builtin.Str.strSliceIndices lo (some ((n:Nat):Int)) 1 n:=by
 unfold Builtin.Str.strSliceIndices
 have e:max (0:Int) (min (n:Int) n)=n:=by omega
 have e2:¬ ((n:Int) < 0):=by omega
 simp [e,e2]
theorem sliceS_ab (l:List Nat) {a b:Nat} (hab:a≤b) (hb:b≤l.length):zdh (sL l) (some (a:Int)) (some (b:Int))=sL ((l.drop a).take (b - a)):=by
 unfold zdh
 have hlen:=sL_len l
 have h1:=strSliceIndices_plain hab (show b≤(sL l).length by omega)
 have h2:=sliced_plain (sL l) hab (show b≤(sL l).length by omega)
 dsimp only
 rw [h2,h1,List.length_map,List.length_range]
 by_cases q:(b - a == (sL l).length)=true
 ·rw [if_pos q]
  have:b - a=l.length:=by rw [← hlen];exact beq_iff_eq.mp q
  have ha:a=0:=by omega
  subst ha
  have hb':b=l.length:=by omega
  subst hb'
  simp -iota
 ·rw [if_neg q]
  rfl
theorem sliceS_drop (l:List Nat) {a:Nat} (h:a≤l.length):zdh (sL l) (some (a:Int)) none=sL (l.drop a):=by
 have:zdh (sL l) (some (a:Int)) none=zdh (sL l) (some (a:Int)) (some ((l.length:Nat):Int)):=by
  unfold zdh;rw [idx_none_hi,sL_len]
 rw [this,sliceS_ab l h (Nat.le_refl _),List.take_of_length_le (by simp -iota)]
theorem sliceS_all (l:List Nat):zdh (sL l) none none=sL l:=by
 have:zdh (sL l) none none=zdh (sL l) (some ((0:Nat):Int)) none:=by
  unfold zdh;rw [idx_none_lo]
 rw [this,sliceS_drop l (Nat.zero_le _)];rfl
theorem sliceS_neg (l:List Nat) {q:Nat} (h0:0 < q) (h:q≤l.length):zdh (sL l) none (some (-(q:Int)))=sL (l.take (l.length - q)):=by
 have:zdh (sL l) none (some (-(q:Int)))=zdh (sL l) (some ((0:Nat):Int)) (some ((l.length - q:Nat):Int)):=by
  unfold zdh
  rw [idx_none_lo,sliceIdx_neg_hi _ _ (by omega) (by rw [sL_len];omega),sL_len,show -(q:Int) + (l.length:Nat)=((l.length - q:Nat):Int) by omega]
 rw [this,sliceS_ab l (Nat.zero_le _) (by omega)];simp -iota
theorem item_pos (l:List Nat) {i:Nat} {c:Nat} (hl:l.length≤1000) (h:l[i]?=some c) (H:List AO):itemAt (.str (sL l)) (.int (i:Int)) H=some (.str (sL [c])):=by
 have hi:=(List.getElem?_eq_some_iff.mp h).1
 unfold itemAt
 simp only [sL_len]
 rw [if_pos (by omega)]
 have e:seqIndex? (i:Int) l.length=some i:=by
  unfold seqIndex?
  have h1:¬ ((i:Int) < 0):=by omega
  simp [h1,hi]
 simp only [e,Option.bind_eq_bind,Option.bind_some]
 have e2:(sL l).cps[i]?=some c:=by simp [sL,h]
 rw [e2];rfl
theorem item_neg (l:List Nat) {q:Nat} {c:Nat} (hl:l.length≤1000) (hq:q < l.length) (h:l[l.length - 1 - q]?=some c) (H:List AO):itemAt (.str (sL l)) (.int (-(q:Int) - 1)) H=some (.str (sL [c])):=by
 unfold itemAt
 simp only [sL_len]
 rw [if_pos (by omega)]
 have e:seqIndex? (-(q:Int) - 1) l.length=some (l.length - 1 - q):=by
  unfold seqIndex?
  have h1:-(q:Int) - 1 < 0:=by omega
  simp only [h1,if_true]
  rw [if_pos (by simp only [Bool.and_eq_true,decide_eq_true_eq];omega)]
  congr 1;omega
 simp only [e,Option.bind_eq_bind,Option.bind_some]
 have e2:(sL l).cps[l.length - 1 - q]?=some c:=by simp [sL,h]
 rw [e2];rfl
noncomputable section
theorem zdg {α β γ:Type} (a:α) (b:β) (f:α→β→Option γ):ob (some (a,b)) f=f a b:=rfl
theorem ze7 {α γ:Type} (a:α) (f:α→Option γ):o1 (some a) f=f a:=rfl
theorem ox_s {γ:Type} (a:AFlow) (v:Vars) (H:List AO) (f:AFlow→Vars→List AO→Option γ):ox (some (a,v,H)) f=f a v H:=rfl
theorem bi_t {α:Type} (x y:α):bi true x y=x:=rfl
theorem bi_f {α:Type} (x y:α):bi false x y=y:=rfl
theorem zae {j k:Nat} {v:AV} {l:Vars}:za2 j (zab k v l)=if k=j then some v else za2 j l:=by
 rw [zbj,setV2_eq,look_setV,zbj]
theorem zac {j k:Nat} {v x:AV} {l:Vars} (h:Nat.beq k j=false) (e:za2 j l=some x):za2 j (zab k v l)=some x:=by
 rw [zae,if_neg (Nat.ne_of_beq_eq_false h)];exact e
theorem zaz {k:Nat} {v:AV} {l:Vars}:za2 k (zab k v l)=some v:=by
 rw [zae,if_pos rfl]
theorem za5 {k:Nat} {v:Vars} {x:AV} (h:za2 k v=some x) (H:List AO):za8 k v H=some (x,H):=by unfold za8;rw [h];rfl
theorem zb5 {f g:CS} {v v1:Vars} {H H1:List AO} (h:f v H=some (.next,v1,H1)):zcx f g v H=g v1 H1:=by
 unfold zcx;rw [h,ox_s,zbl]
theorem seq_r {f g:CS} {v v1:Vars} {H H1:List AO} {x:AV} (h:f v H=some (.ret x,v1,H1)):zcx f g v H=some (.ret x,v1,H1):=by
 unfold zcx;rw [h,ox_s,zbl]
theorem as_s {k:Nat} {f:CE} {v:Vars} {H H1:List AO} {x:AV} (h:f v H=some (x,H1)):cAs k f v H=some (.next,zab k x v,H1):=by
 unfold cAs;rw [h,zdg,zbl]
theorem and_t {f g:CB} {v:Vars} {H H1:List AO} (h:f v H=some (true,H1)):tAnd f g v H=g v H1:=by unfold tAnd;rw [h];rfl
theorem and_f {f g:CB} {v:Vars} {H H1:List AO} (h:f v H=some (false,H1)):tAnd f g v H=some (false,H1):=by unfold tAnd;rw [h];rfl
theorem or_t {f g:CB} {v:Vars} {H H1:List AO} (h:f v H=some (true,H1)):tOr f g v H=some (true,H1):=by unfold tOr;rw [h];rfl
theorem or_f {f g:CB} {v:Vars} {H H1:List AO} (h:f v H=some (false,H1)):tOr f g v H=g v H1:=by unfold tOr;rw [h];rfl
theorem if_s {α:Type} {t:CB} {f g:Vars→List AO→Option α} {v:Vars} {H H1:List AO} {b:Bool} (h:t v H=some (b,H1)):cIf t f g v H=if b then f v H1 else g v H1:=by
 unfold cIf;rw [h,zdg,zay]
theorem val_s {f:CE} {v:Vars} {H H1:List AO} {x:AV} {b:Bool} (h:f v H=some (x,H1)) (ht:truth x H1=some b):tVal f v H=some (b,H1):=by unfold tVal;rw [h,zdg,ht];rfl
theorem truth_sL {l:List Nat} (hl:l.length≤1000) (H:List AO):truth (.str (sL l)) H=some (!l.isEmpty):=by
 show (if (sL l).length≤1048576 then some ((sL l).length != 0) else none)=_
 rw [sL_len,if_pos (by omega)]
 cases l<;>rfl
noncomputable def hd2:List Nat→List Nat→Bool
 | c::_,d::_=>c == d
 | _,_=>false
theorem slice_s {fv:CE} {fl fu:Vars→List AO→Option (Option Int×List AO)} {v:Vars} {H H1 H2 H3:List AO} {l:List Nat} {lo up:Option Int} (hl:l.length≤1000) (h1:fv v H=some (.str (sL l),H1)) (h2:fl v H1=some (lo,H2)) (h3:fu v H2=some (up,H3)) :
  cSlice fv fl fu pNone v H=some (.str (zdh (sL l) lo up),H3):=by
 unfold cSlice
 rw [h1,zdg,h2,zdg,h3,zdg]
 show (if (none:Option Int)=none∧(sL l).length≤1048576 then some (AV.str (zdh (sL l) lo up),H3) else none)=_
 rw [if_pos ⟨rfl,by rw [sL_len];omega⟩]
theorem some_i {f:CE} {v:Vars} {H H1:List AO} {i:Int} (h:f v H=some (.int i,H1)):pSome f v H=some (some i,H1):=by unfold pSome;rw [h,zdg]
theorem some_n {f:CE} {v:Vars} {H H1:List AO} (h:f v H=some (.lit .none,H1)):pSome f v H=some (none,H1):=by unfold pSome;rw [h,zdg]
theorem zdj {g:AV→AV→List AO→Option Bool} {fl fr:CE} {v:Vars} {H H1 H2:List AO} {a b:AV} {q:Bool} (h1:fl v H=some (a,H1)) (h2:fr v H1=some (b,H2)) (h3:g a b H2=some q):zdv g fl fr v H=some (q,H2):=by
 unfold zdv;rw [h1,zdg,h2,zdg,h3];rfl
theorem zd4 {fv fi:CE} {v:Vars} {H H1 H2:List AO} {a i x:AV} (h1:fv v H=some (a,H1)) (h2:fi v H1=some (i,H2)) (h3:itemF a i H2=some x):zcj fv fi v H=some (x,H2):=by
 unfold zcj;rw [h1,zdg,h2,zdg,h3];rfl
theorem itemF_str {s:Str} {i x:AV} {H:List AO} (h:itemAt (.str s) i H=some x):itemF (.str s) i H=some x:=h
theorem zb2 {g:AV→AV→List AO→Option (AV×List AO)} {fl fr:CE} {v:Vars} {H H1 H2 H3:List AO} {a b x:AV} (h1:fl v H=some (a,H1)) (h2:fr v H1=some (b,H2)) (h3:g a b H2=some (x,H3)):zbh g fl fr v H=some (x,H3):=by
 unfold zbh;rw [h1,zdg,h2,zdg];exact h3
theorem aug_s {g:Int→Int→Int} {k:Nat} {f:CE} {v:Vars} {H H1:List AO} {i j:Int} (h1:za2 k v=some (.int i)) (h2:f v H=some (.int j,H1)):cAug g k f v H=some (.next,zab k (.int (g i j)) v,H1):=by
 unfold cAug;rw [h1,ze7,h2,zdg];show force _ _=_;rw [zbl]
theorem len_str {f:CE} {v:Vars} {H H1:List AO} {l:List Nat} (hl:l.length≤1000) (h:f v H=some (.str (sL l),H1)):cLen f v H=some (.int (l.length:Nat),H1):=by
 unfold cLen
 rw [h,zdg]
 show bi (Nat.ble (sL l).length 1048576) (some (AV.int (Int.ofNat (sL l).length),H1)) none=_
 rw [sL_len,Nat.ble_eq.mpr (by omega),bi_t];rfl
theorem za9 (x:AV) (v:Vars) (H:List AO):za1 x v H=some (x,H):=rfl
theorem eq_str (a b:Str) (H:List AO):gOf .Eq (.str a) (.str b) H=some (decide (a=b)):=by rw [gOf_ok];rfl
noncomputable def tW1:CB:=tAnd (tVal (cSlice (za8 zck) (pSome (za8 zd0)) pNone pNone)) (tAnd (tVal (cSlice (za8 kk_b) (pSome (za8 zd0)) pNone pNone)) (tAnd (zdv (gOf CmpOp.Eq) (zcj (za8 zck) (za8 zd0)) (zcj (za8 kk_b) (za8 zd0))) tTrue))
theorem tW1_s {v:Vars} {H:List AO} {l m:List Nat} {k:Nat} (ha:za2 zck v=some (.str (sL l))) (hb:za2 kk_b v=some (.str (sL m))) (hp:za2 zd0 v=some (.int (k:Nat))) (hk:k≤l.length) (hk2:k≤m.length) (hl:l.length≤1000) (hm:m.length≤1000) :
  tW1 v H=some (hd2 (l.drop k) (m.drop k),H):=by
 unfold tW1
 have h1:cSlice (za8 zck) (pSome (za8 zd0)) pNone pNone v H=some (.str (sL (l.drop k)),H):=by
  rw [slice_s hl (za5 ha H) (some_i (za5 hp H)) (up:=none) (H3:=H) rfl,sliceS_drop l hk]
 have h2:cSlice (za8 kk_b) (pSome (za8 zd0)) pNone pNone v H=some (.str (sL (m.drop k)),H):=by
  rw [slice_s hm (za5 hb H) (some_i (za5 hp H)) (up:=none) (H3:=H) rfl,sliceS_drop m hk2]
 have t1:=val_s h1 (truth_sL (by simp -iota;omega) _)
 have t2:=val_s h2 (truth_sL (by simp -iota;omega) _)
 cases e1:l.drop k with
 | nil=>rw [e1] at t1;rw [and_f t1];rfl
 | cons c cs =>
  rw [e1] at t1
  rw [and_t t1]
  cases e2:m.drop k with
  | nil=>rw [e2] at t2;rw [and_f t2];rfl
  | cons d ds =>
   rw [e2] at t2
   rw [and_t t2]
   have i1:l[k]?=some c:=by have:=congrArg (·[0]?) e1;simpa -iota using this
   have i2:m[k]?=some d:=by have:=congrArg (·[0]?) e2;simpa -iota using this
   have g1:=zd4 (za5 ha H) (za5 hp H) (itemF_str (item_pos l hl i1 H))
   have g2:=zd4 (za5 hb H) (za5 hp H) (itemF_str (item_pos m hm i2 H))
   have q:=zdj g1 g2 (eq_str _ _ H)
   have hcd:decide (sL [c]=sL [d])=(c == d):=by
    by_cases z:c=d
    ·subst z;simp -iota
    ·have:sL [c]≠sL [d]:=fun y=>z (by have:=sL_inj y;simpa -iota using this)
     simp -iota [z,this]
   rw [hcd] at q
   cases hz:c == d with
   | true=>rw [hz] at q;rw [and_t q];show tTrue v H=some (c == d,H);rw [hz];rfl
   | false=>rw [hz] at q;rw [and_f q];show some (false,H)=some (c == d,H);rw [hz]
theorem wh_e {t:CB} {b:CS} {n:Nat} {v:Vars} {H:List AO}:cWh t b (n + 1) v H=ob (t v H) fun q H=>bi q (ox (b v H) fun r vars H=>AFlow.rec (motive:=fun _=>Option ExR) (cWh t b n vars H) (some (.next,vars,H)) (fun v=>some (.ret v,vars,H)) r) (some (.next,v,H)):=rfl
theorem wh_f {t:CB} {b:CS} {n:Nat} {v:Vars} {H H1:List AO} (h:t v H=some (false,H1)):cWh t b (n + 1) v H=some (.next,v,H1):=by
 rw [wh_e,h];rfl
theorem wh_t {t:CB} {b:CS} {n:Nat} {v v2:Vars} {H H1 H2:List AO} (h:t v H=some (true,H1)) (hb:b v H1=some (.next,v2,H2)):cWh t b (n + 1) v H=cWh t b n v2 H2:=by
 rw [wh_e,h,zdg,bi_t,hb];rfl
noncomputable def lcp:List Nat→List Nat→Nat
 | c::l,d::m=>if c=d then lcp l m + 1 else 0
 | _,_=>0
theorem lcp_le:∀ (l m:List Nat),lcp l m≤l.length∧lcp l m≤m.length
 | [],_=>by simp -iota [lcp]
 | _::_,[]=>by simp -iota [lcp]
 | c::l,d::m=>by
  have:=lcp_le l m
  simp -iota only [lcp]
  split<;>simp -iota<;>omega
noncomputable def b1:CS:=cAug Int.add zd0 (za1 (AV.int 1))
theorem loop1 {l m:List Nat} (hl:l.length≤1000) (hm:m.length≤1000) {H:List AO}:∀ (n k:Nat) (v:Vars),za2 zck v=some (.str (sL l))→za2 kk_b v=some (.str (sL m))→za2 zd0 v=some (.int (k:Nat))→k≤l.length→k≤m.length→lcp (l.drop k) (m.drop k) < n →
  ∃ v',cWh tW1 b1 n v H=some (.next,v',H)∧za2 zd0 v'=some (.int ((k + lcp (l.drop k) (m.drop k):Nat)))∧∀ j,j≠zd0→za2 j v'=za2 j v:=by
 intro n
 induction n with
 | zero=>intro k v _ _ _ _ _ h;omega
 | succ n ih =>
  intro k v ha hb hp hk hk2 hn
  have ht:=tW1_s (H:=H) ha hb hp hk hk2 hl hm
  cases e1:l.drop k with
  | nil =>
   rw [e1] at ht
   exact ⟨v,wh_f ht,by rw [hp];simp [lcp],fun _ _=>rfl⟩
  | cons c cs =>
   cases e2:m.drop k with
   | nil =>
    rw [e1,e2] at ht
    exact ⟨v,wh_f ht,by rw [hp];simp [lcp],fun _ _=>rfl⟩
   | cons d ds =>
    rw [e1,e2] at ht
    by_cases q:c=d
    ·have ht':tW1 v H=some (true,H):=by rw [ht];simp [hd2,q]
     have hb1:b1 v H=some (.next,zab zd0 (.int ((k:Int) + 1)) v,H):=aug_s hp rfl
     have k1:k < l.length:=by have:=congrArg List.length e1;simp at this;omega
     have k2:k < m.length:=by have:=congrArg List.length e2;simp at this;omega
     have d1:l.drop (k + 1)=cs:=by have:=congrArg (List.drop 1) e1;simpa [List.drop_drop,Nat.add_comm] using this
     have d2:m.drop (k + 1)=ds:=by have:=congrArg (List.drop 1) e2;simpa [List.drop_drop,Nat.add_comm] using this
     have hlc:lcp (c::cs) (d::ds)=lcp cs ds + 1:=by simp [lcp,q]
     rw [e1,e2,hlc] at hn
     obtain ⟨v',w1,w2,w3⟩:=ih (k + 1) (zab zd0 (.int ((k:Int) + 1)) v) (zac (by decide +kernel) ha) (zac (by decide +kernel) hb) (by rw [zae,if_pos rfl];rfl) (by omega) (by omega) (by rw [d1,d2];omega)
     refine ⟨v',(wh_t ht' hb1).trans w1,?_,fun j hj=>?_⟩
     ·rw [w2,d1,d2,hlc];congr 2;omega
     ·rw [w3 j hj,zae,if_neg (Ne.symm hj)]
    ·have ht':tW1 v H=some (false,H):=by rw [ht];simp [hd2,q]
     exact ⟨v,wh_f ht',by rw [hp];simp [lcp,q],fun _ _=>rfl⟩
end
noncomputable section
noncomputable def upP:Vars→List AO→Option (Option Int×List AO):=pSome (cOr (za8 zcf) (za1 (AV.lit Value.none)))
noncomputable def upV (q:Nat):Option Int:=if q=0 then none else some (-(q:Int))
theorem upP_s {v:Vars} {q:Nat} (hp:za2 zcf v=some (.int (-(q:Int)))) (H:List AO):upP v H=some (upV q,H):=by
 unfold upP upV cOr
 by_cases h:q=0
 ·subst h
  rw [if_pos rfl]
  refine some_n ?_
  rw [za5 hp,zdg];rfl
 ·rw [if_neg h]
  refine some_i ?_
  rw [za5 hp,zdg]
  show o1 (some (-(q:Int) != 0)) _=_
  rw [ze7,show (-(q:Int) != 0)=true from by simp -iota;omega,bi_t]
theorem slice_up (l:List Nat) {q:Nat} (h:q≤l.length):zdh (sL l) none (upV q)=sL (l.take (l.length - q)):=by
 unfold upV
 by_cases h0:q=0
 ·subst h0;rw [if_pos rfl,sliceS_all];simp -iota
 ·rw [if_neg h0,sliceS_neg l (by omega) h]
noncomputable def slA:CE:=cSlice (za8 zck) pNone upP pNone
noncomputable def slB:CE:=cSlice (za8 kk_b) pNone upP pNone
theorem slA_s {v:Vars} {l:List Nat} {q:Nat} (ha:za2 zck v=some (.str (sL l))) (hp:za2 zcf v=some (.int (-(q:Int)))) (hq:q≤l.length) (hl:l.length≤1000) (H:List AO):slA v H=some (.str (sL (l.take (l.length - q))),H):=by
 unfold slA;rw [slice_s hl (za5 ha H) (lo:=none) (H2:=H) rfl (upP_s hp H),slice_up l hq]
theorem slB_s {v:Vars} {l:List Nat} {q:Nat} (ha:za2 kk_b v=some (.str (sL l))) (hp:za2 zcf v=some (.int (-(q:Int)))) (hq:q≤l.length) (hl:l.length≤1000) (H:List AO):slB v H=some (.str (sL (l.take (l.length - q))),H):=by
 unfold slB;rw [slice_s hl (za5 ha H) (lo:=none) (H2:=H) rfl (upP_s hp H),slice_up l hq]
noncomputable def tW2:CB:=tAnd (tVal slA) (tAnd (tVal slB) (tAnd (zdv (gOf CmpOp.Eq) (zcj (za8 zck) (zbh gSub (za8 zcf) (za1 (AV.int 1)))) (zcj (za8 kk_b) (zbh gSub (za8 zcf) (za1 (AV.int 1))))) tTrue))
noncomputable def b2:CS:=cAug Int.sub zcf (za1 (AV.int 1))
theorem rev_hd {l:List Nat} {q c:Nat} {cs:List Nat} (h:l.reverse.drop q=c::cs):q < l.length∧l[l.length - 1 - q]?=some c:=by
 have h1:q < l.length:=by have:=congrArg List.length h;simp -iota at this;omega
 have h2:=congrArg (·[0]?) h
 simp -iota only [List.getElem?_drop,Nat.add_zero,List.getElem?_cons_zero] at h2
 rw [List.getElem?_reverse h1] at h2
 exact ⟨h1,h2⟩
theorem take_rev (l:List Nat) (q:Nat):l.take (l.length - q)=(l.reverse.drop q).reverse:=by
 rw [List.drop_reverse,List.reverse_reverse]
theorem tW2_s {v:Vars} {H:List AO} {l m:List Nat} {q:Nat} (ha:za2 zck v=some (.str (sL l))) (hb:za2 kk_b v=some (.str (sL m))) (hp:za2 zcf v=some (.int (-(q:Int)))) (hk:q≤l.length) (hk2:q≤m.length) (hl:l.length≤1000) (hm:m.length≤1000) :
  tW2 v H=some (hd2 (l.reverse.drop q) (m.reverse.drop q),H):=by
 unfold tW2
 have t1:=val_s (slA_s ha hp hk hl H) (truth_sL (by simp -iota;omega) H)
 have t2:=val_s (slB_s hb hp hk2 hm H) (truth_sL (by simp -iota;omega) H)
 rw [take_rev] at t1 t2
 cases e1:l.reverse.drop q with
 | nil=>rw [e1] at t1;rw [and_f t1];rfl
 | cons c cs =>
  rw [e1] at t1
  rw [show (!(c::cs).reverse.isEmpty)=true from by simp] at t1
  rw [and_t t1]
  cases e2:m.reverse.drop q with
  | nil=>rw [e2] at t2;rw [and_f t2];rfl
  | cons d ds =>
   rw [e2] at t2
   rw [show (!(d::ds).reverse.isEmpty)=true from by simp] at t2
   rw [and_t t2]
   obtain ⟨k1,i1⟩:=rev_hd e1
   obtain ⟨k2,i2⟩:=rev_hd e2
   have g0:zbh gSub (za8 zcf) (za1 (AV.int 1)) v H=some (.int (-(q:Int) - 1),H):=zb2 (za5 hp H) (za9 _ _ _) rfl
   have g1:=zd4 (za5 ha H) g0 (itemF_str (item_neg l hl k1 i1 H))
   have g2:=zd4 (za5 hb H) g0 (itemF_str (item_neg m hm k2 i2 H))
   have q2:=zdj g1 g2 (eq_str _ _ H)
   have hcd:decide (sL [c]=sL [d])=(c == d):=by
    by_cases z:c=d
    ·subst z;simp -iota
    ·have:sL [c]≠sL [d]:=fun y=>z (by have:=sL_inj y;simpa -iota using this)
     simp -iota [z,this]
   rw [hcd] at q2
   cases hz:c == d with
   | true=>rw [hz] at q2;rw [and_t q2];show tTrue v H=some (c == d,H);rw [hz];rfl
   | false=>rw [hz] at q2;rw [and_f q2];show some (false,H)=some (c == d,H);rw [hz]
theorem loop2 {l m:List Nat} (hl:l.length≤1000) (hm:m.length≤1000) {H:List AO}:∀ (n q:Nat) (v:Vars),za2 zck v=some (.str (sL l))→za2 kk_b v=some (.str (sL m))→za2 zcf v=some (.int (-(q:Int)))→q≤l.length→q≤m.length→lcp (l.reverse.drop q) (m.reverse.drop q) < n →
  ∃ v',cWh tW2 b2 n v H=some (.next,v',H)∧za2 zcf v'=some (.int (-((q + lcp (l.reverse.drop q) (m.reverse.drop q):Nat):Int)))∧∀ j,j≠zcf→za2 j v'=za2 j v:=by
 intro n
 induction n with
 | zero=>intro q v _ _ _ _ _ h;omega
 | succ n ih =>
  intro k v ha hb hp hk hk2 hn
  have ht:=tW2_s (H:=H) ha hb hp hk hk2 hl hm
  cases e1:l.reverse.drop k with
  | nil =>
   rw [e1] at ht
   exact ⟨v,wh_f ht,by rw [hp];simp [lcp],fun _ _=>rfl⟩
  | cons c cs =>
   cases e2:m.reverse.drop k with
   | nil =>
    rw [e1,e2] at ht
    exact ⟨v,wh_f ht,by rw [hp];simp [lcp],fun _ _=>rfl⟩
   | cons d ds =>
    rw [e1,e2] at ht
    by_cases q:c=d
    ·have ht':tW2 v H=some (true,H):=by rw [ht];simp [hd2,q]
     have hb1:b2 v H=some (.next,zab zcf (.int (-(k:Int) - 1)) v,H):=aug_s hp rfl
     have k1:k < l.length:=(rev_hd e1).1
     have k2:k < m.length:=(rev_hd e2).1
     have d1:l.reverse.drop (k + 1)=cs:=by have:=congrArg (List.drop 1) e1;simpa [List.drop_drop,Nat.add_comm] using this
     have d2:m.reverse.drop (k + 1)=ds:=by have:=congrArg (List.drop 1) e2;simpa [List.drop_drop,Nat.add_comm] using this
     have hlc:lcp (c::cs) (d::ds)=lcp cs ds + 1:=by simp [lcp,q]
     rw [e1,e2,hlc] at hn
     obtain ⟨v',w1,w2,w3⟩:=ih (k + 1) (zab zcf (.int (-(k:Int) - 1)) v) (zac (by decide +kernel) ha) (zac (by decide +kernel) hb)
      (by rw [zae,if_pos rfl];congr 2;omega) (by omega) (by omega) (by rw [d1,d2];omega)
     refine ⟨v',(wh_t ht' hb1).trans w1,?_,fun j hj=>?_⟩
     ·rw [w2,d1,d2,hlc];congr 2;omega
     ·rw [w3 j hj,zae,if_neg (Ne.symm hj)]
    ·have ht':tW2 v H=some (false,H):=by rw [ht];simp [hd2,q]
     exact ⟨v,wh_f ht',by rw [hp];simp [lcp,q],fun _ _=>rfl⟩
end
noncomputable section
noncomputable def low (c:Nat):Nat:=bi (Nat.ble 65 c) (bi (Nat.ble c 90) (c + 32) c) c
noncomputable def subN (c d:Nat):Nat:=bi (Nat.beq c d) 0 (bi (Nat.beq (low c) (low d)) 1 2)
noncomputable def subF (args:List AV) (H:List AO):Option (AV×List AO):=(arg2 args).bind fun q=>(strOf q.1).bind fun x=>(strOf q.2).bind fun y=>(one x.cps.toList).bind fun c=>(one y.cps.toList).bind fun d=>if c < 128∧d < 128 then some (.int (subN c d:Nat),H) else none
set_option tactic.hygienic true in
theorem sL_of {x:Str} {l:List Nat} (h:x.cps.toList=l):x=sL l:=by
 subst h
 cases x;rename_i a;cases a;rfl
noncomputable def subCF:CF:=fun args kws H=>match kws with
 | []=>subF args H
 | _=>none
noncomputable def dLev:CallT:=cDisp [(64,subCF)] []
theorem subF_s {c d:Nat} (hc:c < 128) (hd:d < 128) (H:List AO):subF [.str (sL [c]),.str (sL [d])] H=some (.int (subN c d:Nat),H):=by
 show (if c < 128∧d < 128 then some (AV.int (subN c d:Nat),H) else none)=_
 rw [if_pos ⟨hc,hd⟩]
theorem call_s {D:CallT} {x z:AV} {g:Vars→List AO→Option (List AV×List AO)} {v:Vars} {H H1 H2:List AO} {xs:List AV} (hg:g v H=some (xs,H1)) (hd:D x xs [] H1=some (z,H2)):zc1 D (za1 x) g kNil v H=some (z,H2):=by
 unfold zc1
 rw [za9,zdg,hg,zdg]
 exact hd
theorem zad {f:CE} {g:Vars→List AO→Option (List AV×List AO)} {v:Vars} {H H1 H2:List AO} {x:AV} {xs:List AV} (hf:f v H=some (x,H1)) (hg:g v H1=some (xs,H2)):zaa f g v H=some (x::xs,H2):=by
 unfold zaa;rw [hf,zdg,hg,zdg]
theorem zc8 (v:Vars) (H:List AO):zcd v H=some ([],H):=rfl
theorem min_s (i j:Nat) (H:List AO):dLev (.lit (.builtin "min")) [.int (i:Int),.int (j:Int)] [] H=some (.int ((Nat.min i j:Nat):Int),H):=by
 show builtins "min" [.int (i:Int),.int (j:Int)] H=_
 have:builtins "min" [.int (i:Int),.int (j:Int)] H=some (.int (if (j:Int) < i then (j:Int) else i),H):=by
  unfold builtins
  rw [if_neg (by decide),if_neg (by decide),if_pos rfl];rfl
 rw [this]
 congr 3
 show _=((min i j:Nat):Int)
 split<;>omega
theorem add_s (i j:Nat) (H:List AO):gAdd (.int (i:Int)) (.int (j:Int)) H=some (.int ((i + j:Nat):Int),H):=rfl
noncomputable def rowA (row:List Nat):List AV:=row.map fun (n:Nat)=>AV.int (n:Int)
theorem rowA_get {row:List Nat} {i x:Nat} (h:row[i]?=some x):(rowA row)[i]?=some (.int (x:Int)):=by simp -iota [rowA,h]
theorem rowA_set {row:List Nat} {i x:Nat}:(rowA row).set i (.int (x:Int))=rowA (row.set i x):=by simp -iota [rowA,List.map_set]
noncomputable def BI:CS:=zcx (cAs zb9 (zbh gAdd (za8 zaq) (zc1 dLev (za1 (AV.lit (Value.ref 64))) (zaa (za8 kk_bchar) (zaa (zcj (za8 zck) (za8 zct)) zcd)) kNil)))
 (zcx (cAs zaq (zcj (za8 zaj) (za8 zct)))
  (zcx (cAs zat (zbh gAdd (zc1 dLev (za1 (AV.lit (Value.builtin "min"))) (zaa (za8 zak) (zaa (za8 zaq) zcd)) kNil) (za1 (AV.int 2))))
   (zcx (cAs zak (zc1 dLev (za1 (AV.lit (Value.builtin "min"))) (zaa (za8 zat) (zaa (za8 zb9) zcd)) kNil))
    (zcx (cSet (za8 zaj) (za8 zct) (za8 zak)) (cIf (zdv (gOf CmpOp.Lt) (za8 zak) (za8 zb4)) (cAs zb4 (za8 zak)) cSkip)))))
noncomputable def tmpKeys:List Nat:=[zct,zb9,zaq,zat,zak,zb4]
structure InSt (v:Vars) (as:List Nat) (bc d r m:Nat):Prop where
 a:za2 zck v=some (.str (sL as))
 bc:za2 kk_bchar v=some (.str (sL [bc]))
 row:za2 zaj v=some (.obj 1)
 d:za2 zaq v=some (.int (d:Int))
 r:za2 zak v=some (.int (r:Int))
 m:za2 zb4 v=some (.int (m:Int))
theorem lt_s (i j:Nat) (H:List AO):gOf .Lt (.int (i:Int)) (.int (j:Int)) H=some (decide (i < j)):=by
 rw [gOf_ok]
 show some (decide ((i:Int) < j))=_
 congr 1
 simp -iota
theorem inner_step {v:Vars} {as:List Nat} {bc d r m i c x:Nat} {row:List Nat} {h0:AO} {tl:List AO} (I:InSt v as bc d r m) (hi:za2 zct v=some (.int (i:Int))) (hl:as.length≤1000) (hc:as[i]?=some c) (hx:row[i]?=some x) (c1:c < 128) (c2:bc < 128) :
  ∃ v',BI v (h0::.list (rowA row)::tl)=some (.next,v',h0::.list (rowA (row.set i (Nat.min (Nat.min r x + 2) (d + subN bc c))))::tl) ∧
   InSt v' as bc x (Nat.min (Nat.min r x + 2) (d + subN bc c)) (Nat.min m (Nat.min (Nat.min r x + 2) (d + subN bc c)))∧(∀ j,j∉tmpKeys→za2 j v'=za2 j v):=by
 generalize hs:d + subN bc c=s
 generalize hr':Nat.min (Nat.min r x + 2) s=r'
 have e1:cAs zb9 (zbh gAdd (za8 zaq) (zc1 dLev (za1 (AV.lit (Value.ref 64))) (zaa (za8 kk_bchar) (zaa (zcj (za8 zck) (za8 zct)) zcd)) kNil)) v (h0::.list (rowA row)::tl) =
   some (.next,zab zb9 (.int (s:Int)) v,h0::.list (rowA row)::tl):=by
  refine as_s (zb2 (za5 I.d _) (call_s (zad (za5 I.bc _) (zad (zd4 (za5 I.a _) (za5 hi _) (itemF_str (item_pos as hl hc _))) (zc8 _ _))) (z:=.int (subN bc c:Nat)) (H2:=h0::.list (rowA row)::tl) ?_) ?_)
  ·exact subF_s c2 c1 _
  ·rw [add_s,hs]
 generalize hv1:zab zb9 (.int (s:Int)) v=v1 at e1
 have l1:∀ j,j≠zb9→za2 j v1=za2 j v:=fun j hj=>by rw [← hv1,zae,if_neg (Ne.symm hj)]
 have e2:cAs zaq (zcj (za8 zaj) (za8 zct)) v1 (h0::.list (rowA row)::tl)=some (.next,zab zaq (.int (x:Int)) v1,h0::.list (rowA row)::tl):=by
  refine as_s (zd4 (za5 (by rw [l1 _ (by decide +kernel)];exact I.row) _) (za5 (by rw [l1 _ (by decide +kernel)];exact hi) _) ?_)
  show o1 (lof (h0::.list (rowA row)::tl) 1) (fun xs=>nth xs i)=_
  show nth (rowA row) i=_
  rw [zaw];exact rowA_get hx
 generalize hv2:zab zaq (.int (x:Int)) v1=v2 at e2
 have l2:∀ j,j≠zaq→za2 j v2=za2 j v1:=fun j hj=>by rw [← hv2,zae,if_neg (Ne.symm hj)]
 have d2:za2 zaq v2=some (.int (x:Int)):=by rw [← hv2];exact zaz
 have r2:za2 zak v2=some (.int (r:Int)):=by rw [l2 _ (by decide +kernel),l1 _ (by decide +kernel)];exact I.r
 have e3:cAs zat (zbh gAdd (zc1 dLev (za1 (AV.lit (Value.builtin "min"))) (zaa (za8 zak) (zaa (za8 zaq) zcd)) kNil) (za1 (AV.int 2))) v2 (h0::.list (rowA row)::tl) =
   some (.next,zab zat (.int ((Nat.min r x + 2:Nat):Int)) v2,h0::.list (rowA row)::tl):=by
  refine as_s (zb2 (call_s (zad (za5 r2 _) (zad (za5 d2 _) (zc8 _ _))) (min_s _ _ _)) (za9 _ _ _) rfl)
 generalize hv3:zab zat (.int ((Nat.min r x + 2:Nat):Int)) v2=v3 at e3
 have l3:∀ j,j≠zat→za2 j v3=za2 j v2:=fun j hj=>by rw [← hv3,zae,if_neg (Ne.symm hj)]
 have i3:za2 zat v3=some (.int ((Nat.min r x + 2:Nat):Int)):=by rw [← hv3];exact zaz
 have s3:za2 zb9 v3=some (.int (s:Int)):=by rw [l3 _ (by decide +kernel),l2 _ (by decide +kernel),← hv1,zae,if_pos rfl]
 have e4:cAs zak (zc1 dLev (za1 (AV.lit (Value.builtin "min"))) (zaa (za8 zat) (zaa (za8 zb9) zcd)) kNil) v3 (h0::.list (rowA row)::tl) =
   some (.next,zab zak (.int (r':Int)) v3,h0::.list (rowA row)::tl):=by
  refine as_s ?_
  rw [call_s (zad (za5 i3 _) (zad (za5 s3 _) (zc8 _ _))) (min_s _ _ _),hr']
 generalize hv4:zab zak (.int (r':Int)) v3=v4 at e4
 have l4:∀ j,j≠zak→za2 j v4=za2 j v3:=fun j hj=>by rw [← hv4,zae,if_neg (Ne.symm hj)]
 have r4:za2 zak v4=some (.int (r':Int)):=by rw [← hv4];exact zaz
 have back:∀ j,j≠zb9→j≠zaq→j≠zat→j≠zak→za2 j v4=za2 j v:=fun j h1 h2 h3 h4=>by rw [l4 j h4,l3 j h3,l2 j h2,l1 j h1]
 have hil:i < row.length:=(List.getElem?_eq_some_iff.mp hx).1
 have e5:cSet (za8 zaj) (za8 zct) (za8 zak) v4 (h0::.list (rowA row)::tl)=some (.next,v4,h0::.list (rowA (row.set i r'))::tl):=by
  unfold cSet
  rw [za5 r4,zdg,za5 (show za2 zaj v4=some (.obj 1) by rw [back _ (by decide +kernel) (by decide +kernel) (by decide +kernel) (by decide +kernel)];exact I.row),zdg,
   za5 (show za2 zct v4=some (.int (i:Int)) by rw [back _ (by decide +kernel) (by decide +kernel) (by decide +kernel) (by decide +kernel)];exact hi),zdg]
  show bi (decide ((0:Int)≤(i:Int)) && decide ((i:Int) < ((rowA row).length:Nat))) (some (AFlow.next,v4,h0::.list ((rowA row).set (i:Int).toNat (.int (r':Int)))::tl)) none=_
  have h1:decide ((0:Int)≤(i:Int))=true:=by simp -iota
  have h2:decide ((i:Int) < ((rowA row).length:Nat))=true:=by simp -iota [rowA];omega
  rw [h1,h2,Bool.true_and,bi_t,Int.toNat_natCast,rowA_set]
 have m4:za2 zb4 v4=some (.int (m:Int)):=by rw [back _ (by decide +kernel) (by decide +kernel) (by decide +kernel) (by decide +kernel)];exact I.m
 have e6:∃ v',cIf (zdv (gOf CmpOp.Lt) (za8 zak) (za8 zb4)) (cAs zb4 (za8 zak)) cSkip v4 (h0::.list (rowA (row.set i r'))::tl)=some (.next,v',h0::.list (rowA (row.set i r'))::tl) ∧
   za2 zb4 v'=some (.int ((Nat.min m r':Nat):Int))∧∀ j,j≠zb4→za2 j v'=za2 j v4:=by
  have ht:=zdj (za5 r4 (h0::.list (rowA (row.set i r'))::tl)) (za5 m4 _) (lt_s r' m _)
  rw [if_s ht]
  by_cases q:r' < m
  ·rw [if_pos (by simpa -iota using q)]
   refine ⟨_,as_s (za5 r4 _),?_,fun j hj=>by rw [zae,if_neg (Ne.symm hj)]⟩
   rw [zae,if_pos rfl]
   congr 2
   show (r':Int)=((min m r':Nat):Int)
   omega
  ·rw [if_neg (by simpa -iota using q)]
   refine ⟨v4,rfl,?_,fun _ _=>rfl⟩
   rw [m4]
   congr 2
   show (m:Int)=((min m r':Nat):Int)
   omega
 obtain ⟨v',e6,m6,l6⟩:=e6
 refine ⟨v',?_,⟨?_,?_,?_,?_,?_,m6⟩,fun j hj=>?_⟩
 ·unfold BI
  rw [zb5 e1,zb5 e2,zb5 e3,zb5 e4,zb5 e5];exact e6
 ·rw [l6 _ (by decide +kernel),back _ (by decide +kernel) (by decide +kernel) (by decide +kernel) (by decide +kernel)];exact I.a
 ·rw [l6 _ (by decide +kernel),back _ (by decide +kernel) (by decide +kernel) (by decide +kernel) (by decide +kernel)];exact I.bc
 ·rw [l6 _ (by decide +kernel),back _ (by decide +kernel) (by decide +kernel) (by decide +kernel) (by decide +kernel)];exact I.row
 ·rw [l6 _ (by decide +kernel),l4 _ (by decide +kernel),l3 _ (by decide +kernel)];exact d2
 ·rw [l6 _ (by decide +kernel)];exact r4
 ·simp -iota only [tmpKeys,List.mem_cons,List.not_mem_nil,or_false,not_or] at hj
  obtain ⟨h1,h2,h3,h4,h5,h6⟩:=hj
  rw [l6 j h6,back j h2 h3 h4 h5]
end
noncomputable section
noncomputable def dpIn (bc:Nat):List Nat→List Nat→Nat→Nat→Nat→List Nat×Nat×Nat
 | c::cs,x::xs,d,r,m=>(Nat.min (Nat.min r x + 2) (d + subN bc c)::(dpIn bc cs xs x (Nat.min (Nat.min r x + 2) (d + subN bc c)) (Nat.min m (Nat.min (Nat.min r x + 2) (d + subN bc c)))).1,
   (dpIn bc cs xs x (Nat.min (Nat.min r x + 2) (d + subN bc c)) (Nat.min m (Nat.min (Nat.min r x + 2) (d + subN bc c)))).2)
 | _,_,_,r,m=>([],r,m)
theorem fr_nil {k:Nat} {b:CS} {it:AV} {all:List AV} {v:Vars} {H:List AO}:cFr k b it false all [] v H=some (.next,v,H):=rfl
theorem fr_cons {k:Nat} {b:CS} {it y:AV} {all l:List AV} {v v2:Vars} {H H2:List AO} (h:b (zab k y v) H=some (.next,v2,H2)):cFr k b it false all (y::l) v H=cFr k b it false all l v2 H2:=by
 have e:cFr k b it false all (y::l) v H=ox (force (zab k y v) fun vars=>b vars H) fun r vars H=>AFlow.rec (motive:=fun _=>Option ExR) (cFr k b it false all l vars H) (some (.next,vars,H)) (fun v=>some (.ret v,vars,H)) r:=rfl
 rw [e,zbl,h];rfl
theorem fr_ret {k:Nat} {b:CS} {it y x:AV} {all l:List AV} {v v2:Vars} {H H2:List AO} (h:b (zab k y v) H=some (.ret x,v2,H2)):cFr k b it false all (y::l) v H=some (.ret x,v2,H2):=by
 have e:cFr k b it false all (y::l) v H=ox (force (zab k y v) fun vars=>b vars H) fun r vars H=>AFlow.rec (motive:=fun _=>Option ExR) (cFr k b it false all l vars H) (some (.next,vars,H)) (fun v=>some (.ret v,vars,H)) r:=rfl
 rw [e,zbl,h];rfl
noncomputable def idxs (i n:Nat):List AV:=(List.range' i n).map fun (j:Nat)=>AV.int (j:Int)
theorem dpIn_len (bc:Nat):∀ (cs xs:List Nat) (d r m:Nat),cs.length=xs.length→(dpIn bc cs xs d r m).1.length=xs.length
 | [],[],_,_,_,_=>rfl
 | [],_::_,_,_,_,h=>by cases h
 | _::_,[],_,_,_,h=>by cases h
 | c::cs,x::xs,d,r,m,h=>congrArg (· + 1) (dpIn_len bc cs xs _ _ _ (Nat.succ.inj h))
theorem inner_loop {as:List Nat} {bc:Nat} {it:AV} {all:List AV} {h0:AO} {tl:List AO} (hl:as.length≤1000) (ha:∀ c∈as,c < 128) (hb:bc < 128):∀ (cs xs pre done:List Nat) (v:Vars) (d r m:Nat),as=pre++cs→done.length=pre.length→cs.length=xs.length→InSt v as bc d r m →
  ∃ v' d',cFr zct BI it false all (idxs pre.length cs.length) v (h0::.list (rowA (done++xs))::tl)=some (.next,v',h0::.list (rowA (done++(dpIn bc cs xs d r m).1))::tl) ∧
   InSt v' as bc d' (dpIn bc cs xs d r m).2.1 (dpIn bc cs xs d r m).2.2∧(∀ j,j∉tmpKeys→za2 j v'=za2 j v):=by
 intro cs
 induction cs with
 | nil =>
  intro xs pre done v d r m e1 e2 e3 I
  cases xs with
  | cons=>cases e3
  | nil=>exact ⟨v,d,fr_nil,I,fun _ _=>rfl⟩
 | cons c cs ih =>
  intro xs pre done v d r m e1 e2 e3 I
  cases xs with
  | nil=>cases e3
  | cons x xs =>
   have hc:as[pre.length]?=some c:=by rw [e1,List.getElem?_append_right (Nat.le_refl _)];simp -iota
   have hx:(done++x::xs)[pre.length]?=some x:=by rw [← e2,List.getElem?_append_right (Nat.le_refl _)];simp -iota
   have I0:InSt (zab zct (.int (pre.length:Int)) v) as bc d r m:=⟨zac (by decide +kernel) I.a,zac (by decide +kernel) I.bc,zac (by decide +kernel) I.row,
    zac (by decide +kernel) I.d,zac (by decide +kernel) I.r,zac (by decide +kernel) I.m⟩
   obtain ⟨v1,s1,s2,s3⟩:=inner_step (h0:=h0) (tl:=tl) I0 (zaz) hl hc hx (ha c (by rw [e1];simp -iota)) hb
   have hset:∀ r',(done++x::xs).set pre.length r'=(done++[r'])++xs:=fun r'=>by
    rw [← e2,List.set_append_right _ _ (Nat.le_refl _)];simp -iota
   rw [hset] at s1
   have hi:idxs pre.length (c::cs).length=.int (pre.length:Int)::idxs (pre++[c]).length cs.length:=by
    simp -iota [idxs,List.range'_succ]
   obtain ⟨v2,d',g1,g2,g3⟩:=ih xs (pre++[c]) (done++[Nat.min (Nat.min r x + 2) (d + subN bc c)]) v1 x _ _ (by rw [e1];simp -iota) (by simp -iota [e2]) (by simpa -iota using e3) s2
   refine ⟨v2,d',?_,g2,fun j hj=>?_⟩
   ·rw [hi,fr_cons s1,g1,List.append_assoc]
    rfl
   ·rw [g3 j hj,s3 j hj,zae,if_neg (fun q=>hj (by rw [← q];simp -iota [tmpKeys]))]
end
noncomputable section
noncomputable def BIG:Nat:=9223372036854775807
noncomputable def dpOut (as:List Nat) (c:Int):List Nat→Nat→List Nat→Int→Int
 | [],_,_,r=>r
 | b::bs,j,row,_=>if c < ((dpIn b as row (j * 2) (j * 2) BIG).2.2:Int) then c + 1 else dpOut as c bs (j + 1) (dpIn b as row (j * 2) (j * 2) BIG).1 ((dpIn b as row (j * 2) (j * 2) BIG).2.1:Int)
theorem range_items:∀ n:Nat,n≤9→(decide ((1:Int)≠0) && Builtin.Range.small 0 (n:Int) 1 && decide ((Builtin.Range.rangeSize 0 (n:Int) 1).toNat≤1048576))=true∧zc4 0 (n:Int) 1=idxs 0 n:=by
 intro n h
 match n,h with
 | 0,_=>exact ⟨by decide +kernel,by kernel_rfl⟩
 | 1,_=>exact ⟨by decide +kernel,by kernel_rfl⟩
 | 2,_=>exact ⟨by decide +kernel,by kernel_rfl⟩
 | 3,_=>exact ⟨by decide +kernel,by kernel_rfl⟩
 | 4,_=>exact ⟨by decide +kernel,by kernel_rfl⟩
 | 5,_=>exact ⟨by decide +kernel,by kernel_rfl⟩
 | 6,_=>exact ⟨by decide +kernel,by kernel_rfl⟩
 | 7,_=>exact ⟨by decide +kernel,by kernel_rfl⟩
 | 8,_=>exact ⟨by decide +kernel,by kernel_rfl⟩
 | 9,_=>exact ⟨by decide +kernel,by kernel_rfl⟩
 | n + 10,h=>omega
theorem for_range {k n:Nat} {f:CE} {b:CS} {v:Vars} {H:List AO} (hn:n≤9) (h:f v H=some (.int (n:Int),H)):cFor k (cRange f) b v H=cFr k b (.obj H.length) false (idxs 0 n) (idxs 0 n) v (H++[.range 0 (n:Int) 1]):=by
 obtain ⟨r1,r2⟩:=range_items n hn
 have e1:cRange f v H=some (.obj H.length,H++[.range 0 (n:Int) 1]):=by
  unfold cRange
  rw [h,zdg]
  show some (AV.obj (lenF H),appF H [.range 0 (n:Int) 1])=_
  rw [zau,zc3]
 unfold cFor
 rw [e1,zdg]
 have e2:itemsF (H++[.range 0 (n:Int) 1]) (.obj H.length)=some (false,idxs 0 n):=by
  show o1 (nth (H++[.range 0 (n:Int) 1]) H.length) _=_
  rw [zaw,List.getElem?_append_right (Nat.le_refl _)]
  simp only [Nat.sub_self,List.getElem?_cons_zero,ze7]
  show zdo (H++[.range 0 (n:Int) 1]) (.obj H.length)=_
  simp only [zdo,zaw,List.getElem?_append_right (Nat.le_refl _),Nat.sub_self,List.getElem?_cons_zero]
  rw [if_pos r1,r2]
 rw [e2,zdg]
noncomputable def BO:CS:=zcx (cAs kk_bchar (zcj (za8 kk_b) (za8 zdm))) (zcx (cAs2 zaq zak (zbh (binop Operator.Mult) (za8 zdm) (za1 (AV.int 2)))) (zcx (cAs zb4 (za1 (AV.int 9223372036854775807)))
 (zcx (cFor zct (cRange (cLen (za8 zck))) BI) (cIf (zdv (gOf CmpOp.Gt) (za8 zb4) (za8 zap)) (cRet (zbh gAdd (za8 zap) (za1 (AV.int 1)))) cSkip))))
theorem gt_s (i j:Int) (H:List AO):gOf .Gt (.int i) (.int j) H=some (decide (j < i)):=by
 rw [gOf_ok];rfl
theorem mul2_s (j:Nat) (H:List AO):binop .Mult (.int (j:Int)) (.int 2) H=some (.int ((j * 2:Nat):Int),H):=by
 rw [binop_mulI,if_pos (by rw [Bool.or_eq_true];right;decide)]
 congr 3
structure OutSt (v:Vars) (as bs:List Nat) (c:Int):Prop where
 a:za2 zck v=some (.str (sL as))
 b:za2 kk_b v=some (.str (sL bs))
 row:za2 zaj v=some (.obj 1)
 c:za2 zap v=some (.int c)
theorem OutSt.keep {v w:Vars} {as bs:List Nat} {c:Int} (O:OutSt v as bs c) (h:∀ j,j=zck∨j=kk_b∨j=zaj∨j=zap→za2 j w=za2 j v):OutSt w as bs c :=
 ⟨(h _ (.inl rfl)).trans O.a,(h _ (.inr (.inl rfl))).trans O.b,(h _ (.inr (.inr (.inl rfl)))).trans O.row,(h _ (.inr (.inr (.inr rfl)))).trans O.c⟩
theorem outer_step {v:Vars} {as bs:List Nat} {c:Int} {j b:Nat} {row:List Nat} {h0:AO} {tl:List AO} (O:OutSt v as bs c) (hj:za2 zdm v=some (.int (j:Int))) (hl:as.length≤9) (hl2:bs.length≤9) (hrow:as.length=row.length) (hb:bs[j]?=some b) (b1:b < 128) (ha:∀ x∈as,x < 128) {Γ:Prop} (κ:∀ v' tl',(BO v (h0::.list (rowA row)::tl)=some (if c < ((dpIn b as row (j * 2) (j * 2) BIG).2.2:Int) then .ret (.int (c + 1)) else .next,v',h0::.list (rowA (dpIn b as row (j * 2) (j * 2) BIG).1)::tl'))→OutSt v' as bs c→za2 zak v'=some (.int ((dpIn b as row (j * 2) (j * 2) BIG).2.1:Int))→Γ):Γ:=by
 have e1:cAs kk_bchar (zcj (za8 kk_b) (za8 zdm)) v (h0::.list (rowA row)::tl)=some (.next,zab kk_bchar (.str (sL [b])) v,h0::.list (rowA row)::tl) :=
  as_s (zd4 (za5 O.b _) (za5 hj _) (itemF_str (item_pos bs (by omega) hb _)))
 generalize hv1:zab kk_bchar (.str (sL [b])) v=v1 at e1
 have l1:∀ x,x≠kk_bchar→za2 x v1=za2 x v:=fun x hx=>by rw [← hv1,zae,if_neg (Ne.symm hx)]
 have e2:cAs2 zaq zak (zbh (binop Operator.Mult) (za8 zdm) (za1 (AV.int 2))) v1 (h0::.list (rowA row)::tl)=some (.next,zab zak (.int ((j * 2:Nat):Int)) (zab zaq (.int ((j * 2:Nat):Int)) v1),h0::.list (rowA row)::tl):=by
  unfold cAs2
  rw [zb2 (za5 (by rw [l1 _ (by decide +kernel)];exact hj) _) (za9 _ _ _) (mul2_s j _),zdg,zbl]
 generalize hv2:zab zak (.int ((j * 2:Nat):Int)) (zab zaq (.int ((j * 2:Nat):Int)) v1)=v2 at e2
 have l2:∀ x,x≠zak→x≠zaq→za2 x v2=za2 x v1:=fun x hx hx2=>by rw [← hv2,zae,if_neg (Ne.symm hx),zae,if_neg (Ne.symm hx2)]
 have e3:cAs zb4 (za1 (AV.int 9223372036854775807)) v2 (h0::.list (rowA row)::tl)=some (.next,zab zb4 (.int ((BIG:Nat):Int)) v2,h0::.list (rowA row)::tl):=as_s rfl
 generalize hv3:zab zb4 (.int ((BIG:Nat):Int)) v2=v3 at e3
 have l3:∀ x,x≠zb4→za2 x v3=za2 x v2:=fun x hx=>by rw [← hv3,zae,if_neg (Ne.symm hx)]
 have bk:∀ x,x≠zb4→x≠zak→x≠zaq→x≠kk_bchar→za2 x v3=za2 x v:=fun x h1 h2 h3 h4=>by rw [l3 x h1,l2 x h2 h3,l1 x h4]
 have O3:OutSt v3 as bs c:=O.keep fun x hx=>by
  rcases hx with rfl | rfl | rfl | rfl<;>exact bk _ (by decide +kernel) (by decide +kernel) (by decide +kernel) (by decide +kernel)
 have I3:InSt v3 as b (j * 2) (j * 2) BIG:=⟨O3.a,by rw [l3 _ (by decide +kernel),l2 _ (by decide +kernel) (by decide +kernel),← hv1,zae,if_pos rfl],O3.row,
  by rw [l3 _ (by decide +kernel),← hv2,zae,if_neg (by decide +kernel),zae,if_pos rfl],by rw [l3 _ (by decide +kernel),← hv2,zae,if_pos rfl],by rw [← hv3];exact zaz⟩
 have e4:=for_range (k:=zct) (b:=BI) hl (len_str (f:=za8 zck) (v:=v3) (H:=h0::.list (rowA row)::tl) (by omega) (za5 O3.a _))
 obtain ⟨v4,d',g1,g2,g3⟩:=inner_loop (it:=.obj (h0::.list (rowA row)::tl).length) (all:=idxs 0 as.length) (h0:=h0) (tl:=tl++[.range 0 (as.length:Int) 1]) (by omega) ha b1 as row [] [] v3 (j * 2) (j * 2) BIG rfl rfl hrow I3
 have e5:cFor zct (cRange (cLen (za8 zck))) BI v3 (h0::.list (rowA row)::tl)=some (.next,v4,h0::.list (rowA (dpIn b as row (j * 2) (j * 2) BIG).1)::(tl++[.range 0 (as.length:Int) 1])):=e4.trans g1
 have O4:OutSt v4 as bs c:=O3.keep fun x hx=>g3 x (by rcases hx with rfl | rfl | rfl | rfl<;>decide +kernel)
 have ht:=zdj (za5 g2.m (h0::.list (rowA (dpIn b as row (j * 2) (j * 2) BIG).1)::(tl++[.range 0 (as.length:Int) 1]))) (za5 O4.c _) (gt_s _ _ _)
 have e6:=if_s (f:=cRet (zbh gAdd (za8 zap) (za1 (AV.int 1)))) (g:=cSkip) ht
 refine κ v4 (tl++[.range 0 (as.length:Int) 1]) ?_ O4 g2.r
 unfold BO
 rw [zb5 e1,zb5 e2,zb5 e3,zb5 e5,e6]
 by_cases q:c < ((dpIn b as row (j * 2) (j * 2) BIG).2.2:Int)
 ·rw [if_pos (by simpa -iota using q),if_pos q]
  unfold cRet
  rw [zb2 (za5 O4.c _) (za9 _ _ _) (x:=.int (c + 1)) rfl,zdg]
 ·rw [if_neg (by simpa -iota using q),if_neg q];rfl
theorem outer_loop {as bs:List Nat} {c:Int} {it:AV} {all:List AV} {h0:AO} (hl:as.length≤9) (hl2:bs.length≤9) (ha:∀ x∈as,x < 128) (hb:∀ x∈bs,x < 128):∀ (cs pre row:List Nat) (v:Vars) (r:Int) (tl:List AO),bs=pre++cs→as.length=row.length→OutSt v as bs c→za2 zak v=some (.int r) →
  ∃ fl v' H',cFr zdm BO it false all (idxs pre.length cs.length) v (h0::.list (rowA row)::tl)=some (fl,v',H')∧(fl=.ret (.int (dpOut as c cs pre.length row r))∨(fl=.next∧za2 zak v'=some (.int (dpOut as c cs pre.length row r)))):=by
 intro cs
 induction cs with
 | nil=>intro pre row v r tl e1 e2 O hr;exact ⟨.next,v,_,fr_nil,.inr ⟨rfl,hr⟩⟩
 | cons b cs ih =>
  intro pre row v r tl e1 e2 O hr
  have hbb:bs[pre.length]?=some b:=by rw [e1,List.getElem?_append_right (Nat.le_refl _)];simp -iota
  have O0:OutSt (zab zdm (.int (pre.length:Int)) v) as bs c:=O.keep fun x hx=>by
   rw [zae,if_neg (by rcases hx with rfl | rfl | rfl | rfl<;>decide +kernel)]
  refine outer_step (h0:=h0) (tl:=tl) O0 (zaz) hl hl2 e2 hbb (hb b (by rw [e1];simp -iota)) ha fun v1 tl1 s1 s2 s3=>?_
  have hi:idxs pre.length (b::cs).length=.int (pre.length:Int)::idxs (pre++[b]).length cs.length:=by simp -iota [idxs,List.range'_succ]
  rw [hi]
  by_cases q:c < ((dpIn b as row (pre.length * 2) (pre.length * 2) BIG).2.2:Int)
  ·rw [if_pos q] at s1
   refine ⟨_,v1,_,fr_ret s1,.inl ?_⟩
   show _=AFlow.ret (.int (if c < ((dpIn b as row (pre.length * 2) (pre.length * 2) BIG).2.2:Int) then c + 1 else _))
   rw [if_pos q]
  ·rw [if_neg q] at s1
   obtain ⟨fl,v2,H2,g1,g2⟩:=ih (pre++[b]) (dpIn b as row (pre.length * 2) (pre.length * 2) BIG).1 v1 _ tl1 (by rw [e1];simp -iota) (by rw [dpIn_len _ _ _ _ _ _ e2];exact e2) s2 s3
   refine ⟨fl,v2,H2,(fr_cons s1).trans g1,?_⟩
   have:dpOut as c (b::cs) pre.length row r=dpOut as c cs (pre++[b]).length (dpIn b as row (pre.length * 2) (pre.length * 2) BIG).1 ((dpIn b as row (pre.length * 2) (pre.length * 2) BIG).2.1:Int):=by
    show (if c < ((dpIn b as row (pre.length * 2) (pre.length * 2) BIG).2.2:Int) then c + 1 else _)=_
    rw [if_neg q];simp -iota
   rw [this];exact g2
end
noncomputable section
noncomputable def row0 (n:Nat):List Nat:=(List.range n).map fun i=>2 * (i + 1)
noncomputable def cutL (l m:List Nat):List Nat:=(l.drop (lcp l m)).take ((l.drop (lcp l m)).length - lcp (l.drop (lcp l m)).reverse (m.drop (lcp l m)).reverse)
noncomputable def cutR (l m:List Nat):List Nat:=(m.drop (lcp l m)).take ((m.drop (lcp l m)).length - lcp (l.drop (lcp l m)).reverse (m.drop (lcp l m)).reverse)
noncomputable def levC (a b:List Nat) (c:Int):Int:=if c < (((b.length - a.length) * 2:Nat):Int) then c + 1 else dpOut a c b 0 (row0 a.length) 0
noncomputable def levB (a b:List Nat) (c:Int):Int:=if a=[]∨b=[] then ((2 * (a.length + b.length):Nat):Int) else if b.length < a.length then levC b a c else levC a b c
noncomputable def levN (l m:List Nat) (c:Int):Int:=if l=m then 0 else levB (cutL l m) (cutR l m) c
noncomputable def S0:CS:=cIf (zdv (gOf CmpOp.Eq) (za8 zck) (za8 kk_b)) (cRet (za1 (AV.int 0))) cSkip
noncomputable def S1:CS:=cAs zd0 (za1 (AV.int 0))
noncomputable def S3:CS:=cAs zck (cSlice (za8 zck) (pSome (za8 zd0)) pNone pNone)
noncomputable def S4:CS:=cAs kk_b (cSlice (za8 kk_b) (pSome (za8 zd0)) pNone pNone)
noncomputable def S5:CS:=cAs zcf (za1 (AV.int 0))
noncomputable def S9:CS:=cIf (tOr (tNot (tVal (za8 zck))) (tOr (tNot (tVal (za8 kk_b))) tFalse)) (cRet (zbh (binop Operator.Mult) (za1 (AV.int 2)) (zbh gAdd (cLen (za8 zck)) (cLen (za8 kk_b))))) cSkip
noncomputable def S10:CS:=cIf (tOr (zdv (gOf CmpOp.Gt) (cLen (za8 zck)) (za1 (AV.int 40))) (tOr (zdv (gOf CmpOp.Gt) (cLen (za8 kk_b)) (za1 (AV.int 40))) tFalse)) (cRet (zbh gAdd (za8 zap) (za1 (AV.int 1)))) cSkip
noncomputable def S11:CS:=cIf (zdv (gOf CmpOp.Lt) (cLen (za8 kk_b)) (cLen (za8 zck))) (cTup [zck,kk_b] (zaa (za8 kk_b) (zaa (za8 zck) zcd))) cSkip
noncomputable def S12:CS:=cIf (zdv (gOf CmpOp.Gt) (zbh (binop Operator.Mult) (zbh gSub (cLen (za8 kk_b)) (cLen (za8 zck))) (za1 (AV.int 2))) (za8 zap)) (cRet (zbh gAdd (za8 zap) (za1 (AV.int 1)))) cSkip
noncomputable def S13:CS:=cAs zaj (zc1 dLev (za1 (AV.lit (Value.type "list"))) (zaa (zc1 dLev (za1 (AV.lit (Value.type "range"))) (zaa (za1 (AV.int 2)) (zaa (zbh (binop Operator.Mult) (za1 (AV.int 2)) (zbh gAdd (cLen (za8 zck)) (za1 (AV.int 1)))) (zaa (za1 (AV.int 2)) zcd))) kNil) zcd) kNil)
noncomputable def S14:CS:=cAs zak (za1 (AV.int 0))
noncomputable def S15:CS:=cFor zdm (cRange (cLen (za8 kk_b))) BO
noncomputable def S16:CS:=cRet (za8 zak)
noncomputable def S7:CS:=cAs zck slA
noncomputable def S8:CS:=cAs kk_b slB
theorem c_lev_eq:(c_lev dLev).1=zcx S0 (zcx S1 (zcx (cWh tW1 b1 zar) (zcx S3 (zcx S4 (zcx S5 (zcx (cWh tW2 b2 zar) (zcx S7 (zcx S8 (zcx S9 (zcx S10 (zcx S11 (zcx S12 (zcx S13 (zcx S14 (zcx S15 S16))))))))))))))):=by
 unfold c_lev
 rfl
theorem ret_s {f:CE} {v:Vars} {H H1:List AO} {x:AV} (h:f v H=some (x,H1)):cRet f v H=some (.ret x,v,H1):=by unfold cRet;rw [h,zdg]
theorem not_s {f:CB} {v:Vars} {H H1:List AO} {b:Bool} (h:f v H=some (b,H1)):tNot f v H=some (!b,H1):=by unfold tNot;rw [h,zdg]
theorem row_call:∀ n:Nat,n≤9→dLev (.lit (.type "list")) [.obj 0] [] [.range 2 (2 * ((n:Int) + 1)) 2]=some (.obj 1,[.range 2 (2 * ((n:Int) + 1)) 2,.list (rowA (row0 n))]):=by
 intro n h
 match n,h with
 | 0,_=>kernel_rfl
 | 1,_=>kernel_rfl
 | 2,_=>kernel_rfl
 | 3,_=>kernel_rfl
 | 4,_=>kernel_rfl
 | 5,_=>kernel_rfl
 | 6,_=>kernel_rfl
 | 7,_=>kernel_rfl
 | 8,_=>kernel_rfl
 | 9,_=>kernel_rfl
 | n + 10,h=>omega
theorem lev_tail {a b:List Nat} {c:Int} {v:Vars} (ha:za2 zck v=some (.str (sL a))) (hb:za2 kk_b v=some (.str (sL b))) (hc:za2 zap v=some (.int c)) (la:a.length≤9) (lb:b.length≤9) (hab:a.length≤b.length) (ca:∀ x∈a,x < 128) (cb:∀ x∈b,x < 128) :
  ∃ v' H',zcx S12 (zcx S13 (zcx S14 (zcx S15 S16))) v []=some (.ret (.int (levC a b c)),v',H'):=by
 have hla:=len_str (by omega) (za5 ha [])
 have hlb:=len_str (by omega) (za5 hb [])
 have hsub:zbh gSub (cLen (za8 kk_b)) (cLen (za8 zck)) v []=some (.int ((b.length - a.length:Nat):Int),[]):=zb2 hlb hla (by
  show some (AV.int ((b.length:Int) - (a.length:Int)),([]:List AO))=_
  congr 3;omega)
 have ht:=zdj (zb2 hsub (za9 (.int 2) v []) (mul2_s _ _)) (za5 hc []) (gt_s _ _ [])
 have e12:=if_s (f:=cRet (zbh gAdd (za8 zap) (za1 (AV.int 1)))) (g:=cSkip) ht
 unfold levC
 by_cases q:c < (((b.length - a.length) * 2:Nat):Int)
 ·rw [if_pos (by simpa -iota using q)] at e12
  rw [if_pos q]
  have r12:S12 v []=some (.ret (.int (c + 1)),v,[]):=e12.trans (ret_s (zb2 (za5 hc []) (za9 _ _ _) rfl))
  exact ⟨_,_,seq_r r12⟩
 ·rw [if_neg (by simpa -iota using q)] at e12
  rw [if_neg q]
  have r12:S12 v []=some (.next,v,[]):=e12
  rw [zb5 r12]
  have e13:S13 v []=some (.next,zab zaj (.obj 1) v,[.range 2 (2 * ((a.length:Int) + 1)) 2,.list (rowA (row0 a.length))]):=by
   refine as_s (call_s (zad (call_s (zad (za9 _ _ _) (zad (zb2 (za9 _ _ _) (zb2 hla (za9 _ _ _) (x:=.int ((a.length:Int) + 1)) rfl) (x:=.int (2 * ((a.length:Int) + 1))) (H3:=[]) ?_) (zad (za9 _ _ _) (zc8 _ _)))) (z:=.obj 0) (H2:=[.range 2 (2 * ((a.length:Int) + 1)) 2]) ?_) (zc8 _ _)) (row_call a.length la))
   ·show (if (smallI 2 || smallI ((a.length:Int) + 1))=true then some (AV.int (2 * ((a.length:Int) + 1)),([]:List AO)) else none)=_
    rw [if_pos (by rw [Bool.or_eq_true];left;decide)]
   ·rfl
  rw [zb5 e13]
  have e14:S14 (zab zaj (.obj 1) v) [.range 2 (2 * ((a.length:Int) + 1)) 2,.list (rowA (row0 a.length))]=some (.next,zab zak (.int 0) (zab zaj (.obj 1) v),[.range 2 (2 * ((a.length:Int) + 1)) 2,.list (rowA (row0 a.length))]):=as_s rfl
  rw [zb5 e14]
  generalize hv2:zab zak (.int 0) (zab zaj (.obj 1) v)=v2
  have O:OutSt v2 a b c:=by
   subst hv2
   exact ⟨by rw [zae,if_neg (by decide +kernel),zae,if_neg (by decide +kernel)];exact ha,by rw [zae,if_neg (by decide +kernel),zae,if_neg (by decide +kernel)];exact hb,by rw [zae,if_neg (by decide +kernel),zae,if_pos rfl],
    by rw [zae,if_neg (by decide +kernel),zae,if_neg (by decide +kernel)];exact hc⟩
  have e15:=for_range (k:=zdm) (b:=BO) lb (len_str (f:=za8 kk_b) (v:=v2) (H:=[.range 2 (2 * ((a.length:Int) + 1)) 2,.list (rowA (row0 a.length))]) (by omega) (za5 O.b _))
  obtain ⟨fl,v3,H3,g1,g2⟩:=outer_loop (it:=.obj 2) (all:=idxs 0 b.length) (h0:=.range 2 (2 * ((a.length:Int) + 1)) 2) la lb ca cb b [] (row0 a.length) v2 0 [.range 0 (b.length:Int) 1] rfl (by simp -iota [row0]) O (by rw [← hv2];exact zaz)
  have e15':S15 v2 [.range 2 (2 * ((a.length:Int) + 1)) 2,.list (rowA (row0 a.length))]=some (fl,v3,H3):=e15.trans g1
  rcases g2 with rfl | ⟨rfl,g2⟩
  ·exact ⟨_,_,seq_r e15'⟩
  ·rw [zb5 e15']
   exact ⟨_,_,ret_s (za5 g2 _)⟩
end
noncomputable section
theorem cut_mem {l m:List Nat} {x:Nat}:(x∈cutL l m→x∈l)∧(x∈cutR l m→x∈m) :=
 ⟨fun h=>List.mem_of_mem_drop (List.mem_of_mem_take h),fun h=>List.mem_of_mem_drop (List.mem_of_mem_take h)⟩
theorem cut_len (l m:List Nat):(cutL l m).length≤l.length∧(cutR l m).length≤m.length:=by
 unfold cutL cutR;simp -iota;omega
theorem lev_mid {a b:List Nat} {c:Int} {v:Vars} (ha:za2 zck v=some (.str (sL a))) (hb:za2 kk_b v=some (.str (sL b))) (hc:za2 zap v=some (.int c)) (la:a.length≤9) (lb:b.length≤9) (ca:∀ x∈a,x < 128) (cb:∀ x∈b,x < 128) :
  ∃ v' H',zcx S9 (zcx S10 (zcx S11 (zcx S12 (zcx S13 (zcx S14 (zcx S15 S16)))))) v []=some (.ret (.int (levB a b c)),v',H'):=by
 have hla:=len_str (by omega) (za5 ha [])
 have hlb:=len_str (by omega) (za5 hb [])
 have ta:=not_s (val_s (za5 ha []) (truth_sL (by omega) []))
 have tb:=not_s (val_s (za5 hb []) (truth_sL (by omega) []))
 rw [Bool.not_not] at ta tb
 have t9:tOr (tNot (tVal (za8 zck))) (tOr (tNot (tVal (za8 kk_b))) tFalse) v []=some (a.isEmpty || b.isEmpty,[]):=by
  cases q:a.isEmpty with
  | true=>rw [q] at ta;exact or_t ta
  | false =>
   rw [q] at ta
   rw [or_f ta]
   cases q2:b.isEmpty with
   | true=>rw [q2] at tb;exact or_t tb
   | false=>rw [q2] at tb;rw [or_f tb];rfl
 have e9:=if_s (f:=cRet (zbh (binop Operator.Mult) (za1 (AV.int 2)) (zbh gAdd (cLen (za8 zck)) (cLen (za8 kk_b))))) (g:=cSkip) t9
 unfold levB
 by_cases q:a=[]∨b=[]
 ·rw [if_pos (by simpa -iota using q)] at e9
  rw [if_pos q]
  refine ⟨v,[],seq_r (show S9 v []=_ from e9.trans (ret_s (zb2 (za9 _ _ _) (zb2 hla hlb (add_s _ _ _)) ?_)))⟩
  show (if (smallI 2 || smallI ((a.length + b.length:Nat):Int))=true then some (AV.int (2 * ((a.length + b.length:Nat):Int)),([]:List AO)) else none)=_
  rw [if_pos (by rw [Bool.or_eq_true];left;decide)]
  congr 3
 ·rw [if_neg (by simpa -iota using q)] at e9
  rw [if_neg q,zb5 (show S9 v []=some (.next,v,[]) from e9)]
  have g1:=zdj hla (za9 (.int 40) v []) (gt_s _ _ [])
  have g2:=zdj hlb (za9 (.int 40) v []) (gt_s _ _ [])
  rw [decide_eq_false (by omega)] at g1 g2
  have t10:tOr (zdv (gOf CmpOp.Gt) (cLen (za8 zck)) (za1 (AV.int 40))) (tOr (zdv (gOf CmpOp.Gt) (cLen (za8 kk_b)) (za1 (AV.int 40))) tFalse) v []=some (false,[]):=by rw [or_f g1,or_f g2];rfl
  have e10:=if_s (f:=cRet (zbh gAdd (za8 zap) (za1 (AV.int 1)))) (g:=cSkip) t10
  rw [zb5 (show S10 v []=some (.next,v,[]) from e10)]
  have t11:=zdj hlb hla (lt_s _ _ [])
  have e11:=if_s (f:=cTup [zck,kk_b] (zaa (za8 kk_b) (zaa (za8 zck) zcd))) (g:=cSkip) t11
  by_cases q2:b.length < a.length
  ·rw [if_pos (by simpa -iota using q2)] at e11
   rw [if_pos q2]
   have etup:cTup [zck,kk_b] (zaa (za8 kk_b) (zaa (za8 zck) zcd)) v []=some (.next,zab kk_b (.str (sL a)) (zab zck (.str (sL b)) v),[]):=by
    unfold cTup
    rw [zad (za5 hb []) (zad (za5 ha []) (zc8 _ _)),zdg]
    show o1 (some (zab kk_b (.str (sL a)) (zab zck (.str (sL b)) v))) _=_
    rw [ze7,zbl]
   rw [zb5 (show S11 v []=_ from e11.trans etup)]
   exact lev_tail (by rw [zae,if_neg (by decide +kernel),zae,if_pos rfl]) (zaz) (by rw [zae,if_neg (by decide +kernel),zae,if_neg (by decide +kernel)];exact hc) lb la (by omega) cb ca
  ·rw [if_neg (by simpa -iota using q2)] at e11
   rw [if_neg q2,zb5 (show S11 v []=some (.next,v,[]) from e11)]
   exact lev_tail ha hb hc la lb (by omega) ca cb
theorem lev_run {l m:List Nat} {c:Int} (ll:l.length≤9) (lm:m.length≤9) (cl:∀ x∈l,x < 128) (cm:∀ x∈m,x < 128) :
  ∃ v' H',(c_lev dLev).1 [(zck,.str (sL l)),(kk_b,.str (sL m)),(zap,.int c)] []=some (.ret (.int (levN l m c)),v',H'):=by
 rw [c_lev_eq]
 generalize hv:([(zck,.str (sL l)),(kk_b,.str (sL m)),(zap,.int c)]:Vars)=v
 have ha:za2 zck v=some (.str (sL l)):=by subst hv;rfl
 have hb:za2 kk_b v=some (.str (sL m)):=by subst hv;kernel_rfl
 have hc:za2 zap v=some (.int c):=by subst hv;kernel_rfl
 clear hv
 have t0:=zdj (za5 ha []) (za5 hb []) (eq_str _ _ [])
 have e0:=if_s (f:=cRet (za1 (AV.int 0))) (g:=cSkip) t0
 unfold levN
 by_cases q:l=m
 ·rw [if_pos (by rw [q];simp -iota)] at e0
  rw [if_pos q]
  exact ⟨v,[],seq_r (show S0 v []=_ from e0.trans (ret_s (za9 _ _ _)))⟩
 ·rw [if_neg (by rw [decide_eq_false fun z=>q (sL_inj z)];decide)] at e0
  rw [if_neg q,zb5 (show S0 v []=some (.next,v,[]) from e0)]
  rw [zb5 (show S1 v []=some (.next,zab zd0 (.int ((0:Nat):Int)) v,[]) from as_s rfl)]
  have a1:za2 zck (zab zd0 (.int ((0:Nat):Int)) v)=some (.str (sL l)):=zac (by decide +kernel) ha
  have b1':za2 kk_b (zab zd0 (.int ((0:Nat):Int)) v)=some (.str (sL m)):=zac (by decide +kernel) hb
  have c1:za2 zap (zab zd0 (.int ((0:Nat):Int)) v)=some (.int c):=zac (by decide +kernel) hc
  have p1:za2 zd0 (zab zd0 (.int ((0:Nat):Int)) v)=some (.int ((0:Nat):Int)):=zaz
  have hle:=lcp_le l m
  obtain ⟨v2,w1,w2,w3⟩:=loop1 (l:=l) (m:=m) (by omega) (by omega) (H:=[]) zar 0 _ a1 b1' p1 (Nat.zero_le _) (Nat.zero_le _) (by rw [List.drop_zero,List.drop_zero];have:zar=100:=rfl;omega)
  rw [List.drop_zero,List.drop_zero,Nat.zero_add] at w2
  rw [zb5 w1]
  have a2:za2 zck v2=some (.str (sL l)):=by rw [w3 _ (by decide +kernel)];exact a1
  have b2':za2 kk_b v2=some (.str (sL m)):=by rw [w3 _ (by decide +kernel)];exact b1'
  have c2:za2 zap v2=some (.int c):=by rw [w3 _ (by decide +kernel)];exact c1
  have s3:S3 v2 []=some (.next,zab zck (.str (sL (l.drop (lcp l m)))) v2,[]):=as_s (by rw [slice_s (by omega) (za5 a2 []) (some_i (za5 w2 [])) (up:=none) (H3:=[]) rfl,sliceS_drop l hle.1])
  rw [zb5 s3]
  generalize hv3:zab zck (.str (sL (l.drop (lcp l m)))) v2=v3
  have b3:za2 kk_b v3=some (.str (sL m)):=by rw [← hv3];exact zac (by decide +kernel) b2'
  have p3:za2 zd0 v3=some (.int ((lcp l m:Nat):Int)):=by rw [← hv3];exact zac (by decide +kernel) w2
  have s4:S4 v3 []=some (.next,zab kk_b (.str (sL (m.drop (lcp l m)))) v3,[]):=as_s (by rw [slice_s (by omega) (za5 b3 []) (some_i (za5 p3 [])) (up:=none) (H3:=[]) rfl,sliceS_drop m hle.2])
  rw [zb5 s4]
  generalize hv4:zab kk_b (.str (sL (m.drop (lcp l m)))) v3=v4
  rw [zb5 (show S5 v4 []=some (.next,zab zcf (.int (-((0:Nat):Int))) v4,[]) from as_s rfl)]
  generalize hv5:zab zcf (.int (-((0:Nat):Int))) v4=v5
  have a5:za2 zck v5=some (.str (sL (l.drop (lcp l m)))):=by rw [← hv5,zae,if_neg (by decide +kernel),← hv4,zae,if_neg (by decide +kernel),← hv3,zae,if_pos rfl]
  have b5:za2 kk_b v5=some (.str (sL (m.drop (lcp l m)))):=by rw [← hv5,zae,if_neg (by decide +kernel),← hv4,zae,if_pos rfl]
  have c5:za2 zap v5=some (.int c):=by rw [← hv5,zae,if_neg (by decide +kernel),← hv4,zae,if_neg (by decide +kernel),← hv3,zae,if_neg (by decide +kernel)];exact c2
  have p5:za2 zcf v5=some (.int (-((0:Nat):Int))):=by rw [← hv5];exact zaz
  have hle2:=lcp_le (l.drop (lcp l m)).reverse (m.drop (lcp l m)).reverse
  rw [List.length_reverse,List.length_reverse] at hle2
  have hl1:(l.drop (lcp l m)).length≤l.length:=by simp -iota
  have hm1:(m.drop (lcp l m)).length≤m.length:=by simp -iota
  obtain ⟨v6,x1,x2,x3⟩:=loop2 (l:=l.drop (lcp l m)) (m:=m.drop (lcp l m)) (by omega) (by omega) (H:=[]) zar 0 v5 a5 b5 p5 (Nat.zero_le _) (Nat.zero_le _) (by rw [List.drop_zero,List.drop_zero];have:zar=100:=rfl;omega)
  rw [List.drop_zero,List.drop_zero,Nat.zero_add] at x2
  rw [zb5 x1]
  have a6:za2 zck v6=some (.str (sL (l.drop (lcp l m)))):=by rw [x3 _ (by decide +kernel)];exact a5
  have b6:za2 kk_b v6=some (.str (sL (m.drop (lcp l m)))):=by rw [x3 _ (by decide +kernel)];exact b5
  have c6:za2 zap v6=some (.int c):=by rw [x3 _ (by decide +kernel)];exact c5
  have s7:S7 v6 []=some (.next,zab zck (.str (sL (cutL l m))) v6,[]):=as_s (slA_s a6 x2 hle2.1 (by omega) [])
  rw [zb5 s7]
  generalize hv7:zab zck (.str (sL (cutL l m))) v6=v7
  have b7:za2 kk_b v7=some (.str (sL (m.drop (lcp l m)))):=by rw [← hv7];exact zac (by decide +kernel) b6
  have p7:za2 zcf v7=some (.int (-((lcp (l.drop (lcp l m)).reverse (m.drop (lcp l m)).reverse:Nat):Int))):=by rw [← hv7];exact zac (by decide +kernel) x2
  have s8:S8 v7 []=some (.next,zab kk_b (.str (sL (cutR l m))) v7,[]):=as_s (slB_s b7 p7 hle2.2 (by omega) [])
  rw [zb5 s8]
  have hcut:=cut_len l m
  exact lev_mid (by rw [zae,if_neg (by decide +kernel),← hv7,zae,if_pos rfl]) (zaz) (by rw [zae,if_neg (by decide +kernel),← hv7,zae,if_neg (by decide +kernel)];exact c6) (by omega) (by omega)
   (fun x hx=>cl x (cut_mem (m:=m) |>.1 hx)) (fun x hx=>cm x (cut_mem (l:=l) |>.2 hx))
end
noncomputable section
noncomputable def srN (c:Nat→Option Bool) (n:Nat):Nat→Nat→Option Nat:=Nat.rec (motive:=fun _=>Nat→Nat→Option Nat) (fun _ _=>none)
 (fun _ ih lo hi=>bi (Nat.ble (Nat.succ lo) hi) (o1 (c (Nat.div (Nat.add lo hi) 2)) fun b=>bi b (ih (Nat.succ (Nat.div (Nat.add lo hi) 2)) hi) (ih lo (Nat.div (Nat.add lo hi) 2))) (some lo)) n
noncomputable def bMid:CS:=cAs kk_mid (zbh gFD (zbh gAdd (za8 zd3) (za8 kk_hi)) (za1 (AV.int 2)))
noncomputable def bUp:CS:=cAs zd3 (zbh gAdd (za8 kk_mid) (za1 (AV.int 1)))
noncomputable def bDn:CS:=cAs kk_hi (za8 kk_mid)
noncomputable def tB:CB:=zdv (gOf CmpOp.Lt) (za8 zd3) (za8 kk_hi)
noncomputable def wB (L:Bool) (tst:CB):CS:=cWh tB (zcx bMid (bi L (cIf tst bUp bDn) (cIf tst bDn bUp))) zar
structure Bv (v:Vars) (av xv kv:AV) (lo hi:Nat):Prop where
 a:za2 zck v=some av
 x:za2 kk_x v=some xv
 k:za2 zbw v=some kv
 l:za2 zd3 v=some (.int (lo:Int))
 h:za2 kk_hi v=some (.int (hi:Int))
theorem srN_succ {c:Nat→Option Bool} {n lo hi:Nat}:srN c (n + 1) lo hi=if lo < hi then (c ((lo + hi) / 2)).bind fun b=>if b then srN c n ((lo + hi) / 2 + 1) hi else srN c n lo ((lo + hi) / 2) else some lo:=by
 show bi (Nat.ble (lo + 1) hi) (o1 (c ((lo + hi) / 2)) fun b=>bi b (srN c n ((lo + hi) / 2 + 1) hi) (srN c n lo ((lo + hi) / 2))) (some lo)=_
 rw [zay]
 by_cases q:lo < hi
 ·rw [if_pos (Nat.ble_eq.mpr q),if_pos q]
  cases c ((lo + hi) / 2) with
  | none=>rfl
  | some b=>cases b<;>rfl
 ·rw [if_neg (fun z=>q (Nat.ble_eq.mp z)),if_neg q]
theorem mid_eq (lo hi:Nat):Int.fdiv ((lo:Int) + (hi:Int)) 2=(((lo + hi) / 2:Nat):Int):=by
 rw [← Int.natCast_add,Int.fdiv_eq_ediv_of_nonneg _ (by decide)];rfl
theorem ltI (x y:Int) (H:List AO):gOf .Lt (.int x) (.int y) H=some (decide (x < y)):=by
 show some (iLt x y)=_
 rw [iLt_eq]
theorem loopS {tst:CB} {L:Bool} {c:Nat→Option Bool} {H:List AO} {av xv kv:AV} (ht:∀ v (m:Nat) b,za2 zck v=some av→za2 kk_x v=some xv→za2 zbw v=some kv→za2 kk_mid v=some (.int (m:Int))→c m=some b→tst v H=some (bi L b (!b),H)) :
  ∀ (n lo hi r:Nat) (v:Vars),Bv v av xv kv lo hi→srN c n lo hi=some r→∃ v',cWh tB (zcx bMid (bi L (cIf tst bUp bDn) (cIf tst bDn bUp))) n v H=some (.next,v',H)∧za2 zd3 v'=some (.int (r:Int)):=by
 intro n
 induction n with
 | zero=>intro lo hi r v _ h;exact nsf h
 | succ n ih =>
  intro lo hi r v B h
  rw [srN_succ] at h
  have tb:=zdj (za5 B.l H) (za5 B.h H) (ltI (lo:Int) (hi:Int) H)
  by_cases q:lo < hi
  ·rw [if_pos q] at h
   rw [decide_eq_true (by omega)] at tb
   refine za3 h fun b hb h=>?_
   have hm:bMid v H=some (.next,zab kk_mid (.int (((lo + hi) / 2:Nat):Int)) v,H):=by
    refine as_s (zb2 (zb2 (za5 B.l H) (za5 B.h H) (x:=.int ((lo:Int) + hi)) (H3:=H) rfl) (za9 _ _ _) ?_)
    rw [← mid_eq];rfl
   generalize hv1:zab kk_mid (.int (((lo + hi) / 2:Nat):Int)) v=v1 at hm
   have m1:za2 kk_mid v1=some (.int (((lo + hi) / 2:Nat):Int)):=by rw [← hv1];exact zaz
   have B1:Bv v1 av xv kv lo hi:=by
    subst hv1
    exact ⟨zac (by decide +kernel) B.a,zac (by decide +kernel) B.x,zac (by decide +kernel) B.k,zac (by decide +kernel) B.l,zac (by decide +kernel) B.h⟩
   have t1:=ht v1 _ b B1.a B1.x B1.k m1 hb
   have up:bUp v1 H=some (.next,zab zd3 (.int (((lo + hi) / 2 + 1:Nat):Int)) v1,H):=as_s (zb2 (za5 m1 H) (za9 _ _ _) rfl)
   have dn:bDn v1 H=some (.next,zab kk_hi (.int (((lo + hi) / 2:Nat):Int)) v1,H):=as_s (za5 m1 H)
   have Bu:Bv (zab zd3 (.int (((lo + hi) / 2 + 1:Nat):Int)) v1) av xv kv ((lo + hi) / 2 + 1) hi :=
    ⟨zac (by decide +kernel) B1.a,zac (by decide +kernel) B1.x,zac (by decide +kernel) B1.k,zaz,zac (by decide +kernel) B1.h⟩
   have Bd:Bv (zab kk_hi (.int (((lo + hi) / 2:Nat):Int)) v1) av xv kv lo ((lo + hi) / 2) :=
    ⟨zac (by decide +kernel) B1.a,zac (by decide +kernel) B1.x,zac (by decide +kernel) B1.k,zac (by decide +kernel) B1.l,zaz⟩
   cases b with
   | true =>
    obtain ⟨v',w1,w2⟩:=ih _ _ r _ Bu h
    refine ⟨v',(wh_t tb ((zb5 hm).trans ?_)).trans w1,w2⟩
    cases L with
    | true=>exact (if_s t1).trans up
    | false=>exact (if_s t1).trans up
   | false =>
    obtain ⟨v',w1,w2⟩:=ih _ _ r _ Bd h
    refine ⟨v',(wh_t tb ((zb5 hm).trans ?_)).trans w1,w2⟩
    cases L with
    | true=>exact (if_s t1).trans dn
    | false=>exact (if_s t1).trans dn
  ·rw [if_neg q] at h
   rw [decide_eq_false (by omega)] at tb
   obtain rfl:=sj h
   exact ⟨v,wh_f tb,B.l⟩
noncomputable def cPl (L:Bool) (xs:List AV) (xv:AV) (m:Nat):Option Bool:=o1 (nth xs m) fun y=>bi L (two (asInt y) (asInt xv) iLt) ((two (asInt xv) (asInt y) iLt).map not)
theorem two_lt (a b:AV) (H:List AO):gOf .Lt a b H=two (asInt a) (asInt b) iLt:=by
 rw [gOf_ok]
 show two (asInt a) (asInt b) (fun x y=>decide (x < y))=_
 rw [show (fun x y:Int=>decide (x < y))=iLt from funext fun x=>funext fun y=>(iLt_eq x y).symm]
noncomputable def tPl (L:Bool):CB:=bi L (zdv (gOf CmpOp.Lt) (zcj (za8 zck) (za8 kk_mid)) (za8 kk_x)) (zdv (gOf CmpOp.Lt) (za8 kk_x) (zcj (za8 zck) (za8 kk_mid)))
theorem item_at {k m:Nat} {xs:List AV} {y:AV} {H:List AO} {v:Vars} (ha:za2 zck v=some (.obj k)) (hm:za2 kk_mid v=some (.int (m:Int))) (hl:lof H k=some xs) (hy:nth xs m=some y):zcj (za8 zck) (za8 kk_mid) v H=some (y,H):=by
 refine zd4 (za5 ha H) (za5 hm H) ?_
 show o1 (lof H k) _=_
 rw [hl];exact hy
theorem tPl_s {L:Bool} {k:Nat} {xs:List AV} {xv:AV} {H:List AO} (hl:lof H k=some xs) (v:Vars) (m:Nat) (b:Bool) (ha:za2 zck v=some (.obj k)) (hx:za2 kk_x v=some xv) (hm:za2 kk_mid v=some (.int (m:Int))) (hc:cPl L xs xv m=some b):tPl L v H=some (bi L b (!b),H):=by
 refine za7 hc fun y hy hc=>?_
 have hi:=item_at ha hm hl hy
 cases L with
 | true =>
  refine zdj hi (za5 hx H) ?_
  rw [two_lt];exact hc
 | false =>
  refine zdj (za5 hx H) hi ?_
  rw [two_lt]
  obtain ⟨q,e,rfl⟩:=Option.map_eq_some_iff.mp hc
  rw [e];show some q=some (!!q)
  rw [Bool.not_not]
noncomputable def cKy (L:Bool) (g:AV→Option Int) (xs:List AV) (xv:AV) (m:Nat):Option Bool:=o1 (nth xs m) fun y=>o1 (g y) fun z=>onInt xv fun x=>some (bi L (iLt z x) (not (iLt x z)))
noncomputable def eKy (D:CallT):CE:=zc1 D (za8 zbw) (zaa (zcj (za8 zck) (za8 kk_mid)) zcd) kNil
noncomputable def tKy (D:CallT) (L:Bool):CB:=bi L (zdv (gOf CmpOp.Lt) (eKy D) (za8 kk_x)) (zdv (gOf CmpOp.Lt) (za8 kk_x) (eKy D))
theorem tKy_s {D:CallT} {L:Bool} {g:AV→Option Int} {k:Nat} {xs:List AV} {xv kv:AV} {H:List AO} (hg:∀ y z,g y=some z→D kv [y] [] H=some (.int z,H)) (hl:lof H k=some xs) (v:Vars) (m:Nat) (b:Bool) (ha:za2 zck v=some (.obj k)) (hx:za2 kk_x v=some xv) (hk:za2 zbw v=some kv)
  (hm:za2 kk_mid v=some (.int (m:Int))) (hc:cKy L g xs xv m=some b):tKy D L v H=some (bi L b (!b),H):=by
 refine za7 hc fun y hy hc=>?_
 refine za7 hc fun z hz hc=>?_
 refine zao hc ?_;rintro x rfl hc
 obtain rfl:=sj hc
 have hi:=item_at ha hm hl hy
 have he:eKy D v H=some (.int z,H):=by
  unfold eKy zc1
  rw [za5 hk H,zdg]
  show ob (ob (zcj (za8 zck) (za8 kk_mid) v H) fun v1 H1=>ob (zcd v H1) fun vs H2=>some (v1::vs,H2)) _=_
  rw [hi]
  exact hg y z hz
 cases L with
 | true=>exact zdj he (za5 hx H) rfl
 | false =>
  refine (zdj (za5 hx H) he (q:=iLt x z) rfl).trans ?_
  show some (iLt x z,H)=some (!!iLt x z,H)
  rw [Bool.not_not]
noncomputable def bS1:CS:=cIf (zdv (gOf CmpOp.Lt) (za8 zd3) (za1 (AV.int 0))) cFail cSkip
noncomputable def bS2:CS:=cIf (zdv (gOf CmpOp.Is) (za8 kk_hi) (za1 (AV.lit Value.none))) (cAs kk_hi (cLen (za8 zck))) cSkip
noncomputable def bS3 (D:CallT) (L:Bool):CS:=cIf (zdv (gOf CmpOp.Is) (za8 zbw) (za1 (AV.lit Value.none))) (wB L (tPl L)) (wB L (tKy D L))
noncomputable def bS4:CS:=cRet (za8 zd3)
noncomputable def bAll (D:CallT) (L:Bool):CS:=zcx bS1 (zcx bS2 (zcx (bS3 D L) bS4))
theorem c_bisl_eq (D:CallT):(c_bisl D).1=bAll D true:=by unfold c_bisl;rfl
theorem c_bisr_eq (D:CallT):(c_bisr D).1=bAll D false:=by unfold c_bisr;rfl
theorem len_list {f:CE} {v:Vars} {H H1:List AO} {k:Nat} {xs:List AV} (h:f v H=some (.obj k,H1)) (hl:lof H1 k=some xs):cLen f v H=some (.int (xs.length:Nat),H1):=by
 unfold cLen
 rw [h,zdg]
 show o1 (lof H1 k) (fun l=>some (AV.int (Int.ofNat (lenF l)),H1))=_
 rw [hl,ze7,zau];rfl
theorem b12 {D:CallT} {L:Bool} {k:Nat} {av xv kv:AV} {xs:List AV} {H:List AO} {lo:Nat} {hv:AV} {hi:Nat} {v:Vars} (hav:av=.obj k) (hl:lof H k=some xs) (ha:za2 zck v=some av) (hx:za2 kk_x v=some xv) (hlo:za2 zd3 v=some (.int (lo:Int))) (hh:za2 kk_hi v=some hv) (hk:za2 zbw v=some kv)
  (hhi:(hv=.lit .none∧hi=xs.length)∨hv=.int (hi:Int)):∃ v1,bAll D L v H=zcx (bS3 D L) bS4 v1 H∧Bv v1 av xv kv lo hi:=by
 subst hav
 have e1:bS1 v H=some (.next,v,H):=by
  have t:=zdj (za5 hlo H) (za9 (.int 0) v H) (ltI _ _ H)
  rw [decide_eq_false (by omega)] at t
  exact (if_s t).trans rfl
 unfold bAll
 rw [zb5 e1]
 rcases hhi with ⟨rfl,rfl⟩ | rfl
 ·have e2:bS2 v H=some (.next,zab kk_hi (.int (xs.length:Nat)) v,H):=by
   have t:zdv (gOf CmpOp.Is) (za8 kk_hi) (za1 (AV.lit Value.none)) v H=some (true,H):=zdj (za5 hh H) (za9 _ _ _) rfl
   exact (if_s t).trans (as_s (len_list (za5 ha H) hl))
  rw [zb5 e2]
  exact ⟨_,rfl,⟨zac (by decide +kernel) ha,zac (by decide +kernel) hx,zac (by decide +kernel) hk,zac (by decide +kernel) hlo,zaz⟩⟩
 ·have e2:bS2 v H=some (.next,v,H):=by
   have t:zdv (gOf CmpOp.Is) (za8 kk_hi) (za1 (AV.lit Value.none)) v H=some (false,H):=zdj (za5 hh H) (za9 _ _ _) rfl
   exact (if_s t).trans rfl
  rw [zb5 e2]
  exact ⟨_,rfl,⟨ha,hx,hk,hlo,hh⟩⟩
theorem b34 {D:CallT} {L:Bool} {k:Nat} {xs:List AV} {xv kv:AV} {H:List AO} {lo hi r:Nat} {v:Vars} (hl:lof H k=some xs) (B:Bv v (.obj k) xv kv lo hi)
  (h:(kv=.lit .none∧srN (cPl L xs xv) zar lo hi=some r)∨∃ g j,kv=.obj j∧(∀ y z,g y=some z→D kv [y] [] H=some (.int z,H))∧srN (cKy L g xs xv) zar lo hi=some r):∃ v',zcx (bS3 D L) bS4 v H=some (.ret (.int (r:Int)),v',H):=by
 rcases h with ⟨rfl,h⟩ | ⟨g,j,hj,hg,h⟩
 ·obtain ⟨v',w1,w2⟩:=loopS (tst:=tPl L) (L:=L) (fun v m b h1 h2 _ h4 h5=>tPl_s hl v m b h1 h2 h4 h5) zar lo hi r v B h
  have t:zdv (gOf CmpOp.Is) (za8 zbw) (za1 (AV.lit Value.none)) v H=some (true,H):=zdj (za5 B.k H) (za9 _ _ _) rfl
  have e:bS3 D L v H=some (.next,v',H):=(if_s t).trans w1
  exact ⟨v',(zb5 e).trans (ret_s (za5 w2 H))⟩
 ·subst hj
  obtain ⟨v',w1,w2⟩:=loopS (tst:=tKy D L) (L:=L) (fun v m b h1 h2 h3 h4 h5=>tKy_s hg hl v m b h1 h2 h3 h4 h5) zar lo hi r v B h
  have t:zdv (gOf CmpOp.Is) (za8 zbw) (za1 (AV.lit Value.none)) v H=some (false,H):=zdj (za5 B.k H) (za9 _ _ _) rfl
  have e:bS3 D L v H=some (.next,v',H):=(if_s t).trans w1
  exact ⟨v',(zb5 e).trans (ret_s (za5 w2 H))⟩
end
noncomputable section
noncomputable def pdB:List (Nat×Option AV):=[(zck,none),(kk_x,none),(zd3,some (.int 0)),(kk_hi,some (.lit .none))]
noncomputable def kwB:Option (List Nat×Nat×AV):=some ([107,101,121],zbw,.lit .none)
noncomputable def natI (i:Int):Option Nat:=Int.rec (motive:=fun _=>Option Nat) (fun n=>some n) (fun _=>none) i
theorem natI_is {i:Int} {n:Nat} (h:natI i=some n):i=(n:Int):=by
 cases i with
 | ofNat k=>obtain rfl:=sj h;rfl
 | negSucc k=>exact nsf h
noncomputable def noneV:Value→Bool
 | .none=>true
 | _=>false
theorem noneV_is {v:Value} (h:noneV v=true):v=.none:=by
 cases v<;>first | rfl | exact ftf h
noncomputable def hiOf (n:Nat) (a:AV):Option Nat:=AV.rec (motive:=fun _=>Option Nat) (fun v=>bi (noneV v) (some n) none) natI (fun _=>none) (fun _=>none) (fun _=>none) a
theorem hiOf_is {n hi:Nat} {a:AV} (h:hiOf n a=some hi):(a=.lit .none∧hi=n)∨a=.int (hi:Int):=by
 cases a with
 | lit v =>
  have h':bi (noneV v) (some n) none=some hi:=h
  rw [zay] at h'
  refine ifsk h' fun q h'=>?_
  obtain rfl:=sj h'
  exact .inl ⟨by rw [noneV_is q],rfl⟩
 | int i=>exact .inr (by rw [natI_is h])
 | _=>exact nsf h
noncomputable def kyOf (L:Bool) (kf:Nat→List AO→AV→Option Int) (xs:List AV) (xv:AV) (H:List AO) (a:AV) (lo hi:Nat):Option Nat :=
 AV.rec (motive:=fun _=>Option Nat) (fun v=>bi (noneV v) (srN (cPl L xs xv) zar lo hi) none) (fun _=>none) (fun _=>none) (fun j=>srN (cKy L (kf j H) xs xv) zar lo hi) (fun _=>none) a
noncomputable def bisV (L:Bool) (kf:Nat→List AO→AV→Option Int) (v:Vars) (H:List AO):Option (AV×List AO) :=
 o1 (za2 zck v) fun av=>onObj av fun k=>o1 (lof H k) fun xs=>o1 (za2 kk_x v) fun xv=>o1 (za2 zd3 v) fun lv=>onInt lv fun li=>o1 (natI li) fun lo =>
  o1 (za2 kk_hi v) fun hv=>o1 (hiOf (lenF xs) hv) fun hi=>o1 (za2 zbw v) fun kv=>o1 (kyOf L kf xs xv H kv lo hi) fun r=>some (.int (Int.ofNat r),H)
noncomputable def KfOk (D:CallT) (kf:Nat→List AO→AV→Option Int):Prop:=∀ j H y z,kf j H y=some z→D (.obj j) [y] [] H=some (.int z,H)
noncomputable def noKf:Nat→List AO→AV→Option Int:=fun _ _ _=>none
theorem noKf_ok {D:CallT}:KfOk D noKf:=fun _ _ _ _ h=>nsf h
theorem bisV_ok {D:CallT} {L:Bool} {kf:Nat→List AO→AV→Option Int} (hk:KfOk D kf) {v:Vars} {H:List AO} {q:AV×List AO} (h:bisV L kf v H=some q) {Γ:Prop} (κ:∀ r v',q=(.int (Int.ofNat r),H)→bAll D L v H=some (.ret (.int (Int.ofNat r)),v',H)→Γ):Γ:=by
 refine za7 h fun av h1 h=>?_
 refine zde h ?_;rintro k rfl h
 refine za7 h fun xs h2 h=>?_
 refine za7 h fun xv h3 h=>?_
 refine za7 h fun lv h4 h=>?_
 refine zao h ?_;rintro li rfl h
 refine za7 h fun lo h5 h=>?_
 refine za7 h fun hv h6 h=>?_
 refine za7 h fun hi h7 h=>?_
 refine za7 h fun kv h8 h=>?_
 refine za7 h fun r h9 h=>?_
 obtain rfl:=sj h
 obtain rfl:=natI_is h5
 rw [zau] at h7
 obtain ⟨v1,e1,B⟩:=b12 (D:=D) (L:=L) rfl h2 h1 h3 h4 h6 h8 (hiOf_is h7)
 obtain ⟨v',e2⟩:=b34 (D:=D) (L:=L) (r:=r) h2 B (by
  cases kv with
  | lit w =>
   have h':bi (noneV w) (srN (cPl L xs xv) zar lo hi) none=some r:=h9
   rw [zay] at h'
   refine ifsk h' fun q h'=>?_
   exact .inl ⟨by rw [noneV_is q],h'⟩
  | obj j=>exact .inr ⟨kf j H,j,rfl,fun y z hz=>hk j H y z hz,h9⟩
  | _=>exact nsf h9)
 exact κ r v' rfl (e1.trans e2)
noncomputable def bisCF (L:Bool) (kf:Nat→List AO→AV→Option Int):CF:=fun args kws H=>o1 (qpos pdB args) fun v1=>o1 (qkw kwB kws) fun v2=>bisV L kf (appF v1 v2) H
theorem gc_int {i:Int} {H:List AO}:gcF (lenF H) (.int i) H=(.int i,H):=by
 rw [gcF_eq,zau]
 unfold gc gcGo
 rw [List.take_length]
 split<;>rfl
theorem gc_lit {i:Value} {H:List AO}:gcF (lenF H) (.lit i) H=(.lit i,H):=by
 rw [gcF_eq,zau]
 unfold gc gcGo
 rw [List.take_length]
 split<;>rfl
theorem bisCF_ok {D:CallT} {L:Bool} {kf:Nat→List AO→AV→Option Int} (hk:KfOk D kf) {args:List AV} {kws:List (Str×AV)} {H:List AO} {q:AV×List AO} (h:bisCF L kf args kws H=some q):cGc (cFunQ pdB kwB (bAll D L)) args kws H=some q:=by
 refine za7 h fun v1 h1 h=>?_
 refine za7 h fun v2 h2 h=>?_
 refine bisV_ok hk h ?_;rintro r v' rfl e
 unfold cGc cFunQ
 rw [h1,ze7,h2,ze7,e,ox_s]
 show some (gcF (lenF H) (.int (Int.ofNat r)) H)=_
 rw [gc_int]
theorem bisl_cf {G:Str→Option AV} {T:List (Nat×UF)} {TL:List UF} {d:Nat} {D:CallT} {kf:Nat→List AO→AV→Option Int} (hk:KfOk D kf) (h:CFOk G T TL d (.code (fnd 4)) (cGc (cFunQ pdB kwB (c_bisl D).1))):CFOk G T TL d (.code (fnd 4)) (bisCF true kf):=by
 intro args kws H r e
 refine h args kws H r ?_
 rw [c_bisl_eq]
 exact bisCF_ok hk e
theorem bisr_cf {G:Str→Option AV} {T:List (Nat×UF)} {TL:List UF} {d:Nat} {D:CallT} {kf:Nat→List AO→AV→Option Int} (hk:KfOk D kf) (h:CFOk G T TL d (.code (fnd 2)) (cGc (cFunQ pdB kwB (c_bisr D).1))):CFOk G T TL d (.code (fnd 2)) (bisCF false kf):=by
 intro args kws H r e
 refine h args kws H r ?_
 rw [c_bisr_eq]
 exact bisCF_ok hk e
end
noncomputable section
noncomputable def ins4 (L:Bool) (k:Nat) (x:AV) (lo hi:Int) (H:List AO):Option (AV×List AO) :=
 o1 (natI lo) fun lo=>o1 (natI hi) fun hi=>o1 (lof H k) fun xs=>o1 (srN (cPl L xs x) zar lo hi) fun r=>bi (Nat.ble (Nat.succ (lenF xs)) 1048576) (bi (Nat.ble r (lenF xs)) (some (.lit .none,setF H (.list (insF x xs r)) k)) none) none
noncomputable def insCF (L:Bool):CF:=fun args kws H=>cO args fun k l=>onCons l fun x l=>cI l fun lo l=>cI l fun hi l=>onNil l (List.rec (motive:=fun _=>Option (AV×List AO)) (ins4 L k x lo hi H) (fun _ _ _=>none) kws)
noncomputable def iAll (D:CallT) (a:Nat):CS:=zcx
   (cIf (zdv (gOf CmpOp.Is) (za8 zbw) (za1 (AV.lit Value.none)))
    (cAs zd3 (zc1 D (za1 (AV.lit (Value.ref a))) (zaa (za8 zck) (zaa (za8 kk_x) (zaa (za8 zd3) (zaa (za8 kk_hi) zcd)))) kNil))
    (cAs zd3 (zc1 D (za1 (AV.lit (Value.ref a))) (zaa (za8 zck) (zaa (zc1 D (za8 zbw) (zaa (za8 kk_x) zcd) kNil) (zaa (za8 zd3) (zaa (za8 kk_hi) zcd)))) (kCons nmKey (za8 zbw) kNil))))
   (cExpr (cMethQ (za8 zck) mIns (zaa (za8 zd3) (zaa (za8 kk_x) zcd))))
theorem c_insl_eq (D:CallT):(c_insl D).1=iAll D 50:=by unfold c_insl;rfl
theorem c_insr_eq (D:CallT):(c_insr D).1=iAll D 32:=by unfold c_insr;rfl
theorem ins_run {D:CallT} {a k r:Nat} {x:AV} {lo hi:Int} {xs:List AV} {H:List AO} {v:Vars} (hD:D (.lit (.ref a)) [.obj k,x,.int lo,.int hi] [] H=some (.int (r:Int),H)) (hl:lof H k=some xs) (h1:xs.length < 1048576) (h2:r≤xs.length)
  (va:za2 zck v=some (.obj k)) (vx:za2 kk_x v=some x) (vl:za2 zd3 v=some (.int lo)) (vh:za2 kk_hi v=some (.int hi)) (vk:za2 zbw v=some (.lit .none)):∃ v',iAll D a v H=some (.next,v',setF H (.list (insF x xs r)) k):=by
 have t:zdv (gOf CmpOp.Is) (za8 zbw) (za1 (AV.lit Value.none)) v H=some (true,H):=zdj (za5 vk H) (za9 _ _ _) rfl
 have e1:=(if_s (f:=cAs zd3 (zc1 D (za1 (AV.lit (Value.ref a))) (zaa (za8 zck) (zaa (za8 kk_x) (zaa (za8 zd3) (zaa (za8 kk_hi) zcd)))) kNil))
  (g:=cAs zd3 (zc1 D (za1 (AV.lit (Value.ref a))) (zaa (za8 zck) (zaa (zc1 D (za8 zbw) (zaa (za8 kk_x) zcd) kNil) (zaa (za8 zd3) (zaa (za8 kk_hi) zcd)))) (kCons nmKey (za8 zbw) kNil))) t).trans
  (as_s (k:=zd3) (call_s (zad (za5 va H) (zad (za5 vx H) (zad (za5 vl H) (zad (za5 vh H) (zc8 _ _))))) hD))
 refine ⟨zab zd3 (.int (r:Int)) v,?_⟩
 unfold iAll
 rw [zb5 e1]
 have a2:za2 zck (zab zd3 (.int (r:Int)) v)=some (.obj k):=zac (by decide +kernel) va
 have x2:za2 kk_x (zab zd3 (.int (r:Int)) v)=some x:=zac (by decide +kernel) vx
 have l2:za2 zd3 (zab zd3 (.int (r:Int)) v)=some (.int (r:Int)):=zaz
 have m:cMethQ (za8 zck) mIns (zaa (za8 zd3) (zaa (za8 kk_x) zcd)) (zab zd3 (.int (r:Int)) v) H=some (.lit .none,setF H (.list (insF x xs r)) k):=by
  unfold cMethQ
  rw [za5 a2 H,zdg]
  have hs:selfF (.obj k) H=true:=by
   show Option.rec (motive:=fun _=>Bool) false (fun _=>true) (lof H k)=true
   rw [hl]
  rw [hs,bi_t,zad (za5 l2 H) (zad (za5 x2 H) (zc8 _ _)),zdg]
  show o1 (lof H k) (fun l=>bi (Nat.ble (Nat.succ (lenF l)) 1048576) (bi (Nat.ble r (lenF l)) (some (AV.lit Value.none,setF H (.list (insF x l r)) k)) none) none)=_
  rw [hl,ze7,zau,Nat.ble_eq.mpr (show Nat.succ xs.length≤1048576 from h1),bi_t,Nat.ble_eq.mpr h2,bi_t]
 unfold cExpr
 rw [m,zdg]
 show forceH _ _=_
 rw [forceH_eq]
noncomputable def dIns:CallT:=cDisp [(32,bisCF false noKf),(50,bisCF true noKf)] []
theorem qpos_4 (a x l h:AV):qpos pdB [a,x,l,h]=some [(zck,a),(kk_x,x),(zd3,l),(kk_hi,h)]:=rfl
theorem qkw_0:qkw kwB []=some [(zbw,.lit .none)]:=rfl
noncomputable def vB (a x l h k:AV):Vars:=[(zck,a),(kk_x,x),(zd3,l),(kk_hi,h),(zbw,k)]
theorem vB_a {a x l h k:AV}:za2 zck (vB a x l h k)=some a:=by kernel_rfl
theorem vB_x {a x l h k:AV}:za2 kk_x (vB a x l h k)=some x:=by kernel_rfl
theorem vB_l {a x l h k:AV}:za2 zd3 (vB a x l h k)=some l:=by kernel_rfl
theorem vB_h {a x l h k:AV}:za2 kk_hi (vB a x l h k)=some h:=by kernel_rfl
theorem vB_k {a x l h k:AV}:za2 zbw (vB a x l h k)=some k:=by kernel_rfl
theorem onInt_s {γ:Type} (i:Int) (f:Int→Option γ):onInt (.int i) f=f i:=rfl
theorem natI_s (n:Nat):natI (n:Int)=some n:=rfl
theorem hiOf_s (m n:Nat):hiOf m (.int (n:Int))=some n:=rfl
theorem bis_call {L:Bool} {k lo hi r:Nat} {x:AV} {xs:List AV} {H:List AO} (hl:lof H k=some xs) (h:srN (cPl L xs x) zar lo hi=some r):bisCF L noKf [.obj k,x,.int (lo:Int),.int (hi:Int)] [] H=some (.int (r:Int),H):=by
 unfold bisCF
 rw [qpos_4,ze7,qkw_0,ze7]
 show bisV L noKf (vB (.obj k) x (.int (lo:Int)) (.int (hi:Int)) (.lit .none)) H=_
 unfold bisV
 rw [vB_a,ze7]
 show o1 (lof H k) _=_
 rw [hl,ze7,vB_x,ze7,vB_l,ze7,onInt_s,natI_s,ze7,vB_h,ze7,hiOf_s,ze7,vB_k,ze7]
 show o1 (srN (cPl L xs x) zar lo hi) _=_
 rw [h];rfl
theorem ins4_ok {L:Bool} {a:Nat} (ha:dIns (.lit (.ref a))=bisCF L noKf) {k:Nat} {x:AV} {lo hi:Int} {H:List AO} {q:AV×List AO} (h:ins4 L k x lo hi H=some q):cGc (cFunQ pdB kwB (iAll dIns a)) [.obj k,x,.int lo,.int hi] [] H=some q:=by
 refine za7 h fun lo' e1 h=>?_
 refine za7 h fun hi' e2 h=>?_
 refine za7 h fun xs hl h=>?_
 refine za7 h fun r hr h=>?_
 rw [zay,zay,zau] at h
 refine ifsk h fun q1 h=>?_
 refine ifsk h fun q2 h=>?_
 obtain rfl:=sj h
 obtain rfl:=natI_is e1
 obtain rfl:=natI_is e2
 have hD:dIns (.lit (.ref a)) [.obj k,x,.int (lo':Int),.int (hi':Int)] [] H=some (.int (r:Int),H):=by rw [ha];exact bis_call hl hr
 obtain ⟨v',e⟩:=ins_run (v:=vB (.obj k) x (.int (lo':Int)) (.int (hi':Int)) (.lit .none)) hD hl (Nat.ble_eq.mp q1) (Nat.ble_eq.mp q2) vB_a vB_x vB_l vB_h vB_k
 unfold cGc cFunQ
 rw [qpos_4,ze7,qkw_0,ze7]
 show ob (ox (iAll dIns a (vB (.obj k) x (.int (lo':Int)) (.int (hi':Int)) (.lit .none)) H) _) _=_
 rw [e,ox_s]
 show some (gcF (lenF H) (.lit .none) (setF H (.list (insF x xs r)) k))=_
 have:lenF H=lenF (setF H (.list (insF x xs r)) k):=by rw [zau,zau,setF_eq,List.length_set]
 rw [this,gc_lit]
theorem insCF_ok {L:Bool} {a:Nat} (ha:dIns (.lit (.ref a))=bisCF L noKf) {args:List AV} {kws:List (Str×AV)} {H:List AO} {q:AV×List AO} (h:insCF L args kws H=some q):cGc (cFunQ pdB kwB (iAll dIns a)) args kws H=some q:=by
 refine cO_some h ?_;rintro k _ rfl h1
 refine onCons_some h1 ?_;rintro x _ rfl h2
 refine cI_some h2 ?_;rintro lo _ rfl h3
 refine cI_some h3 ?_;rintro hi _ rfl h4
 refine zdf h4 ?_;rintro rfl h5
 cases kws with
 | nil=>exact ins4_ok ha h5
 | cons=>exact nsf h5
theorem ze2 {α:Type} {a:Nat} {f:α}:∀ {l:List (Nat×α)},lookN a l=some f→(a,f)∈l
 | [],h=>by exact nsf h
 | (b,g)::l,h=>by
  have h':bi (Nat.beq b a) (some g) (lookN a l)=some f:=h
  rw [zay] at h'
  split at h'
  ·rename_i q
   obtain rfl:=sj h'
   rw [Nat.eq_of_beq_eq_true q];exact List.mem_cons_self ..
  ·exact List.mem_cons_of_mem _ (ze2 h')
section
variable {T:List (Nat×UF)} {TL:List UF} {d:Nat}
theorem bisl0:CFOk G2 T TL (d + 1) (.code (fnd 4)) (bisCF true noKf):=bisl_cf (D:=noDisp) noKf_ok (cGc_ok fun _ _ _ _ h=>cFunQ_ok (by kernel_rfl) (by decide +kernel) (.inr ⟨nmKey,.lit .none,by kernel_rfl,by kernel_rfl⟩) ((c_bisl noDisp).2 _ noDisp_ok zb0) h)
theorem bisr0:CFOk G2 T TL (d + 1) (.code (fnd 2)) (bisCF false noKf):=bisr_cf (D:=noDisp) noKf_ok (cGc_ok fun _ _ _ _ h=>cFunQ_ok (by kernel_rfl) (by decide +kernel) (.inr ⟨nmKey,.lit .none,by kernel_rfl,by kernel_rfl⟩) ((c_bisr noDisp).2 _ noDisp_ok zb0) h)
structure TBis (T:List (Nat×UF)):Prop where
 r:T.lookup 32=some (.code (fnd 2))
 l:T.lookup 50=some (.code (fnd 4))
theorem cDisp2_ok {a b:Nat} {f g:CF} {u v:UF} (ha:T.lookup a=some u) (hb:T.lookup b=some v) (hf:CFOk G2 T TL d u f) (hg:CFOk G2 T TL d v g):zbo (zbv G2 T TL (d + 1)) (cDisp [(a,f),(b,g)] []):=by
 refine cDisp_ok ⟨fun c x e=>?_,fun k x e=>by simp -iota at e⟩
 have hm:=ze2 e
 simp -iota only [List.mem_cons,Prod.mk.injEq,List.not_mem_nil,or_false] at hm
 rcases hm with ⟨rfl,rfl⟩ | ⟨rfl,rfl⟩
 ·exact ⟨u,ha,hf⟩
 ·exact ⟨v,hb,hg⟩
theorem dIns_ok (B:TBis T):zbo (zbv G2 T TL (d + 2)) dIns:=cDisp2_ok B.r B.l bisr0 bisl0
theorem insl0 (B:TBis T):CFOk G2 T TL (d + 2) (.code (fnd 3)) (insCF true):=by
 intro args kws H r e
 have hc:CFOk G2 T TL (d + 2) (.code (fnd 3)) (cGc (cFunQ pdB kwB (c_insl dIns).1)):=cGc_ok fun _ _ _ _ h=>cFunQ_ok (by kernel_rfl) (by decide +kernel) (.inr ⟨nmKey,.lit .none,by kernel_rfl,by kernel_rfl⟩) ((c_insl dIns).2 _ (dIns_ok B) zb0) h
 refine hc args kws H r ?_
 rw [c_insl_eq]
 exact insCF_ok (a:=50) rfl e
theorem insr0 (B:TBis T):CFOk G2 T TL (d + 2) (.code (fnd 1)) (insCF false):=by
 intro args kws H r e
 have hc:CFOk G2 T TL (d + 2) (.code (fnd 1)) (cGc (cFunQ pdB kwB (c_insr dIns).1)):=cGc_ok fun _ _ _ _ h=>cFunQ_ok (by kernel_rfl) (by decide +kernel) (.inr ⟨nmKey,.lit .none,by kernel_rfl,by kernel_rfl⟩) ((c_insr dIns).2 _ (dIns_ok B) zb0) h
 refine hc args kws H r ?_
 rw [c_insr_eq]
 exact insCF_ok (a:=32) rfl e
end
end
noncomputable section
noncomputable def xOf (t n:Nat):AV:=if t % 2=0 then .int (n:Int) else if n < 2 then .lit (.bool (decide (n=1))) else .int (n:Int)
noncomputable def ze0 (t n:Nat) (row:List AV):Option (List AV):=o1 (srN (cPl (t % 2 == 1) row (xOf t n)) zar 1 (row.length - 1)) fun r=>if r≤row.length then some (insF (xOf t n) row r) else none
noncomputable def laidGo:Nat→List Nat→List AV→Option (List AV)
 | _,[],row=>some row
 | t,n::ns,row=>(ze0 t n row).bind fun row'=>laidGo (t + 1) ns row'
noncomputable def lB1:CS:=cAs kk_x (zcj (za8 zaf) (za8 zal))
noncomputable def lR (D:CallT):CS:=cAs kk_gone (zc1 D (za1 (AV.lit (Value.ref 23))) (zaa (za8 zaj) (zaa (za8 kk_x) (zaa (za1 (AV.int 1)) (zaa (zbh gSub (cLen (za8 zaj)) (za1 (AV.int 1))) zcd)))) kNil)
noncomputable def eX:CE:=cIf (zdv (gOf CmpOp.Lt) (za8 kk_x) (za1 (AV.int 2))) (cCmp (gOf CmpOp.Eq) (za8 kk_x) (za1 (AV.int 1))) (za8 kk_x)
noncomputable def lL (D:CallT):CS:=cAs kk_gone (zc1 D (za1 (AV.lit (Value.ref 41))) (zaa (za8 zaj) (zaa eX (zaa (za1 (AV.int 1)) (zaa (zbh gSub (cLen (za8 zaj)) (za1 (AV.int 1))) zcd)))) kNil)
noncomputable def lB2 (D:CallT):CS:=cIf (zdv (gOf CmpOp.Eq) (zbh gMod (za8 zal) (za1 (AV.int 2))) (za1 (AV.int 0))) (lR D) (lL D)
noncomputable def lB3:CS:=cIf (zdv (gOf CmpOp.IsNot) (za8 kk_gone) (za1 (AV.lit Value.none))) (cRet (cList zcd)) cSkip
noncomputable def lBody (D:CallT):CS:=zcx lB1 (zcx (lB2 D) lB3)
noncomputable def lRow:CS:=cAs zaj (cList (zaa (za1 (AV.int 9)) (zaa (cNeg (za1 (AV.int 9))) zcd)))
theorem c_laid_eq (D:CallT):(c_laid D).1=zcx lRow (zcx (cFor zal (cRange (cLen (za8 zaf))) (lBody D)) (cRet (za8 zaj))):=by unfold c_laid;rfl
theorem list_s {g:Vars→List AO→Option (List AV×List AO)} {v:Vars} {H H1:List AO} {xs:List AV} (hg:g v H=some (xs,H1)) (hl:xs.length≤1000):cList g v H=some (.obj H1.length,H1++[.list xs]):=by
 unfold cList
 rw [hg,zdg,newLF_eq]
 unfold newL
 rw [if_pos (by omega)]
noncomputable def dLaid:CallT:=cDisp [(23,insCF false),(41,insCF true)] []
theorem eqI (x y:Int) (H:List AO):gOf .Eq (.int x) (.int y) H=some (decide (x=y)):=by
 show some (iEq x y)=_
 rw [iEq_eq]
theorem fmodN (t k:Nat):Int.fmod (t:Int) (k:Int)=((t % k:Nat):Int):=by
 rw [Int.fmod_eq_emod_of_nonneg _ (Int.natCast_nonneg k)];rfl
theorem ins_call {L:Bool} {k hi r:Nat} {x:AV} {xs:List AV} {H:List AO} (hl:lof H k=some xs) (hn:xs.length < 1000) (hh:hi=xs.length - 1) (h:srN (cPl L xs x) zar 1 (xs.length - 1)=some r) (hr:r≤xs.length) :
  insCF L [.obj k,x,.int 1,.int (hi:Int)] [] H=some (.lit .none,setF H (.list (insF x xs r)) k):=by
 subst hh
 show ins4 L k x ((1:Nat):Int) ((xs.length - 1:Nat):Int) H=_
 unfold ins4
 rw [natI_s,ze7,natI_s,ze7,hl,ze7,h,ze7,zau,Nat.ble_eq.mpr (show Nat.succ xs.length≤1048576 by omega),bi_t,Nat.ble_eq.mpr hr,bi_t]
theorem gone_s {D:CallT} {a q:Nat} {x:AV} {ex:CE} {row row':List AV} {v:Vars} {H:List AO} (vr:za2 zaj v=some (.obj q)) (hx:ex v H=some (x,H)) (hl:lof H q=some row) (h2:2≤row.length)
  (hD:D (.lit (.ref a)) [.obj q,x,.int 1,.int ((row.length - 1:Nat):Int)] [] H=some (.lit .none,setF H (.list row') q)) :
  cAs kk_gone (zc1 D (za1 (AV.lit (Value.ref a))) (zaa (za8 zaj) (zaa ex (zaa (za1 (AV.int 1)) (zaa (zbh gSub (cLen (za8 zaj)) (za1 (AV.int 1))) zcd)))) kNil) v H=some (.next,zab kk_gone (.lit .none) v,setF H (.list row') q):=by
 have hs:zbh gSub (cLen (za8 zaj)) (za1 (AV.int 1)) v H=some (.int ((row.length - 1:Nat):Int),H):=by
  refine zb2 (len_list (za5 vr H) hl) (za9 _ _ _) ?_
  show some (AV.int ((row.length:Int) - 1),H)=_
  rw [show ((row.length:Int) - 1)=((row.length - 1:Nat):Int) by omega]
 exact as_s (call_s (zad (za5 vr H) (zad hx (zad (za9 _ _ _) (zad hs (zc8 _ _))))) hD)
theorem laid_turn {p q t n:Nat} {ns row row':List AV} {v:Vars} {H:List AO} (vn:za2 zaf v=some (.obj p)) (vr:za2 zaj v=some (.obj q)) (hp:lof H p=some ns) (hn:nth ns t=some (.int (n:Int))) (hl:lof H q=some row) (h2:2≤row.length) (h3:row.length < 1000) (h:ze0 t n row=some row') :
  ∃ v',lBody dLaid (zab zal (.int (t:Int)) v) H=some (.next,v',setF H (.list row') q)∧za2 zaf v'=some (.obj p)∧za2 zaj v'=some (.obj q):=by
 refine za7 h fun r hr h=>?_
 refine ifsk h fun hle h=>?_
 obtain rfl:=sj h
 generalize hv1:zab zal (.int (t:Int)) v=v1
 have n1:za2 zaf v1=some (.obj p):=by rw [← hv1];exact zac (by decide +kernel) vn
 have r1:za2 zaj v1=some (.obj q):=by rw [← hv1];exact zac (by decide +kernel) vr
 have t1:za2 zal v1=some (.int (t:Int)):=by rw [← hv1];exact zaz
 have s1:lB1 v1 H=some (.next,zab kk_x (.int (n:Int)) v1,H):=as_s (zd4 (za5 n1 H) (za5 t1 H) (by
  show o1 (lof H p) _=_
  rw [hp];exact hn))
 generalize hv2:zab kk_x (.int (n:Int)) v1=v2 at s1
 have n2:za2 zaf v2=some (.obj p):=by rw [← hv2];exact zac (by decide +kernel) n1
 have r2:za2 zaj v2=some (.obj q):=by rw [← hv2];exact zac (by decide +kernel) r1
 have t2:za2 zal v2=some (.int (t:Int)):=by rw [← hv2];exact zac (by decide +kernel) t1
 have x2:za2 kk_x v2=some (.int (n:Int)):=by rw [← hv2];exact zaz
 have tt:zdv (gOf CmpOp.Eq) (zbh gMod (za8 zal) (za1 (AV.int 2))) (za1 (AV.int 0)) v2 H=some (decide (t % 2=0),H):=by
  have:=zdj (zb2 (g:=gMod) (za5 t2 H) (za9 (.int 2) _ _) (x:=.int (Int.fmod (t:Int) ((2:Nat):Int))) (H3:=H) rfl) (za9 (.int 0) _ _) (eqI _ _ H)
  rw [this,fmodN]
  congr 2
  exact decide_eq_decide.mpr (by omega)
 have s2:lB2 dLaid v2 H=some (.next,zab kk_gone (.lit .none) v2,setF H (.list (insF (xOf t n) row r)) q):=by
  refine (if_s (f:=lR dLaid) (g:=lL dLaid) tt).trans ?_
  by_cases hq:t % 2=0
  ·rw [if_pos (by simpa -iota using hq)]
   have hx:xOf t n=.int (n:Int):=by unfold xOf;rw [if_pos hq]
   rw [hx] at hr ⊢
   rw [show (t % 2 == 1)=false by simp -iota;omega] at hr
   exact gone_s r2 (za5 x2 H) hl h2 (ins_call hl h3 rfl hr hle)
  ·rw [if_neg (by simpa -iota using hq)]
   rw [show (t % 2 == 1)=true by simp -iota;omega] at hr
   have lt:zdv (gOf CmpOp.Lt) (za8 kk_x) (za1 (AV.int 2)) v2 H=some (decide ((n:Int) < 2),H):=zdj (za5 x2 H) (za9 _ _ _) (ltI _ _ H)
   have hx:eX v2 H=some (xOf t n,H):=by
    refine (if_s (f:=cCmp (gOf CmpOp.Eq) (za8 kk_x) (za1 (AV.int 1))) (g:=za8 kk_x) lt).trans ?_
    unfold xOf
    rw [if_neg hq]
    by_cases hn2:n < 2
    ·rw [if_pos hn2,if_pos (by simp -iota;omega)]
     unfold cCmp
     rw [za5 x2 H,zdg,za9,zdg,eqI,ze7]
     congr 4
     exact decide_eq_decide.mpr (by omega)
    ·rw [if_neg hn2,if_neg (by simp -iota;omega)]
     exact za5 x2 H
   exact gone_s r2 hx hl h2 (ins_call hl h3 rfl hr hle)
 refine ⟨zab kk_gone (.lit .none) v2,?_,zac (by decide +kernel) n2,zac (by decide +kernel) r2⟩
 unfold lBody
 rw [zb5 s1,zb5 s2]
 have tg:zdv (gOf CmpOp.IsNot) (za8 kk_gone) (za1 (AV.lit Value.none)) (zab kk_gone (.lit .none) v2) (setF H (.list (insF (xOf t n) row r)) q)=some (false,setF H (.list (insF (xOf t n) row r)) q) :=
  zdj (za5 (zaz) _) (za9 _ _ _) rfl
 exact (if_s tg).trans rfl
theorem insF_len (x:AV) (l:List AV) (k:Nat):(insF x l k).length=l.length + 1:=by
 rw [insF_eq,List.length_append,List.length_cons,List.length_take,List.length_drop];omega
theorem laid_loop {p:Nat} {H0:List AO} {rg:AO} {it:AV} {all:List AV} {ns:List AV} (hp:lof H0 p=some ns):∀ (rem:List Nat) (t:Nat) (row row':List AV) (v:Vars),(∀ (i n:Nat),rem[i]?=some n→nth ns (t + i)=some (.int (n:Int)))→row.length=t + 2→t + rem.length≤9 →
  za2 zaf v=some (.obj p)→za2 zaj v=some (.obj H0.length)→laidGo t rem row=some row' →
  ∃ v',cFr zal (lBody dLaid) it false all (idxs t rem.length) v (H0++[.list row,rg])=some (.next,v',H0++[.list row',rg])∧za2 zaj v'=some (.obj H0.length):=by
 intro rem
 induction rem with
 | nil =>
  intro t row row' v _ _ _ vn vr h
  obtain rfl:=sj h
  exact ⟨v,fr_nil,vr⟩
 | cons n rem ih =>
  intro t row row' v hs hlen hle vn vr h
  refine za3 h fun row1 h1 h=>?_
  have hplt:p < H0.length:=by
   rw [zdq] at hp
   obtain ⟨o,e,_⟩:∃ o,H0[p]?=some o∧True:=by
    simp only [zah,zaw] at hp
    cases q:H0[p]? with
    | none=>rw [q] at hp;exact nsf hp
    | some o=>exact ⟨o,rfl,trivial⟩
   exact (List.getElem?_eq_some_iff.mp e).1
  have hp':∀ rest,lof (H0++rest) p=some ns:=fun rest=>by
   rw [zdq] at hp ⊢
   simp only [zah,zaw,List.getElem?_append_left hplt] at hp ⊢
   exact hp
  have hq:lof (H0++[.list row,rg]) H0.length=some row:=by
   rw [zdq]
   simp only [zah,zaw,List.getElem?_append_right (Nat.le_refl _),Nat.sub_self,List.getElem?_cons_zero]
  obtain ⟨v1,e1,vn1,vr1⟩:=laid_turn vn vr (hp' _) (by have:=hs 0 n rfl;simpa using this) hq (by omega) (by simp at hle;omega) h1
  have hset:setF (H0++[.list row,rg]) (.list row1) H0.length=H0++[.list row1,rg]:=by
   rw [setF_eq,List.set_append_right _ _ (Nat.le_refl _)];simp
  rw [hset] at e1
  have hl1:row1.length=t + 1 + 2:=by
   refine za7 h1 fun r _ h1=>?_
   refine ifsk h1 fun _ h1=>?_
   obtain rfl:=sj h1
   rw [insF_len];omega
  obtain ⟨v2,g1,g2⟩:=ih (t + 1) row1 row' v1 (fun i m hi=>by have:=hs (i + 1) m hi;rw [show t + (i + 1)=t + 1 + i by omega] at this;exact this) hl1 (by simp at hle;omega) vn1 vr1 h
  refine ⟨v2,?_,g2⟩
  have hi:idxs t (n::rem).length=.int (t:Int)::idxs (t + 1) rem.length:=by simp [idxs,List.range'_succ]
  rw [hi,fr_cons e1,g1]
noncomputable def natsOf:List AV→Option (List Nat)
 | []=>some []
 | x::xs=>onInt x fun i=>(natI i).bind fun n=>(natsOf xs).bind fun l=>some (n::l)
theorem natsOf_is:∀ {xs:List AV} {ns:List Nat},natsOf xs=some ns→xs=ns.map fun (n:Nat)=>AV.int (n:Int)
 | [],ns,h=>by obtain rfl:=sj h;rfl
 | x::xs,ns,h=>by
  refine zao (a:=x) (f:=fun i=>(natI i).bind fun n=>(natsOf xs).bind fun l=>some (n::l)) h ?_;rintro i rfl h
  refine za3 h fun n e1 h=>?_
  refine za3 h fun l e2 h=>?_
  obtain rfl:=sj h
  rw [natI_is e1,natsOf_is e2];rfl
noncomputable def laid1 (p:Nat) (H:List AO):Option (AV×List AO):=o1 (lof H p) fun xs=>(natsOf xs).bind fun ns=>(laidGo 0 ns [.int 9,.int (-9)]).bind fun row=>if ns.length≤9 then some (gcF (lenF H) (.obj (lenF H)) (H++[.list row,.range 0 (ns.length:Int) 1])) else none
noncomputable def laidCF:CF:=fun args kws H=>cO args fun p l=>onNil l (List.rec (motive:=fun _=>Option (AV×List AO)) (laid1 p H) (fun _ _ _=>none) kws)
theorem laid_run {p:Nat} {ns:List Nat} {row:List AV} {H:List AO} (hp:lof H p=some (ns.map fun (n:Nat)=>AV.int (n:Int))) (h:laidGo 0 ns [.int 9,.int (-9)]=some row) (hl:ns.length≤9) :
  ∃ v',(c_laid dLaid).1 [(zaf,.obj p)] H=some (.ret (.obj H.length),v',H++[.list row,.range 0 (ns.length:Int) 1]):=by
 rw [c_laid_eq]
 have e1:lRow [(zaf,.obj p)] H=some (.next,zab zaj (.obj H.length) [(zaf,.obj p)],H++[.list [.int 9,.int (-9)]]) :=
  as_s (list_s (xs:=[.int 9,.int (-9)]) rfl (by simp))
 rw [zb5 e1]
 generalize hv:zab zaj (.obj H.length) [(zaf,AV.obj p)]=v
 have vn:za2 zaf v=some (.obj p):=by rw [← hv,zae,if_neg (by decide +kernel)];rfl
 have vr:za2 zaj v=some (.obj H.length):=by rw [← hv];exact zaz
 have hplt:p < H.length:=by
  rw [zdq] at hp
  simp only [zah,zaw] at hp
  cases q:H[p]? with
  | none=>rw [q] at hp;exact nsf hp
  | some o=>exact (List.getElem?_eq_some_iff.mp q).1
 have hp1:lof (H++[.list [.int 9,.int (-9)]]) p=some (ns.map fun (n:Nat)=>AV.int (n:Int)):=by
  rw [zdq] at hp ⊢
  simp only [zah,zaw,List.getElem?_append_left hplt] at hp ⊢
  exact hp
 have hlen:=len_list (za5 vn _) hp1
 rw [List.length_map] at hlen
 have ef:=for_range (k:=zal) (b:=lBody dLaid) hl hlen
 obtain ⟨v',g1,g2⟩:=laid_loop (rg:=.range 0 (ns.length:Int) 1) (it:=.obj (H++[AO.list [.int 9,.int (-9)]]).length) (all:=idxs 0 ns.length) hp ns 0 _ row v (fun i n hi=>by rw [Nat.zero_add,zaw,List.getElem?_map,hi];rfl) rfl (by omega) vn vr h
 rw [List.append_assoc] at ef
 have e2:cFor zal (cRange (cLen (za8 zaf))) (lBody dLaid) v (H++[.list [.int 9,.int (-9)]])=some (.next,v',H++[.list row,.range 0 (ns.length:Int) 1]):=ef.trans g1
 exact ⟨v',(zb5 e2).trans (ret_s (za5 g2 _))⟩
section
variable {T:List (Nat×UF)} {TL:List UF} {d:Nat}
structure TLaid (T:List (Nat×UF)):Prop extends TBis T where
 ir:T.lookup 23=some (.code (fnd 1))
 il:T.lookup 41=some (.code (fnd 3))
theorem dLaid_ok (B:TLaid T):zbo (zbv G2 T TL (d + 3)) dLaid:=cDisp2_ok B.ir B.il (insr0 B.toTBis) (insl0 B.toTBis)
theorem laid0 (B:TLaid T):CFOk G2 T TL (d + 3) (.code (fnd 15)) laidCF:=by
 intro args kws H r e
 have hc:CFOk G2 T TL (d + 3) (.code (fnd 15)) (cGc (cFunQ [(zaf,none)] none (c_laid dLaid).1)):=cGc_ok fun _ _ _ _ h=>cFunQ_ok (by kernel_rfl) (by decide +kernel) (.inl ⟨by kernel_rfl,rfl⟩) ((c_laid dLaid).2 _ (dLaid_ok B) zb0) h
 refine hc args kws H r ?_
 refine cO_some e ?_;rintro p _ rfl e
 refine zdf e ?_;rintro rfl e
 cases kws with
 | nil =>
  refine za7 e fun xs hp e=>?_
  refine za3 e fun ns e1 e=>?_
  refine za3 e fun row e2 e=>?_
  refine ifsk e fun hl e=>?_
  obtain rfl:=sj e
  rw [natsOf_is e1] at hp
  obtain ⟨v',g⟩:=laid_run hp e2 hl
  unfold cGc cFunQ
  rw [show qpos [(zaf,none)] [.obj p]=some [(zaf,.obj p)] from rfl,ze7,show qkw none []=some [] from rfl,ze7]
  show ob (ox ((c_laid dLaid).1 [(zaf,.obj p)] H) _) _=_
  rw [g,ox_s,zau]
  rfl
 | cons=>exact nsf e
end
end
noncomputable section
noncomputable def codeP (t n:Nat):Nat:=2 * n + (if t % 2=0∨1 < n then 1 else 0)
noncomputable def dA (c:Nat):AV:=if c % 2=1 then .int ((c / 2:Nat):Int) else .lit (.bool (decide (c / 2=1)))
noncomputable def dec (L:List Nat):List AV:=.int 9::(L.map dA++[.int (-9)])
noncomputable def insN (x:Nat):List Nat→List Nat
 | []=>[x]
 | y::l=>if x≤y then x::y::l else y::insN x l
noncomputable def CC:List Nat:=[0,1,2,3,5,7,9,11]
noncomputable def allS:Nat→List (List Nat)
 | 0=>[[]]
 | k + 1=>CC.flatMap fun c=>((allS k).filter fun L=>L.all fun x=>Nat.ble c x).map fun L=>c::L
structure PS (k:Nat) (L:List Nat):Prop where
 len:L.length=k
 srt:L.Pairwise (·≤·)
 mem:∀ c∈L,c∈CC
theorem PS.all:∀ {k:Nat} {L:List Nat},PS k L→L∈allS k
 | 0,[],_=>List.mem_cons_self ..
 | 0,_::_,h=>by have:=h.len;simp -iota at this
 | k + 1,[],h=>by have:=h.len;simp -iota at this
 | k + 1,c::L,h=>by
  have h':PS k L:=⟨by have:=h.len;simpa -iota using this,(List.pairwise_cons.mp h.srt).2,fun x hx=>h.mem x (List.mem_cons_of_mem _ hx)⟩
  refine List.mem_flatMap.mpr ⟨c,h.mem c (List.mem_cons_self ..),List.mem_map.mpr ⟨L,List.mem_filter.mpr ⟨h'.all,?_⟩,rfl⟩⟩
  exact List.all_eq_true.mpr fun x hx=>Nat.ble_eq.mpr ((List.pairwise_cons.mp h.srt).1 x hx)
theorem insN_perm (x:Nat):∀ l:List Nat,(insN x l).Perm (x::l)
 | []=>.refl _
 | y::l=>by
  unfold insN
  split
  ·exact .refl _
  ·exact ((insN_perm x l).cons y).trans (List.Perm.swap x y l)
theorem insN_srt (x:Nat):∀ l:List Nat,l.Pairwise (·≤·)→(insN x l).Pairwise (·≤·)
 | [],_=>by simp -iota [insN]
 | y::l,h=>by
  unfold insN
  split
  ·rename_i q
   refine List.pairwise_cons.mpr ⟨fun z hz=>?_,h⟩
   rcases List.mem_cons.mp hz with rfl | hz
   ·exact q
   ·exact Nat.le_trans q ((List.pairwise_cons.mp h).1 z hz)
  ·rename_i q
   obtain ⟨h1,h2⟩:=List.pairwise_cons.mp h
   refine List.pairwise_cons.mpr ⟨fun z hz=>?_,insN_srt x l h2⟩
   rcases List.mem_cons.mp ((insN_perm x l).mem_iff.mp hz) with rfl | hz
   ·omega
   ·exact h1 z hz
theorem PS.ins {k c:Nat} {L:List Nat} (h:PS k L) (hc:c∈CC):PS (k + 1) (insN c L) :=
 ⟨by rw [(insN_perm c L).length_eq,List.length_cons,h.len],insN_srt c L h.srt,fun x hx=>by
  rcases List.mem_cons.mp ((insN_perm c L).mem_iff.mp hx) with rfl | hx
  ·exact hc
  ·exact h.mem x hx⟩
noncomputable def isL (z:Option (List AV)) (l:List AV):Bool:=Option.rec (motive:=fun _=>Bool) false (fun x=>lEq x l) z
theorem isL_ok {z:Option (List AV)} {l:List AV} (h:isL z l=true):z=some l:=by
 cases z with
 | none=>exact ftf h
 | some x=>exact congrArg some (lEq_eq h)
noncomputable def stepOk (t n:Nat) (L:List Nat):Bool:=isL (ze0 t n (dec L)) (dec (insN (codeP t n) L))
theorem steps_ok:([0,1,2,3,4].all fun k=>(allS k).all fun L=>[0,1,2,3,4,5].all fun n=>stepOk 0 n L && stepOk 1 n L)=true:=by decide +kernel
theorem upto4 {k:Nat} (h:k≤4):k∈[0,1,2,3,4]:=List.mem_range.mpr (Nat.lt_succ_of_le h)
theorem upto5 {k:Nat} (h:k < 6):k∈[0,1,2,3,4,5]:=List.mem_range.mpr h
theorem code_all:∀ n∈[0,1,2,3,4,5],codeP 0 n∈CC∧codeP 1 n∈CC:=by decide +kernel
theorem codeP_mod (t n:Nat):codeP t n=codeP (t % 2) n:=by unfold codeP;rw [Nat.mod_mod]
theorem codeP_mem (t n:Nat) (hn:n < 6):codeP t n∈CC:=by
 have:=code_all n (upto5 hn)
 rw [codeP_mod]
 rcases Nat.mod_two_eq_zero_or_one t with q | q<;>rw [q]
 ·exact this.1
 ·exact this.2
theorem step_of {t n:Nat} {L:List Nat} {k:Nat} (h:PS k L) (hk:k≤4) (hn:n < 6):ze0 t n (dec L)=some (dec (insN (codeP t n) L)):=by
 have h1:=List.all_eq_true.mp steps_ok k (upto4 hk)
 have h2:=List.all_eq_true.mp h1 L h.all
 have h3:=List.all_eq_true.mp h2 n (upto5 hn)
 rw [Bool.and_eq_true] at h3
 rcases Nat.mod_two_eq_zero_or_one t with q | q
 ·have e1:ze0 t n (dec L)=ze0 0 n (dec L):=by unfold ze0 xOf;rw [q]
  have e2:codeP t n=codeP 0 n:=by rw [codeP_mod,q]
  rw [e1,e2];exact isL_ok h3.1
 ·have e1:ze0 t n (dec L)=ze0 1 n (dec L):=by unfold ze0 xOf;rw [q]
  have e2:codeP t n=codeP 1 n:=by rw [codeP_mod,q]
  rw [e1,e2];exact isL_ok h3.2
noncomputable def foldIns:Nat→List Nat→List Nat→List Nat
 | _,[],L=>L
 | t,n::ns,L=>foldIns (t + 1) ns (insN (codeP t n) L)
noncomputable def zdr:Nat→List Nat→List Nat
 | _,[]=>[]
 | t,n::ns=>codeP t n::zdr (t + 1) ns
theorem laid_dec:∀ (ns:List Nat) (t:Nat) (L:List Nat),PS t L→t + ns.length≤5→(∀ n∈ns,n < 6)→laidGo t ns (dec L)=some (dec (foldIns t ns L))∧PS (t + ns.length) (foldIns t ns L)∧(foldIns t ns L).Perm (zdr t ns++L)
 | [],t,L,h,_,_=>⟨rfl,h,.refl _⟩
 | n::ns,t,L,h,hl,hn=>by
  simp -iota only [List.length_cons] at hl
  obtain ⟨g1,g2,g3⟩:=laid_dec ns (t + 1) (insN (codeP t n) L) (h.ins (codeP_mem t n (hn n (List.mem_cons_self ..)))) (by omega) (fun m hm=>hn m (List.mem_cons_of_mem _ hm))
  refine ⟨?_,?_,?_⟩
  ·show (ze0 t n (dec L)).bind _=_
   rw [step_of h (by omega) (hn n (List.mem_cons_self ..)),Option.bind_some]
   exact g1
  ·rw [List.length_cons,show t + (ns.length + 1)=t + 1 + ns.length by omega];exact g2
  ·refine g3.trans ?_
   show (zdr (t + 1) ns++insN (codeP t n) L).Perm (codeP t n::(zdr (t + 1) ns++L))
   exact ((insN_perm _ L).append_left _).trans List.perm_middle
theorem map_srt {L:List Nat} (h:L.Pairwise (·≤·)):(L.map fun (c:Nat)=>(c:Int)).Pairwise (·≤·) :=
 List.pairwise_map.mpr (h.imp fun h=>Int.ofNat_le.mpr h)
theorem laid_all {ns:List Nat} (hl:ns.length≤5) (hn:∀ n∈ns,n < 6) {Γ:Prop} (κ:∀ L,laidGo 0 ns [.int 9,.int (-9)]=some (dec L)→PS ns.length L→(srtI ((zdr 0 ns).map fun (c:Nat)=>(c:Int))=L.map fun (c:Nat)=>(c:Int))→Γ):Γ:=by
 obtain ⟨g1,g2,g3⟩:=laid_dec ns 0 [] ⟨rfl,.nil,fun _ h=>nomatch h⟩ (by omega) hn
 refine κ _ g1 (by simpa -iota using g2) ?_
 rw [List.append_nil] at g3
 exact List.Perm.eq_of_pairwise (fun a b _ _ h1 h2=>Int.le_antisymm h1 h2) (srtI_sorted _) (map_srt g2.srt) ((srtI_perm _).trans (g3.map _).symm)
end
noncomputable section
noncomputable def wrGo (mem:Nat→Bool) (low sg:Nat):List Nat→List Nat→List Nat
 | [],text=>text
 | j::js,text=>wrGo mem low sg js ((text++[48 + j])++(if decide (low < j) && mem j then [sg] else []))
noncomputable def jsOf (low high:Nat):List Nat:=(List.range' low (high - low)).reverse
noncomputable def wr (mem:Nat→Bool) (low high sg:Nat):List Nat:=wrGo mem low sg (jsOf low high) []
theorem sL_app (l m:List Nat):sL l++sL m=sL (l++m):=by
 show (⟨l.toArray++m.toArray⟩:Str)=⟨(l++m).toArray⟩
 rw [List.append_toArray]
theorem addS {l m:List Nat} (H:List AO) (h:l.length + m.length≤1000):gAdd (.str (sL l)) (.str (sL m)) H=some (.str (sL (l++m)),H):=by
 show binAdd (.str (sL l)) (.str (sL m)) H=_
 show (if (sL l).length + (sL m).length≤1048576 then some (AV.str (sL l++sL m),H) else none)=_
 rw [if_pos (by rw [sL_len,sL_len];omega),sL_app]
theorem anyEq_ints (j:Int):∀ is:List Int,anyEq (.int j) (is.map .int)=some (is.any fun i=>i == j)
 | []=>rfl
 | i::is=>by
  show (do let b ← eqF (.int i) (.int j);let r ← anyEq (.int j) (is.map .int);some (b || r))=_
  rw [anyEq_ints j is];rfl
noncomputable def memI (is:List Int) (j:Nat):Bool:=is.any fun i=>i == (j:Int)
noncomputable def wB0:CE:=cIf (tAnd (zdv (gOf CmpOp.Lt) (za8 zd1) (za8 kk_j)) (tAnd (zdv (gOf CmpOp.In) (za8 kk_j) (za8 zbk)) tTrue)) (za8 kk_sign) (za1 (AV.str (Str.ofString "")))
noncomputable def wBody:CS:=cAs kk_text (zbh gAdd (zbh gAdd (za8 kk_text) (zcj (za1 (AV.str (Str.ofString "01234"))) (za8 kk_j))) wB0)
noncomputable def wRange (D:CallT):CE:=zc1 D (za1 (AV.lit (Value.type "range"))) (zaa (zbh gSub (za8 zbr) (za1 (AV.int 1))) (zaa (zbh gSub (za8 zd1) (za1 (AV.int 1))) (zaa (cNeg (za1 (AV.int 1))) zcd))) kNil
theorem c_written_eq (D:CallT):(c_written D).1=zcx (cAs kk_text (za1 (AV.str (Str.ofString "")))) (zcx (cFor kk_j (wRange D) wBody) (cRet (za8 kk_text))):=by unfold c_written;rfl
theorem emp_sL:Str.ofString ""=sL []:=by decide +kernel
theorem dig_sL:Str.ofString "01234"=sL [48,49,50,51,52]:=by decide +kernel
structure Wv (v:Vars) (m low:Nat) (sg:Nat) (text:List Nat):Prop where
 m:za2 zbk v=some (.obj m)
 l:za2 zd1 v=some (.int (low:Int))
 s:za2 kk_sign v=some (.str (sL [sg]))
 t:za2 kk_text v=some (.str (sL text))
theorem dig_at {j:Nat} (h:j < 5):([48,49,50,51,52]:List Nat)[j]?=some (48 + j):=by
 have:=List.getElem?_range' (s:=48) (step:=1) h
 rwa [Nat.one_mul] at this
theorem w_turn {m low sg j:Nat} {text:List Nat} {is:List Int} {v:Vars} {H:List AO} (W:Wv v m low sg text) (hm:lof H m=some (is.map .int)) (hj:j < 5) (ht:text.length≤100) :
  ∃ v',wBody (zab kk_j (.int (j:Int)) v) H=some (.next,v',H)∧Wv v' m low sg ((text++[48 + j])++(if decide (low < j) && memI is j then [sg] else [])):=by
 generalize hv:zab kk_j (.int (j:Int)) v=v1
 have vj:za2 kk_j v1=some (.int (j:Int)):=by rw [← hv];exact zaz
 have W1:Wv v1 m low sg text:=by
  subst hv
  exact ⟨zac (by decide +kernel) W.m,zac (by decide +kernel) W.l,zac (by decide +kernel) W.s,zac (by decide +kernel) W.t⟩
 have x1:zcj (za1 (AV.str (Str.ofString "01234"))) (za8 kk_j) v1 H=some (.str (sL [48 + j]),H):=by
  refine zd4 (za9 _ _ _) (za5 vj H) ?_
  rw [dig_sL]
  exact itemF_str (item_pos _ (by simp -iota) (dig_at hj) H)
 have x2:=zb2 (za5 W1.t H) x1 (addS H (by simp -iota;omega))
 have t1:=zdj (za5 W1.l H) (za5 vj H) (ltI (low:Int) (j:Int) H)
 have t2:zdv (gOf CmpOp.In) (za8 kk_j) (za8 zbk) v1 H=some (memI is j,H):=by
  refine zdj (za5 vj H) (za5 W1.m H) ?_
  rw [gOf_ok]
  show (zah H (.obj m)).bind (anyEq (.int (j:Int)))=_
  rw [← zdq,hm,Option.bind_some,anyEq_ints];rfl
 have hd:decide ((low:Int) < (j:Int))=decide (low < j):=decide_eq_decide.mpr (by omega)
 rw [hd] at t1
 have tt:tAnd (zdv (gOf CmpOp.Lt) (za8 zd1) (za8 kk_j)) (tAnd (zdv (gOf CmpOp.In) (za8 kk_j) (za8 zbk)) tTrue) v1 H=some (decide (low < j) && memI is j,H):=by
  cases q:decide (low < j) with
  | false=>rw [q] at t1;rw [and_f t1];rfl
  | true =>
   rw [q] at t1
   rw [and_t t1]
   cases q2:memI is j with
   | false=>rw [q2] at t2;rw [and_f t2];rfl
   | true=>rw [q2] at t2;rw [and_t t2];rfl
 have x3:wB0 v1 H=some (.str (sL (if decide (low < j) && memI is j then [sg] else [])),H):=by
  refine (if_s (f:=za8 kk_sign) (g:=za1 (AV.str (Str.ofString ""))) tt).trans ?_
  split
  ·exact za5 W1.s H
  ·rw [emp_sL];rfl
 have x4:=as_s (k:=kk_text) (zb2 x2 x3 (addS H (by split<;>simp -iota<;>omega)))
 refine ⟨_,x4,?_⟩
 exact ⟨zac (by decide +kernel) W1.m,zac (by decide +kernel) W1.l,zac (by decide +kernel) W1.s,zaz⟩
theorem w_loop {m low sg:Nat} {is:List Int} {H:List AO} {it:AV} {all:List AV} (hm:lof H m=some (is.map .int)):∀ (js text:List Nat) (v:Vars),(∀ j∈js,j < 5)→text.length + 2 * js.length≤100→Wv v m low sg text →
  ∃ v',cFr kk_j wBody it false all (js.map fun (j:Nat)=>AV.int (j:Int)) v H=some (.next,v',H)∧Wv v' m low sg (wrGo (memI is) low sg js text)
 | [],text,v,_,_,W=>⟨v,fr_nil,W⟩
 | j::js,text,v,hj,hl,W=>by
  simp -iota only [List.length_cons] at hl
  obtain ⟨v1,e1,W1⟩:=w_turn W hm (hj j (List.mem_cons_self ..)) (by omega)
  obtain ⟨v2,e2,W2⟩:=w_loop hm js _ v1 (fun i hi=>hj i (List.mem_cons_of_mem _ hi)) (by
   rw [List.length_append,List.length_append]
   have:(if decide (low < j) && memI is j then [sg] else []).length≤1:=by split<;>simp -iota
   simp -iota only [List.length_cons,List.length_nil];omega) W1
  refine ⟨v2,?_,W2⟩
  rw [List.map_cons,fr_cons e1,e2]
noncomputable def lhP:List (Nat×Nat):=[(0,2),(0,3),(0,4),(0,5),(1,3),(1,4),(1,5),(2,4),(2,5),(3,5)]
theorem js_ok:(lhP.all fun p=>(jsOf p.1 p.2).all fun j=>decide (j < 5))=true:=by decide +kernel
theorem jsl_ok:(lhP.all fun p=>decide ((jsOf p.1 p.2).length≤5))=true:=by decide +kernel
theorem wr_items:∀ p∈lhP,(decide ((-1:Int)≠0) && Builtin.Range.small ((p.2:Int) - 1) ((p.1:Int) - 1) (-1) && decide ((Builtin.Range.rangeSize ((p.2:Int) - 1) ((p.1:Int) - 1) (-1)).toNat≤1048576))=true∧zc4 ((p.2:Int) - 1) ((p.1:Int) - 1) (-1)=(jsOf p.1 p.2).map fun (j:Nat)=>AV.int (j:Int):=by
 unfold lhP
 simp -iota only [List.forall_mem_cons]
 exact ⟨⟨by decide +kernel,by kernel_rfl⟩,⟨by decide +kernel,by kernel_rfl⟩,⟨by decide +kernel,by kernel_rfl⟩,⟨by decide +kernel,by kernel_rfl⟩,⟨by decide +kernel,by kernel_rfl⟩,⟨by decide +kernel,by kernel_rfl⟩,⟨by decide +kernel,by kernel_rfl⟩,⟨by decide +kernel,by kernel_rfl⟩,⟨by decide +kernel,by kernel_rfl⟩,⟨by decide +kernel,by kernel_rfl⟩,fun _ h=>nomatch h⟩
noncomputable def dB:CallT:=cDisp [] []
theorem dB_ok {T:List (Nat×UF)} {TL:List UF} {d:Nat}:zbo (zbv G2 T TL (d + 1)) dB:=cDisp_ok ⟨fun a f e=>by have:=ze2 e;simp -iota at this,fun k f e=>by simp -iota at e⟩
theorem wr_run {m low high sg:Nat} {is:List Int} {H:List AO} (hp:(low,high)∈lhP) (hm:lof H m=some (is.map .int)) :
  ∃ v' G,(c_written dB).1 [(zbk,.obj m),(zd1,.int (low:Int)),(zbr,.int (high:Int)),(kk_sign,.str (sL [sg]))] H=some (.ret (.str (sL (wr (memI is) low high sg))),v',H++G):=by
 rw [c_written_eq]
 generalize hv:([(zbk,.obj m),(zd1,.int (low:Int)),(zbr,.int (high:Int)),(kk_sign,.str (sL [sg]))]:Vars)=v
 have vm:za2 zbk v=some (.obj m):=by subst hv;kernel_rfl
 have vl:za2 zd1 v=some (.int (low:Int)):=by subst hv;kernel_rfl
 have vh:za2 zbr v=some (.int (high:Int)):=by subst hv;kernel_rfl
 have vs:za2 kk_sign v=some (.str (sL [sg])):=by subst hv;kernel_rfl
 have s1:cAs kk_text (za1 (AV.str (Str.ofString ""))) v H=some (.next,zab kk_text (.str (sL [])) v,H):=by rw [emp_sL];exact as_s (za9 _ _ _)
 rw [zb5 s1]
 generalize hv1:zab kk_text (.str (sL [])) v=v1
 have W:Wv v1 m low sg []:=by
  subst hv1
  exact ⟨zac (by decide +kernel) vm,zac (by decide +kernel) vl,zac (by decide +kernel) vs,zaz⟩
 have h1:za2 zbr v1=some (.int (high:Int)):=by rw [← hv1];exact zac (by decide +kernel) vh
 have er:wRange dB v1 H=some (.obj H.length,H++[.range ((high:Int) - 1) ((low:Int) - 1) (-1)]) :=
  call_s (zad (zb2 (za5 h1 H) (za9 _ _ _) (x:=.int ((high:Int) - 1)) (H3:=H) rfl) (zad (zb2 (za5 W.l H) (za9 _ _ _) (x:=.int ((low:Int) - 1)) (H3:=H) rfl) (zad (x:=.int (-1)) (H1:=H) rfl (zc8 _ _)))) rfl
 obtain ⟨r1,r2⟩:=wr_items _ hp
 have hi:itemsF (H++[.range ((high:Int) - 1) ((low:Int) - 1) (-1)]) (.obj H.length)=some (false,(jsOf low high).map fun (j:Nat)=>AV.int (j:Int)):=by
  show o1 (nth (H++[.range ((high:Int) - 1) ((low:Int) - 1) (-1)]) H.length) _=_
  rw [zaw,List.getElem?_append_right (Nat.le_refl _)]
  simp only [Nat.sub_self,List.getElem?_cons_zero,ze7]
  show zdo (H++[.range ((high:Int) - 1) ((low:Int) - 1) (-1)]) (.obj H.length)=_
  simp only [zdo,zaw,List.getElem?_append_right (Nat.le_refl _),Nat.sub_self,List.getElem?_cons_zero]
  rw [if_pos r1,r2]
 have hml:m < H.length:=by
  rw [zdq] at hm
  simp only [zah,zaw] at hm
  cases q:H[m]? with
  | none=>rw [q] at hm;exact nsf hm
  | some o=>exact (List.getElem?_eq_some_iff.mp q).1
 have hm1:lof (H++[.range ((high:Int) - 1) ((low:Int) - 1) (-1)]) m=some (is.map .int):=by
  rw [zdq] at hm ⊢
  simp only [zah,zaw,List.getElem?_append_left hml] at hm ⊢
  exact hm
 have j1:=List.all_eq_true.mp js_ok _ hp
 have j2:(jsOf low high).length≤5:=of_decide_eq_true (List.all_eq_true.mp jsl_ok _ hp)
 obtain ⟨v',e2,W2⟩:=w_loop (it:=.obj H.length) (all:=(jsOf low high).map fun (j:Nat)=>AV.int (j:Int)) hm1 (jsOf low high) [] v1 (fun j hj=>of_decide_eq_true (List.all_eq_true.mp j1 j hj)) (by simp only [List.length_nil];omega) W
 have ef:cFor kk_j (wRange dB) wBody v1 H=some (.next,v',H++[.range ((high:Int) - 1) ((low:Int) - 1) (-1)]):=by
  unfold cFor
  rw [er,zdg,hi,zdg]
  exact e2
 exact ⟨v',_,(zb5 ef).trans (ret_s (za5 W2.t _))⟩
end
open PySem PySem.W PyProof.Rows
theorem left_of {p q:Program} {loose:List Str} {Xt:Shared→Bool} {α:Type} {Yf:Shared→α} {Ya:World→α} {N:Nat} {g0:Bool}
  (open_:∀ w:World,(fencedOpening treeTable p w N).map (fun s=>(s.heap,s.gens,s.drawn,s.toks))=some (boot_heap w.params,Array.mk [],boot_drawn,boot_toks))
  (h:∀ (w:World) (os:OsState),(topFrom treeTable p w N ⟨boot_heap w.params,Array.mk [],boot_drawn,boot_toks,os⟩).map (fun s=>(openSeen q loose (importedModules p.main.body) Xt g0 s,Yf s))=some (openGood q loose,Ya w)):LeftO p q loose Xt Yf Ya N g0:=fun w=>by
 obtain ⟨⟨hh,gs,d,k,os⟩,e,e'⟩:=Option.map_eq_some_iff.mp (open_ w)
 obtain ⟨rfl,rfl,rfl,rfl⟩:hh=_∧gs=_∧d=_∧k=_:=by simpa -iota using e'
 unfold openEnds
 rw [e]
 exact h w os
noncomputable def pw0:Program:=PySem.Challenge.rw_tc0011_01.row.toRowW.1
noncomputable def q0:Program:={ pw0 with main:={ pw0.main with body:=[6,7,9,10,11,12,13,15,16,17,18,19,20,21,22,23].filterMap fun i=>pw0.main.body[i]? } }
noncomputable def loose0:List Str:=["insort_right","bisect_right","insort_left","bisect_left"]
noncomputable def hSt (n:String) (t:Tok):Value:=.str (Str.ofString n) t
noncomputable def hOb (c:Value) (d:Data):Obj:={ cls:=c,data:=d }
noncomputable def hEn (P:Params) (n:String) (t:Tok) (v:Value):DictEntry:={ hash:=PyData.keyHash P (Str.ofString n),key:=hSt n t,val:=v }
noncomputable def hCo (n:String) (t line na nk fl a b:Nat) (x y:Value) (c t2:Nat):Obj:=hOb (.type "code") (.fields #[hSt n t,hSt n (t + 1),hSt "/claim/cut.py" (t + 2),.int line 0,.int na 0,.int 0 0,.int nk 0,.int fl 0,.ref a,.bool true,.int 181 0,.ref b,.none,x,y,.ref c,.int t2 0,.int line 0,hSt "/claim/cut.py" (t2 + 1)])
noncomputable def hFn (k:Nat) (n:String) (d kd:Value) (m:String) (t c:Nat):Obj:=match za6 k PySem.Challenge.pw_tc0011_01.main.body with
 | .FunctionDef _ ar bd _ _ _ sc _ _ _=>hOb (.type "function") (.func { name:=Str.ofString n,qualname:=Str.ofString n,params:=ar,body:=.stmts bd,scope:=sc,globals:=3,closure:=[],defaults:=d,kwdefaults:=kd,pyModule:=hSt m t,code:=.ref c })
 | _=>default
noncomputable def KP (P:Params):Frag:=[
 (3,hOb (.type "dict") (.dict #[hEn P "__name__" 165 (hSt "law_tc0011_01" 292),hEn P "__doc__" 166 (.none),hEn P "__package__" 167 (.none),hEn P "__loader__" 168 (.builtin "__main__.__loader__#opaque"),hEn P "__spec__" 169 (.none),hEn P "__annotations__" 170 (.ref 6),hEn P "__builtins__" 171 (.ref 4),hEn P "__file__" 173 (hSt "/claim/cut.py" 172),hEn P "__cached__" 174 (.none),hEn P "insort_right" 201 (.ref 23),hEn P "bisect_right" 215 (.ref 32),hEn P "insort_left" 228 (.ref 41),hEn P "bisect_left" 242 (.ref 50),hEn P "CHAR_MAX" 246 (.int 127 245),hEn P "_grouping_intervals" 255 (.ref 57),hEn P "_MAX_STRING_SIZE" 259 (.int 40 258),hEn P "_MOVE_COST" 261 (.int 2 260),hEn P "_CASE_COST" 263 (.int 1 262),hEn P "_substitution_cost" 271 (.ref 64),hEn P "_levenshtein_distance" 291 (.ref 71),hEn P "_law_laid" 304 (.ref 78),hEn P "_law_sizes" 310 (.ref 83),hEn P "_law_marks" 320 (.ref 90),hEn P "_law_refused" 330 (.ref 97),hEn P "_law_written" 342 (.ref 104),hEn P "_law_grown" 348 (.ref 109),hEn P "_law_counts" 364 (.ref 116),hEn P "_law_stretch" 370 (.ref 121),hEn P "law" 376 (.ref 126)] 29)),
 (15,hOb (.type "tuple") (.seq #[.int 0 189,.none])),
 (16,hOb (.type "dict") (.dict #[hEn P "key" 190 (.none)] 1)),
 (22,hCo "insort_right" 191 2 4 1 3 17 18 (.ref 19) (.ref 20) 21 199),
 (23,hFn 1 "insort_right" (.ref 15) (.ref 16) "cpy313.bisect" 187 22),
 (24,hOb (.type "tuple") (.seq #[.int 0 202,.none])),
 (25,hOb (.type "dict") (.dict #[hEn P "key" 203 (.none)] 1)),
 (31,hCo "bisect_right" 204 8 4 1 3 26 27 (.ref 28) (.ref 29) 30 213),
 (32,hFn 2 "bisect_right" (.ref 24) (.ref 25) "cpy313.bisect" 187 31),
 (33,hOb (.type "tuple") (.seq #[.int 0 216,.none])),
 (34,hOb (.type "dict") (.dict #[hEn P "key" 217 (.none)] 1)),
 (40,hCo "insort_left" 218 28 4 1 3 35 36 (.ref 37) (.ref 38) 39 226),
 (41,hFn 3 "insort_left" (.ref 33) (.ref 34) "cpy313.bisect" 187 40),
 (42,hOb (.type "tuple") (.seq #[.int 0 229,.none])),
 (43,hOb (.type "dict") (.dict #[hEn P "key" 230 (.none)] 1)),
 (49,hCo "bisect_left" 231 34 4 1 3 44 45 (.ref 46) (.ref 47) 48 240),
 (50,hFn 4 "bisect_left" (.ref 42) (.ref 43) "cpy313.bisect" 187 49),
 (56,hCo "_grouping_intervals" 247 56 1 0 35 51 52 (.ref 53) (.ref 54) 55 253),
 (57,hFn 7 "_grouping_intervals" (.none) (.none) "cpy313.locale" 243 56),
 (63,hCo "_substitution_cost" 264 72 2 0 3 58 59 (.ref 60) (.ref 61) 62 269),
 (64,hFn 12 "_substitution_cost" (.none) (.none) "cpy313.traceback" 256 63),
 (70,hCo "_levenshtein_distance" 272 78 3 0 3 65 66 (.ref 67) (.ref 68) 69 289),
 (71,hFn 13 "_levenshtein_distance" (.none) (.none) "cpy313.traceback" 256 70),
 (77,hCo "_law_laid" 294 117 1 0 3 72 73 (.ref 74) (.ref 75) 76 302),
 (78,hFn 15 "_law_laid" (.none) (.none) "law_tc0011_01" 292 77),
 (82,hCo "_law_sizes" 305 128 1 0 3 79 80 (.none) (.none) 81 308),
 (83,hFn 16 "_law_sizes" (.none) (.none) "law_tc0011_01" 292 82),
 (89,hCo "_law_marks" 311 130 1 0 3 84 85 (.ref 86) (.ref 87) 88 318),
 (90,hFn 17 "_law_marks" (.none) (.none) "law_tc0011_01" 292 89),
 (96,hCo "_law_refused" 321 138 2 0 3 91 92 (.ref 93) (.ref 94) 95 328),
 (97,hFn 18 "_law_refused" (.none) (.none) "law_tc0011_01" 292 96),
 (103,hCo "_law_written" 331 154 4 0 3 98 99 (.ref 100) (.ref 101) 102 340),
 (104,hFn 19 "_law_written" (.none) (.none) "law_tc0011_01" 292 103),
 (108,hCo "_law_grown" 343 159 2 0 3 105 106 (.none) (.none) 107 346),
 (109,hFn 20 "_law_grown" (.none) (.none) "law_tc0011_01" 292 108),
 (115,hCo "_law_counts" 349 163 5 0 3 110 111 (.ref 112) (.ref 113) 114 362),
 (116,hFn 21 "_law_counts" (.none) (.none) "law_tc0011_01" 292 115),
 (120,hCo "_law_stretch" 365 171 5 0 3 117 118 (.none) (.none) 119 368),
 (121,hFn 22 "_law_stretch" (.none) (.none) "law_tc0011_01" 292 120),
 (125,hCo "law" 371 180 1 0 3 122 123 (.none) (.none) 124 374),
 (126,hFn 23 "law" (.none) (.none) "law_tc0011_01" 292 125),
 ]
noncomputable def KA:List Addr:=[3,15,16,22,23,24,25,31,32,33,34,40,41,42,43,49,50,56,57,63,64,70,71,77,78,82,83,89,90,96,97,103,104,108,109,115,116,120,121,125,126]
noncomputable def HK:Hook:=kmHook KP KA (fun P=>by kernel_rfl) [111]
theorem boot0:∀ w:World,(fencedOpening treeTable pw0 w 1346).map (fun s=>(s.heap,s.gens,s.drawn,s.toks))=some (boot_heap w.params,Array.mk [],boot_drawn,boot_toks) :=
 boot_open (by kernel_rfl) rfl (fun s=>by kernel_rfl)
theorem left0:LeftO pw0 q0 loose0 (fun s=>xlAt q0 [] s && recOk (RowW.records PySem.Challenge.rw_tc0011_01.row.toRowW) s) HK.obs HK.val 1346:=by
 refine left_of boot0 fun w os=>?_
 unfold topFrom
 rw [PySem.W.Fast.te14082659384304107361,PySem.W.Fast.te4187177175401517315,PySem.W.Fast.te5923862056798008813]
 kernel_rfl
theorem said0:PySem.Challenge.rw_tc0011_01.wellSaid=true:=by
 rw [PySem.W.Fast.te9446332074065402090]
 kernel_rfl
theorem dis0:(defOf q0 "law").isSome=true:=by kernel_rfl
noncomputable def dk0:DefRec×List (Str×Expr):=(defOf q0 "law").get dis0
theorem def0:defOf q0 "law"=some dk0:=(Option.some_get dis0).symm
theorem the0:pw0.theDef "law"=some (dk0.1.params,dk0.1.body,dk0.1.scope):=by kernel_rfl
theorem kww0:kwWritten? dk0.1.params.kwonlyargs dk0.1.params.kw_defaults=some dk0.2:=by kernel_rfl
theorem hd0 (call:WalkO q0 loose0 (XL q0 []) HK.says PySem.Challenge.rw_tc0011_01.row.toRowW dk0.1 dk0.2 fun f vs=>PySem.call f vs):PySem.Challenge.rw_tc0011_01.Holds:=by
 refine holds_law said0 fun said=>?_
 refine holds_open (q:=q0) (loose:=loose0) (Xt:=fun s=>xlAt q0 [] s && recOk (RowW.records PySem.Challenge.rw_tc0011_01.row.toRowW) s) (XP:=XL q0 []) (Yf:=HK.obs) (Ya:=HK.val) (YP:=HK.says) (N:=1346) left0 HK.of HK.keeps (fun s e=>xl_of s (Bool.and_eq_true_iff.mp e).1) XL.keeps def0 the0 kww0 (fun s e=>recFacts_of (Bool.and_eq_true_iff.mp e).2) rfl said (by decide +kernel) ⟨rfl,rfl,rfl,rfl,rfl,by decide +kernel⟩ ?_ call
 w_witness2
noncomputable def PG:Program:=PySem.Challenge.rw_tc0011_01.row.prog
noncomputable abbrev KF (w:World):Frag:=KP w.params
noncomputable def zdi (K:Frag) (a:Addr):FuncData:=match K.lookup a with
 | some ⟨_,_,.func fd,_⟩=>fd
 | _=>default
noncomputable def codeChk (K:Frag) (fd:FuncData):Bool:=match fd.code with
 | .ref cc=>(match K.lookup cc with
  | some ⟨_,_,.fields vs,_⟩=>(match (vs[1]?:Option Value) with
   | some (.str q _)=>q == fd.qualname
   | _=>false)
  | _=>false)
 | _=>false
noncomputable def fnChk (K:Frag) (a:Addr):Bool:=match K.lookup a with
 | some ⟨_,_,.func fd,_⟩=>fd.globals == mainGlobals && fd.builtins == builtinsNs && fd.closure.isEmpty && codeChk K fd
 | _=>false
noncomputable def shapeChk (F:FnD):Bool:=!F.sc.isCoroutine && !F.sc.isGenerator && F.sc.kind == .function && !(F.names.contains (".0":Str)) && decide F.names.Nodup && F.sc.names.all (fun x=>x.2 != .free)
set_option tactic.hygienic true in
theorem fn_of {K:Frag} {h:Heap} {a:Addr} (X:K.In h) (e:fnChk K a=true) {Γ:Prop} (κ:∀ fo cc o vs t,K.lookup a=some fo→fo.data=.func (zdi K a)→(zdi K a).code=.ref cc→K.lookup cc=some o→o.data=.fields vs→vs[1]?=some (.str (zdi K a).qualname t)→(zdi K a).globals=mainGlobals→(zdi K a).builtins=builtinsNs→(zdi K a).closure=[]→Γ):Γ:=by
 unfold fnChk at e
 split at e
 ·rename_i cl dd fd sl hk
  have hfd:zdi K a=fd:=by unfold zdi;rw [hk]
  rw [hfd] at κ
  simp -iota only [Bool.and_eq_true] at e
  obtain ⟨⟨⟨e1,e2⟩,e3⟩,e4⟩:=e
  unfold codeChk at e4
  split at e4
  ·rename_i cc hcc
   split at e4
   ·rename_i cl2 dd2 vs sl2 hk2
    split at e4
    ·rename_i q t hq
     exact κ _ cc _ vs t hk rfl hcc hk2 rfl (by rw [hq,beq_iff_eq.mp e4]) (beq_iff_eq.mp e1) (beq_iff_eq.mp e2) (List.isEmpty_iff.mp e3)
    ·exact ftf e4
   ·exact ftf e4
  ·exact ftf e4
 ·exact ftf e
noncomputable def KOut (K:Frag) (Wb:List Addr):Prop:=∀ a o,K.lookup a=some o→a∉Wb
theorem ub_of {c:Cx} {K:Frag} {F:FnD} {a:Addr} (X:K.In c.hb) (XO:KOut K c.Wb) (e:fnChk K a=true) (hs:shapeChk F=true) (hb:(zdi K a).body=.stmts F.body) (hc:(zdi K a).scope=F.sc):UBase c F a (zdi K a):=by
 refine fn_of X e fun fo cc o vs t h1 h2 h3 h4 h5 h6 h7 h8 h9=>?_
 unfold shapeChk at hs
 simp -iota only [Bool.and_eq_true,Bool.not_eq_true',decide_eq_true_eq] at hs
 obtain ⟨⟨⟨⟨⟨s1,s2⟩,s3⟩,s4⟩,s5⟩,s6⟩:=hs
 exact ⟨⟨fo,X _ _ h1,h2⟩,XO _ _ h1,⟨cc,o,vs,t,h3,XO _ _ h4,X _ _ h4,h5,h6⟩,hb,hc,h7,h8,h9,s1,s2,beq_iff_eq.mp s3,fun q=>(by rw [List.contains_iff_mem.mpr q] at s4;cases s4),s5,
  fun x hx q=>(by have:=List.all_eq_true.mp s6 x hx;rw [q] at this;exact ftf this)⟩
noncomputable def plainChk (F:FnD):Bool:=F.sc.names.all (fun x=>x.2 != .cell) && F.names.all fun x=>F.sc.names.lookup x == some .local
noncomputable def cellsChk (F:FnD):Bool:=F.kwo.isEmpty && F.dfl.isEmpty && F.names.all fun x=>F.sc.names.lookup x == some .local || F.sc.names.lookup x == some .cell
noncomputable def binds1 (fd:FuncData) (pos:List Str):Prop:=∀ vvs:List Value,vvs.length=pos.length→bindArgs fd ⟨vvs,[]⟩=pure (pos.zip vvs)
noncomputable def AllL:Nat→(List Value→Prop)→Prop
 | 0,P=>P []
 | n + 1,P=>∀ a,AllL n fun l=>P (a::l)
theorem AllL.all {n:Nat} {P:List Value→Prop} (h:AllL n P) (l:List Value) (e:l.length=n):P l:=by
 induction n generalizing P l with
 | zero=>rw [List.length_eq_zero_iff.mp e];exact h
 | succ n ih=>cases l with
  | nil=>exact absurd e.symm (Nat.succ_ne_zero _)
  | cons a l=>exact ih (P:=fun l=>P (a::l)) (h a) l (Nat.succ.inj e)
theorem b_of {fd:FuncData} {pos:List Str} (n:Nat) (hn:pos.length=n) (h:AllL n fun l=>bindArgs fd ⟨l,[]⟩=pure (pos.zip l)):binds1 fd pos:=fun vvs e=>h.all vvs (e.trans hn)
theorem up_of {c:Cx} {F:FnD} {a:Addr} {fd:FuncData} (U:UBase c F a fd) (hp:plainChk F=true) (hk:F.kwo=[]) (hd:F.dfl=[]) (hb:binds1 fd F.pos):UPlain c F a fd:=by
 unfold plainChk at hp
 simp -iota only [Bool.and_eq_true] at hp
 obtain ⟨p1,p2⟩:=hp
 have hn:F.names=F.pos:=by unfold FnD.names;rw [hk];simp -iota
 refine ⟨U,fun x hx q=>(by have:=List.all_eq_true.mp p1 x hx;rw [q] at this;exact ftf this),fun x hx=>beq_iff_eq.mp (List.all_eq_true.mp p2 x hx),?_⟩
 intro s σ args kws vars vvs kvs _ ra rk e
 have hkw:kws=[]:=by
  unfold FnD.binds at e
  rw [hk] at e
  refine ifsk e fun hc e=>?_
  simp -iota at hc
  cases kws with
  | nil=>rfl
  | cons x ks=>exact absurd (List.mem_cons_self (a:=x) (l:=ks)) (hc.1.2 x.1 x.2)
 subst hkw
 cases relK_nil rk
 obtain ⟨h1,rfl⟩:=pos_zip hk hd e
 refine ⟨args,vvs,?_,by rw [hn],ra,by rw [hn];omega⟩
 rw [hn]
 exact .of_eq (hb vvs (by rw [ra.length];omega))
theorem uc_of {c:Cx} {F:FnD} {a:Addr} {fd:FuncData} (U:UBase c F a fd) (hp:cellsChk F=true) (hb:binds1 fd F.pos):UCells c F a fd:=by
 unfold cellsChk at hp
 simp -iota only [Bool.and_eq_true,Bool.or_eq_true] at hp
 obtain ⟨⟨p0,p1⟩,p2⟩:=hp
 refine ⟨U,List.isEmpty_iff.mp p0,List.isEmpty_iff.mp p1,fun x hx=>?_,hb⟩
 have:=List.all_eq_true.mp p2 x hx
 simp -iota only [Bool.or_eq_true] at this
 rcases this with q | q
 ·exact .inl (beq_iff_eq.mp q)
 ·exact .inr (beq_iff_eq.mp q)
noncomputable def nA:Str:="a"
noncomputable def nX:Str:="x"
noncomputable def nLo:Str:="lo"
noncomputable def nHi:Str:="hi"
noncomputable def nKey:Str:="key"
structure BindsB (K:Frag) (fd:FuncData):Prop where
 b2k:∃ t0,∀ (S:Setting) (a x k:Value),peek K S (bindArgs fd ⟨[a,x],[(nKey,k)]⟩)=some [(nA,a),(nX,x),(nLo,.int 0 t0),(nHi,.none),(nKey,k)]
 b2:∃ t0,∀ (S:Setting) (a x:Value),peek K S (bindArgs fd ⟨[a,x],[]⟩)=some [(nA,a),(nX,x),(nLo,.int 0 t0),(nHi,.none),(nKey,.none)]
 b3k:∀ (S:Setting) (a x lo k:Value),peek K S (bindArgs fd ⟨[a,x,lo],[(nKey,k)]⟩)=some [(nA,a),(nX,x),(nLo,lo),(nHi,.none),(nKey,k)]
 b3:∀ (S:Setting) (a x lo:Value),peek K S (bindArgs fd ⟨[a,x,lo],[]⟩)=some [(nA,a),(nX,x),(nLo,lo),(nHi,.none),(nKey,.none)]
 b4k:∀ (S:Setting) (a x lo hi k:Value),peek K S (bindArgs fd ⟨[a,x,lo,hi],[(nKey,k)]⟩)=some [(nA,a),(nX,x),(nLo,lo),(nHi,hi),(nKey,k)]
 b4:∀ (S:Setting) (a x lo hi:Value),peek K S (bindArgs fd ⟨[a,x,lo,hi],[]⟩)=some [(nA,a),(nX,x),(nLo,lo),(nHi,hi),(nKey,.none)]
noncomputable def tokOf (K:Frag) (fd:FuncData):Tok:=match fd.defaults with
 | .ref T=>(match K.lookup T with
  | some ⟨_,_,.seq vs _,_⟩=>(match (vs[0]?:Option Value) with
   | some (.int _ t)=>t
   | _=>0)
  | _=>0)
 | _=>0
theorem bb32 (w:World):BindsB (KF w) (zdi (KF w) 32):=by
 refine ⟨⟨tokOf (KF w) (zdi (KF w) 32),?_⟩,⟨tokOf (KF w) (zdi (KF w) 32),?_⟩,?_,?_,?_,?_⟩<;>(intros;kernel_rfl)
theorem bb23 (w:World):BindsB (KF w) (zdi (KF w) 23):=by
 refine ⟨⟨tokOf (KF w) (zdi (KF w) 23),?_⟩,⟨tokOf (KF w) (zdi (KF w) 23),?_⟩,?_,?_,?_,?_⟩<;>(intros;kernel_rfl)
theorem bb41 (w:World):BindsB (KF w) (zdi (KF w) 41):=by
 refine ⟨⟨tokOf (KF w) (zdi (KF w) 41),?_⟩,⟨tokOf (KF w) (zdi (KF w) 41),?_⟩,?_,?_,?_,?_⟩<;>(intros;kernel_rfl)
theorem bb50 (w:World):BindsB (KF w) (zdi (KF w) 50):=by
 refine ⟨⟨tokOf (KF w) (zdi (KF w) 50),?_⟩,⟨tokOf (KF w) (zdi (KF w) 50),?_⟩,?_,?_,?_,?_⟩<;>(intros;kernel_rfl)
noncomputable def BisF (F:FnD):Prop:=F.pos=[nA,nX,nLo,nHi]∧F.dfl=[.int 0,.lit .none]∧F.kwo=[(nKey,.lit .none)]
theorem peek_binds {K:Frag} {s:Shared} {fd:FuncData} {args:Args} {bs:List (Str×Value)} (X:K.In s.heap) (h:∀ S,peek K S (bindArgs fd args)=some bs):BindsTo s fd args bs :=
 fun M A E Q q=>Looks.here (M:=M) (Looks.of_peek X (h _)) q
theorem relK_cases {σ:List Addr} {kws:List (Str×AV)} {kvs:List (Str×Value)} (rk:RelK σ kws kvs) (hl:kws.length≤1) (ha:kws.all (fun k=>[(nKey,AV.lit Value.none)].any fun y=>y.1 == k.1)=true) :
  (kws=[]∧kvs=[])∨∃ k v,kws=[(nKey,k)]∧kvs=[(nKey,v)]∧k.Rel σ v:=by
 cases kws with
 | nil=>exact .inl ⟨rfl,relK_nil rk⟩
 | cons y ys =>
  cases ys with
  | cons=>simp -iota at hl
  | nil =>
   obtain ⟨n,k⟩:=y
   simp -iota at ha
   subst ha
   cases kvs with
   | nil=>exact rk.elim
   | cons z zs =>
    obtain ⟨m,v⟩:=z
    obtain ⟨e,r,r2⟩:=rk
    cases zs with
    | cons=>exact r2.elim
    | nil =>
     dsimp only at e
     subst e
     exact .inr ⟨k,v,rfl,rfl,r⟩
noncomputable def BindG (F:FnD) (fd:FuncData) (s:Shared) (σ:List Addr) (vars:Vars) (vvs:List Value) (kvs:List (Str×Value)):Prop:=∃ avs vs,BindsTo s fd ⟨vvs,kvs⟩ (F.names.zip vs)∧vars=(F.names.map key).zip avs∧RelL σ avs vs∧F.names.length=avs.length
theorem bindG {F:FnD} {fd:FuncData} {s:Shared} {σ:List Addr} {vars:Vars} {vvs:List Value} {kvs:List (Str×Value)} (avs:List AV) (vs:List Value) (hn:F.names=[nA,nX,nLo,nHi,nKey]) (hb:BindsTo s fd ⟨vvs,kvs⟩ ([nA,nX,nLo,nHi,nKey].zip vs)) (hv:vars=([nA,nX,nLo,nHi,nKey].map key).zip avs) (r:RelL σ avs vs) (hl:avs.length=5):BindG F fd s σ vars vvs kvs:=⟨avs,vs,by rw [hn];exact hb,by rw [hn];exact hv,r,by rw [hn];exact hl.symm⟩
theorem bis_of {c:Cx} {K:Frag} {F:FnD} {a:Addr} {fd:FuncData} (X:K.In c.hb) (XO:KOut K c.Wb) (U:UBase c F a fd) (hp:plainChk F=true) (bf:BisF F) (BB:BindsB K fd):UPlain c F a fd:=by
 unfold plainChk at hp
 simp only [Bool.and_eq_true] at hp
 obtain ⟨p1,p2⟩:=hp
 obtain ⟨b1,b2,b3⟩:=bf
 have hn:F.names=[nA,nX,nLo,nHi,nKey]:=by unfold FnD.names;rw [b1,b3];rfl
 refine ⟨U,fun x hx q=>(by have:=List.all_eq_true.mp p1 x hx;rw [q] at this;exact ftf this),fun x hx=>beq_iff_eq.mp (List.all_eq_true.mp p2 x hx),?_⟩
 intro s σ args kws vars vvs kvs hs ra rk e
 have XS:K.In s.heap:=fun a o e=>hs a o (XO a o e) (X a o e)
 unfold FnD.binds at e
 rw [b1,b2,b3] at e
 refine ifsk e fun hc e=>?_
 simp only [Bool.and_eq_true,decide_eq_true_eq] at hc
 obtain ⟨⟨⟨c1,c2⟩,c3⟩,c4⟩:=hc
 obtain rfl:=sj e
 show BindG F fd s σ _ vvs kvs
 rcases args with _ | ⟨a,_ | ⟨x,t⟩⟩
 ·exact absurd (show 4≤2 from c2) (by decide)
 ·exact absurd (show 4≤3 from c2) (by decide)
 refine zdl ra ?_;rintro va _ rfl r1 ra
 refine zdl ra ?_;rintro vx _ rfl r2 ra
 rcases t with _ | ⟨l,t⟩
 ·obtain rfl:=relL_nil ra
  rcases relK_cases rk c4 c3 with ⟨rfl,rfl⟩ | ⟨k,v,rfl,rfl,rk1⟩
  ·obtain ⟨t0,h⟩:=BB.b2
   exact bindG [a,x,.int 0,.lit .none,.lit .none] [va,vx,.int 0 t0,.none,.none] hn (peek_binds XS fun S=>h S va vx) (rfl) ⟨r1,r2,⟨t0,rfl⟩,rfl,rfl,trivial⟩ rfl
  ·obtain ⟨t0,h⟩:=BB.b2k
   exact bindG [a,x,.int 0,.lit .none,k] [va,vx,.int 0 t0,.none,v] hn (peek_binds XS fun S=>h S va vx v) (by simp [List.lookup]) ⟨r1,r2,⟨t0,rfl⟩,rfl,rk1,trivial⟩ rfl
 refine zdl ra ?_;rintro vl _ rfl r3 ra
 rcases t with _ | ⟨h,t⟩
 ·obtain rfl:=relL_nil ra
  rcases relK_cases rk c4 c3 with ⟨rfl,rfl⟩ | ⟨k,v,rfl,rfl,rk1⟩
  ·exact bindG [a,x,l,.lit .none,.lit .none] [va,vx,vl,.none,.none] hn (peek_binds XS fun S=>BB.b3 S va vx vl) (rfl) ⟨r1,r2,r3,rfl,rfl,trivial⟩ rfl
  ·exact bindG [a,x,l,.lit .none,k] [va,vx,vl,.none,v] hn (peek_binds XS fun S=>BB.b3k S va vx vl v) (by simp [List.lookup]) ⟨r1,r2,r3,rfl,rk1,trivial⟩ rfl
 refine zdl ra ?_;rintro vh _ rfl r4 ra
 rcases t with _ | ⟨_,t⟩
 ·obtain rfl:=relL_nil ra
  rcases relK_cases rk c4 c3 with ⟨rfl,rfl⟩ | ⟨k,v,rfl,rfl,rk1⟩
  ·exact bindG [a,x,l,h,.lit .none] [va,vx,vl,vh,.none] hn (peek_binds XS fun S=>BB.b4 S va vx vl vh) (rfl) ⟨r1,r2,r3,r4,rfl,trivial⟩ rfl
  ·exact bindG [a,x,l,h,k] [va,vx,vl,vh,v] hn (peek_binds XS fun S=>BB.b4k S va vx vl vh v) (by simp [List.lookup]) ⟨r1,r2,r3,r4,rk1,trivial⟩ rfl
 ·exact absurd (show t.length + 5≤4 from c1) (Nat.not_le_of_lt (Nat.le_add_left 5 _))
section
variable {c:Cx} {w:World} (X:(KF w).In c.hb) (XO:KOut (KF w) c.Wb)
include X XO
theorem u_bisr:UPlain c (fnd 2) 32 (zdi (KF w) 32):=bis_of X XO (ub_of X XO (by kernel_rfl) (by decide +kernel) (by kernel_rfl) (by kernel_rfl)) (by decide +kernel) ⟨rfl,rfl,rfl⟩ (bb32 w)
theorem u_insr:UPlain c (fnd 1) 23 (zdi (KF w) 23):=bis_of X XO (ub_of X XO (by kernel_rfl) (by decide +kernel) (by kernel_rfl) (by kernel_rfl)) (by decide +kernel) ⟨rfl,rfl,rfl⟩ (bb23 w)
theorem u_insl:UPlain c (fnd 3) 41 (zdi (KF w) 41):=bis_of X XO (ub_of X XO (by kernel_rfl) (by decide +kernel) (by kernel_rfl) (by kernel_rfl)) (by decide +kernel) ⟨rfl,rfl,rfl⟩ (bb41 w)
theorem u_bisl:UPlain c (fnd 4) 50 (zdi (KF w) 50):=bis_of X XO (ub_of X XO (by kernel_rfl) (by decide +kernel) (by kernel_rfl) (by kernel_rfl)) (by decide +kernel) ⟨rfl,rfl,rfl⟩ (bb50 w)
theorem u_subst:UPlain c (fnd 12) 64 (zdi (KF w) 64):=up_of (ub_of X XO (by kernel_rfl) (by decide +kernel) (by kernel_rfl) (by kernel_rfl)) (by decide +kernel) rfl rfl (b_of 2 (by kernel_rfl) fun a b=>by show bindArgs _ _=_;kernel_rfl)
theorem u_lev:UPlain c (fnd 13) 71 (zdi (KF w) 71):=up_of (ub_of X XO (by kernel_rfl) (by decide +kernel) (by kernel_rfl) (by kernel_rfl)) (by decide +kernel) rfl rfl (b_of 3 (by kernel_rfl) fun a b d=>by show bindArgs _ _=_;kernel_rfl)
theorem u_laid:UPlain c (fnd 15) 78 (zdi (KF w) 78):=up_of (ub_of X XO (by kernel_rfl) (by decide +kernel) (by kernel_rfl) (by kernel_rfl)) (by decide +kernel) rfl rfl (b_of 1 (by kernel_rfl) fun a=>by show bindArgs _ _=_;kernel_rfl)
theorem u_sizes:UCells c (fnd 16) 83 (zdi (KF w) 83):=uc_of (ub_of X XO (by kernel_rfl) (by decide +kernel) (by kernel_rfl) (by kernel_rfl)) (by decide +kernel) (b_of 1 (by kernel_rfl) fun a=>by show bindArgs _ _=_;kernel_rfl)
theorem u_marks:UPlain c (fnd 17) 90 (zdi (KF w) 90):=up_of (ub_of X XO (by kernel_rfl) (by decide +kernel) (by kernel_rfl) (by kernel_rfl)) (by decide +kernel) rfl rfl (b_of 1 (by kernel_rfl) fun a=>by show bindArgs _ _=_;kernel_rfl)
theorem u_refused:UPlain c (fnd 18) 97 (zdi (KF w) 97):=up_of (ub_of X XO (by kernel_rfl) (by decide +kernel) (by kernel_rfl) (by kernel_rfl)) (by decide +kernel) rfl rfl (b_of 2 (by kernel_rfl) fun a b=>by show bindArgs _ _=_;kernel_rfl)
theorem u_written:UPlain c (fnd 19) 104 (zdi (KF w) 104):=up_of (ub_of X XO (by kernel_rfl) (by decide +kernel) (by kernel_rfl) (by kernel_rfl)) (by decide +kernel) rfl rfl (b_of 4 (by kernel_rfl) fun a b d e=>by show bindArgs _ _=_;kernel_rfl)
theorem u_grown:UCells c (fnd 20) 109 (zdi (KF w) 109):=uc_of (ub_of X XO (by kernel_rfl) (by decide +kernel) (by kernel_rfl) (by kernel_rfl)) (by decide +kernel) (b_of 2 (by kernel_rfl) fun a b=>by show bindArgs _ _=_;kernel_rfl)
theorem u_counts:UCells c (fnd 21) 116 (zdi (KF w) 116):=uc_of (ub_of X XO (by kernel_rfl) (by decide +kernel) (by kernel_rfl) (by kernel_rfl)) (by decide +kernel) (b_of 5 (by kernel_rfl) fun a b d e f=>by show bindArgs _ _=_;kernel_rfl)
theorem u_stretch:UCells c (fnd 22) 121 (zdi (KF w) 121):=uc_of (ub_of X XO (by kernel_rfl) (by decide +kernel) (by kernel_rfl) (by kernel_rfl)) (by decide +kernel) (b_of 5 (by kernel_rfl) fun a b d e f=>by show bindArgs _ _=_;kernel_rfl)
theorem u_law:UCells c (fnd 23) 126 (zdi (KF w) 126):=uc_of (ub_of X XO (by kernel_rfl) (by decide +kernel) (by kernel_rfl) (by kernel_rfl)) (by decide +kernel) (b_of 1 (by kernel_rfl) fun a=>by show bindArgs _ _=_;kernel_rfl)
end
noncomputable def intIs (v:Value) (i:Int):Bool:=match v with
 | .int j _=>decide (j=i)
 | _=>false
theorem intIs_ok {v:Value} {i:Int} (h:intIs v i=true):∃ t,v=.int i t:=by
 cases v with
 | int j t=>exact ⟨t,by rw [of_decide_eq_true h]⟩
 | _=>exact ftf h
noncomputable def relB (av:AV) (v:Value):Bool:=AV.rec (motive:=fun _=>Bool) (fun u=>decide (v=u)) (intIs v) (fun _=>false) (fun _=>false) (fun _=>false) av
theorem relB_ok {av:AV} {v:Value} (h:relB av v=true):av.Rel [] v:=by
 cases av with
 | lit u=>exact (show v=u from of_decide_eq_true h)
 | int i=>exact intIs_ok h
 | _=>exact ftf h
noncomputable def glChk (K:Frag) (x:Str) (av:AV):Bool:=Option.rec (motive:=fun _=>Bool) false (fun z=>Option.rec (motive:=fun _=>Bool) (Option.rec (motive:=fun _=>Bool) false (relB av) (bootBuiltins x) && x != "__name__") (relB av) z) (nsIn K mainGlobals x)
theorem gl_ok {K:Frag} {h:Heap} {mg mb:Str→Option Value} (X:K.In h) (Ng:h.Ns mainGlobals mg) (Nb:h.Ns builtinsNs mb) (hb:∀ x:Str,x≠"__name__"→mb x=bootBuiltins x) {x:Str} {av:AV} (e:glChk K x av=true) {Γ:Prop} (κ:∀ v mg,av.Rel [] v→h.Ns mainGlobals mg→((mg x=some v∨(mg x=none∧∃ mb,h.Ns builtinsNs mb∧mb x=some v)))→Γ):Γ:=by
 unfold glChk at e
 cases hn:nsIn K mainGlobals x with
 | none=>rw [hn] at e;exact ftf e
 | some z =>
  rw [hn] at e
  cases z with
  | some v=>exact κ v mg (relB_ok e) Ng (.inl (mg_of X Ng hn))
  | none =>
   obtain ⟨e1,e2⟩:=Bool.and_eq_true_iff.mp (show (Option.rec (motive:=fun _=>Bool) false (relB av) (bootBuiltins x) && x != "__name__")=true from e)
   cases hbb:bootBuiltins x with
   | none=>rw [hbb] at e1;exact ftf e1
   | some v =>
    rw [hbb] at e1
    exact κ v mg (relB_ok e1) Ng (.inr ⟨mg_none_of X Ng hn,mb,Nb,(hb x (bne_iff_ne.mp e2)).trans hbb⟩)
theorem gl_all (w:World):(gNames.all fun p=>glChk (KF w) p.1 p.2)=true:=by kernel_rfl
theorem mem_of_look {x:Str} {av:AV}:∀ {l:List (Str×AV)},l.lookup x=some av→(x,av)∈l
 | [],h=>by exact nsf h
 | (y,b)::l,h=>by
  rw [List.lookup_cons] at h
  split at h
  ·rename_i q;obtain rfl:=sj h;rw [beq_iff_eq.mp q];exact List.mem_cons_self ..
  ·exact List.mem_cons_of_mem _ (mem_of_look h)
theorem rel_nil {σ:List Addr} {av:AV} {v:Value} (r:av.Rel [] v):av.Rel σ v:=by
 have:=AV.Rel.mono (τ:=σ) r
 simpa -iota using this
theorem cx_ok {w:World} {h:Heap} {mg mb:Str→Option Value} (X:(KF w).In h) (Ng:h.Ns mainGlobals mg) (Nb:h.Ns builtinsNs mb) (hb:∀ x:Str,x≠"__name__"→mb x=bootBuiltins x) (nl:h.NoLimit) {Wb fx:List Addr} {n:Nat}
  (wg:mainGlobals∉Wb) (wb:builtinsNs∉Wb) (ws:cStatics∉Wb):(⟨PG,w,h,Wb,fx,n,G2⟩:Cx).Ok :=
 ⟨fun x av e=>by
  refine gl_ok X Ng Nb hb (List.all_eq_true.mp (gl_all w) _ (mem_of_look e)) fun v mg' r h1 h2=>?_
  exact ⟨v,mg',rel_nil r,h1,h2⟩,nl,wg,wb,ws⟩
noncomputable def isTab (o:Obj):Prop:=∃ ps,o=tabObj ps
noncomputable def c0 (w:World) (h:Heap) (l:Addr):Cx:=⟨PG,w,h,[111,l],[111],0,G2⟩
noncomputable def lst (vs:List Value):Obj:={ cls:=.type "list",data:=.seq vs.toArray }
theorem kf_nolist (w:World):((KF w).all fun p=>match p.2.cls with
 | .type "list"=>false
 | _=>p.1 != 111)=true:=by kernel_rfl
theorem zcl {α β:Type} [BEq α] [LawfulBEq α] {x:α} {v:β}:∀ {l:List (α×β)},l.lookup x=some v→(x,v)∈l
 | [],h=>by exact nsf h
 | (y,b)::l,h=>by
  rw [List.lookup_cons] at h
  split at h
  ·rename_i q;obtain rfl:=sj h;rw [beq_iff_eq.mp q];exact List.mem_cons_self ..
  ·exact List.mem_cons_of_mem _ (zcl h)
set_option tactic.hygienic true in
theorem kout {w:World} {h:Heap} {l:Addr} {vs:List Value} (X:(KF w).In h) (hl:h.get? l=some (lst vs)):KOut (KF w) [111,l]:=by
 intro a o e hm
 have hx:=List.all_eq_true.mp (kf_nolist w) _ (zcl e)
 dsimp only at hx
 split at hx
 ·exact ftf hx
 ·rename_i hno
  simp -iota only [bne_iff_ne] at hx
  rcases List.mem_cons.mp hm with q | hm
  ·exact hx q
  ·simp -iota at hm
   subst hm
   have:=X _ _ e
   rw [hl] at this
   obtain rfl:=sj this
   exact hno rfl
theorem c0_ok {w:World} {h:Heap} {mg mb:Str→Option Value} {l:Addr} {vs:List Value} (X:(KF w).In h) (Ng:h.Ns mainGlobals mg) (Nb:h.Ns builtinsNs mb) (hb:∀ x:Str,x≠"__name__"→mb x=bootBuiltins x) (nl:h.NoLimit) (hl:h.get? l=some (lst vs)):(c0 w h l).Ok:=by
 have ne:∀ (a:Addr) (m:Str→Option Value),h.Ns a m→a≠111→a∉[111,l]:=fun a m hn h1 hm=>by
  rcases List.mem_cons.mp hm with q | hm
  ·exact h1 q
  ·simp -iota at hm
   subst hm
   obtain ⟨o,es,ep,ho,hd,_⟩:=hn
   rw [hl] at ho
   obtain rfl:=sj ho
   cases hd
 obtain ⟨mc,hs⟩:=nl
 have hs':=hs
 exact cx_ok X Ng Nb hb ⟨mc,hs⟩ (ne _ _ Ng (by decide)) (ne _ _ Nb (by decide)) (ne _ _ hs.1 (by decide))
theorem CodeHd.tab {h:Heap} {c P:Addr} (x:CodeHd h c P):isCodeTable h P:=by
 obtain ⟨o,vs,_,_,_,_,_,_,_,h1,h2,h3,h4,_⟩:=x
 exact ⟨c,o,vs,h1,h2,h3,h4⟩
theorem st0 {w:World} {s:Shared} {l:Addr} {vs:List Value} {ns:List Int} (hT:∀ P∈[111],s.heap.get? P=some (tabObj #[])) (hl:s.heap.get? l=some (lst vs)) (hi:IntsAre vs ns) (hn:ns.length≤63) :
  St (c0 w s.heap l) [111,l] [.tab [],.arg (lst vs) (ns.map .int)] s:=by
 have h1:=hT 111 (by simp -iota)
 have hne:∀ P,s.heap.get? P=some (tabObj #[])→P≠l:=fun P e q=>by subst q;rw [hl] at e;cases e
 refine ⟨fun b o _ e=>e,rfl,fun k a o e e'=>?_,?_,fun k a e _=>.inr (List.mem_of_getElem? e),⟨_,rfl⟩,fun k hk=>absurd hk (Nat.not_lt_zero _),fun b o e=>⟨o,e⟩,Nat.zero_le _⟩
 ·match k with
  | 0=>obtain rfl:=sj e;obtain rfl:=sj e';exact ⟨[],h1,trivial⟩
  | 1=>obtain rfl:=sj e;obtain rfl:=sj e';exact ⟨hl,vs,_,rfl,ints_relL hi,by simp -iota;omega⟩
  | k + 2=>exact nsf e
 ·have n1:=hne 111 h1
  simp -iota [n1]
theorem end_ok {w:World} {s:Shared} {l:Addr} {vs:List Value} {cl:Str→Option Addr} {mean:ExcName→Option Value} {d:WData} {H':List AO} (X:(KF w).In s.heap) (hT:∀ P∈[111],s.heap.get? P=some (tabObj #[])) (hl:s.heap.get? l=some (lst vs)) (hg:s.gens=#[]) (hp:PySem.Challenge.rw_tc0011_01.row.claim.post [d] (.bool true) [d]=true)
  (h0:H'[0]?=some (.opq isTab)) (h2:∃ xs,H'[1]?=some (.arg (lst vs) xs))
  (W:WP (c0 w s.heap l) callerA (call (.ref 126) [.ref l] []) [111,l] H' s fun _ v=>v=.bool true) :
  wpAny (model PG w) callerA (call (.ref 126) [.ref l] []) (fun v s'=>GoodWG PySem.Challenge.rw_tc0011_01.row.claim cl mean [d] s (.ok (.ret v)) s') (fun e s'=>GoodWG PySem.Challenge.rw_tc0011_01.row.claim cl mean [d] s (.error e) s') s:=by
 refine W _ _ fun τ s' v a hv=>?_
 subst hv
 have o0:=a.st.objs 0 111 _ rfl h0
 obtain ⟨xs,h2⟩:=h2
 have o2:=a.st.objs 1 l _ rfl h2
 obtain ⟨p0,q0,ps0,rfl⟩:=o0
 have t0:=hT 111 (by simp -iota)
 refine ⟨.inl ⟨_,.bool true,[],rfl,fun _=>rfl,ReadsW.bool true,hp,fun _=>⟨List.nodup_nil,fun _ hm=>(nomatch hm)⟩⟩,⟨fun b o e=>?_,a.pres.there⟩,a.pres.os,?_⟩
 ·by_cases hb:b∈[111,l]
  ·rcases List.mem_cons.mp hb with q | hb
   ·subst q
    rw [t0] at e;obtain rfl:=sj e
    exact .inr (.inl ⟨CodeHd.tab (codeHd_of_K (c:=115) (P:=111) X (by kernel_rfl)),rfl,#[],ps0,rfl,by rw [q0,Array.empty_append]⟩)
   ·simp -iota at hb
    subst hb
    rw [hl] at e;obtain rfl:=sj e
    exact .inl o2.1
  ·exact .inl (a.pres.keep b o hb e)
 ·obtain ⟨more,e,hm⟩:=a.pres.gens
  intro y hy
  rw [e,hg] at hy
  exact hm y (by simpa -iota using hy)
noncomputable def LawRuns:Prop:=∀ (w:World) (s:Shared) (mg mb:Str→Option Value) (l:Addr) (vs:List Value) (ns:List Int),(KF w).In s.heap→s.heap.Ns mainGlobals mg→s.heap.Ns builtinsNs mb→(∀ x:Str,x≠"__name__"→mb x=bootBuiltins x)→s.heap.NoLimit→(∃ b o,mg "__builtins__"=some (.ref b)∧b≠builtinsNs∧s.heap.get? b=some o∧o.cls=.type "module"∧o.dict=some builtinsNs∧o.data=.plain)→s.gens=#[] →
 (∀ P∈[111],s.heap.get? P=some (tabObj #[]))→s.heap.get? l=some (lst vs)→IntsAre vs ns→ns.length≤63 →
 ∃ H':List AO,H'[0]?=some (.opq isTab)∧(∃ xs,H'[1]?=some (.arg (lst vs) xs))∧WP (c0 w s.heap l) callerA (call (.ref 126) [.ref l] []) [111,l] H' s fun _ v=>v=.bool true
theorem law_at {w:World} {h:Heap} {mg:Str→Option Value} (X:(KF w).In h) (Ng:h.Ns mainGlobals mg):mg "law"=some (.ref 126):=mg_of X Ng (by kernel_rfl)
set_option tactic.hygienic true in
theorem well_list {P:Params} {h:Heap} {l:Addr} {ns:List Int} {vs:List Value} (w:Well P h (.ref l) (ofPy (.list (ns.map .int)))) (hl:h.IsList l vs.toArray):h.get? l=some (lst vs):=by
 simp -iota only [ofPy] at w
 cases w with
 | list h1 h9 =>
  rename_i us
  obtain ⟨o,h2,_,n,h3⟩:=hl
  rw [h1] at h2
  obtain rfl:=sj h2
  have:us.toArray=vs.toArray:=(Data.seq.inj h3).1
  have:us=vs:=by simpa -iota using this
  subst this
  exact h1
theorem finish (R:LawRuns) {w:World} {s:Shared} {mg mb:Str→Option Value} {l:Addr} {vs:List Value} {ns:List Int} {cl:Str→Option Addr} {mean:ExcName→Option Value} (X:(KF w).In s.heap) (Ng:s.heap.Ns mainGlobals mg) (Nb:s.heap.Ns builtinsNs mb) (hb:∀ x:Str,x≠"__name__"→mb x=bootBuiltins x) (nl:s.heap.NoLimit) (bm:∃ b o,mg "__builtins__"=some (.ref b)∧b≠builtinsNs∧s.heap.get? b=some o∧o.cls=.type "module"∧o.dict=some builtinsNs∧o.data=.plain) (hg:s.gens=#[])
  (hT:∀ P∈[111],s.heap.get? P=some (tabObj #[])) (hw:Well w.params s.heap (.ref l) (ofPy (.list (ns.map .int)))) (hL:s.heap.IsList l vs.toArray) (hi:IntsAre vs ns) (hn:¬ (63:Int) < (ns.length:Int))
  (hp:PySem.Challenge.rw_tc0011_01.row.claim.post [ofPy (.list (ns.map .int))] (.bool true) [ofPy (.list (ns.map .int))]=true) :
  wpAny (model PG w) callerA (call (.ref 126) [.ref l] []) (fun v s'=>GoodWG PySem.Challenge.rw_tc0011_01.row.claim cl mean [ofPy (.list (ns.map .int))] s (.ok (.ret v)) s') (fun e s'=>GoodWG PySem.Challenge.rw_tc0011_01.row.claim cl mean [ofPy (.list (ns.map .int))] s (.error e) s') s:=by
 have hl:=well_list hw hL
 obtain ⟨H',h0,h2,W⟩:=R w s mg mb l vs ns X Ng Nb hb nl bm hg hT hl hi (by omega)
 exact end_ok X hT hl hg hp h0 h2 W
end Mine
open PySem PySem.W PyProof.Rows in
theorem Mine.law_of_runs (R:Mine.LawRuns):PySem.Challenge.rw_tc0011_01.Holds:=by
 refine Mine.hd0 ?_
 w_strict (
  intro w s₀ s₁ mg mb G Y fa o pm cd doc dV kV ho hd hcd hD hmg hg args vals as hpre hlay hrd hwl hlo
  have KX:=km_in_of Y
  km_tabs Y
  refine Ground.open G ?_
  intro T B D TE TW
  clear hD hcd TE TW D B
  have hfa:fa=126:=by
   have e:mg "law"=some (.ref fa):=hmg
   rw [Mine.law_at KX T.g] at e
   cases e;rfl
  clear hmg hd ho
  wrow_args hpre hlay hrd hwl hlo
  rename Well _ _ _ _=>hw1
  rename IntsAre _ _=>hI1
  rename Heap.IsList _ _ _=>hL1
  rename ¬ _=>hc1
  subst hfa
  refine Mine.finish R KX T.g T.b T.builtins T.nolimit T.bmain hg hT8 hw1 hL1 hI1 hc1 ?_
  first | rfl | wrow_post)
set_option maxHeartbeats 4000000
namespace Mine
open PySem PySem.Calls PyProof.Rows PySem.W
noncomputable def eras (h:Heap) (W:List Addr):Heap:=⟨h.objs.mapIdx fun i o=>if i∈W then { o with data:=.freed } else o,h.life⟩
theorem zbs (h:Heap) (W:List Addr) (a:Addr):(eras h W).get? a=if a∈W then none else h.get? a:=by
 unfold Heap.get? eras
 simp -iota only [Array.getElem?_mapIdx]
 by_cases q:a∈W
 ·simp -iota only [if_pos q]
  cases h.objs[a]? with
  | none=>rfl
  | some o=>rfl
 ·simp -iota only [if_neg q]
  cases h.objs[a]? with
  | none=>rfl
  | some o=>rfl
theorem zbq {h:Heap} {W:List Addr} {a:Addr} {o:Obj} (e:(eras h W).get? a=some o):a∉W∧h.get? a=some o:=by
 rw [zbs] at e
 by_cases q:a∈W
 ·rw [if_pos q] at e;exact nsf e
 ·rw [if_neg q] at e;exact ⟨q,e⟩
theorem erask {h:Heap} {W:List Addr} {a:Addr} {o:Obj} (e:(eras h W).get? a=some o) {Γ:Prop} (κ:a∉W→h.get? a=some o→Γ):Γ:=by
 rw [zbs] at e
 by_cases q:a∈W
 ·rw [if_pos q] at e;exact nsf e
 ·rw [if_neg q] at e;exact κ q e
theorem zd7 {h:Heap} {W:List Addr} {a:Addr} {o:Obj} (q:a∉W) (e:h.get? a=some o):(eras h W).get? a=some o:=by rw [zbs,if_neg q];exact e
structure TopAt (w:World) (h:Heap) (mg mb:Str→Option Value):Prop where
 X:(KF w).In h
 Ng:h.Ns mainGlobals mg
 Nb:h.Ns builtinsNs mb
 hb:∀ x:Str,x≠"__name__"→mb x=bootBuiltins x
 nl:h.NoLimit
 bm:∃ b o,mg "__builtins__"=some (.ref b)∧b≠builtinsNs∧h.get? b=some o∧o.cls=.type "module"∧o.dict=some builtinsNs∧o.data=.plain
structure TopOut (w:World) (mg:Str→Option Value) (W:List Addr):Prop where
 K:KOut (KF w) W
 g:mainGlobals∉W
 b:builtinsNs∉W
 s:cStatics∉W
 m:∀ b,mg "__builtins__"=some (.ref b)→b∉W
theorem TopAt.keep {w:World} {h h':Heap} {mg mb:Str→Option Value} {W:List Addr} (T:TopAt w h mg mb) (O:TopOut w mg W) (hk:∀ b o,b∉W→h.get? b=some o→h'.get? b=some o):TopAt w h' mg mb:=by
 obtain ⟨b,o,b1,b2,b3,b4,b5,b6⟩:=T.bm
 obtain ⟨mc,n1,n2⟩:=T.nl
 exact ⟨fun a o e=>hk a o (O.K a o e) (T.X a o e),zc2 T.Ng fun o=>hk _ o O.g,zc2 T.Nb fun o=>hk _ o O.b,T.hb,⟨mc,zc2 n1 fun o=>hk _ o O.s,n2⟩,
  ⟨b,o,b1,b2,hk b o (O.m b b1) b3,b4,b5,b6⟩⟩
theorem TopOut.fresh {w:World} {h:Heap} {mg mb:Str→Option Value} {Wb W:List Addr} (T:TopAt w h mg mb) (O:TopOut w mg Wb) (hW:∀ a∈W,h.get? a=none∨a∈Wb):TopOut w mg W:=by
 have no:∀ a o,h.get? a=some o→a∉Wb→a∉W:=fun a o e hb q=>by
  rcases hW a q with z | z
  ·rw [e] at z;exact snf z
  ·exact hb z
 have ns:∀ a m,h.Ns a m→a∉Wb→a∉W:=fun a m hn hb=>by
  obtain ⟨o,es,ep,ho,r⟩:=hn
  exact no a o ho hb
 obtain ⟨mc,n1,n2⟩:=T.nl
 obtain ⟨b,o,b1,b2,b3,_⟩:=T.bm
 refine ⟨fun a o e=>no a o (T.X a o e) (O.K a o e),ns _ _ T.Ng O.g,ns _ _ T.Nb O.b,ns _ _ n1 O.s,fun b' hb'=>?_⟩
 rw [b1] at hb';cases hb'
 exact no b o b3 (O.m b b1)
theorem TopAt.blt {w:World} {h:Heap} {mg mb:Str→Option Value} (T:TopAt w h mg mb) {P:Addr} {ps:Array Value} (hP:h.get? P=some (tabObj ps)):h.BuiltinsAt mg P:=by
 obtain ⟨b,o,b1,b2,b3,b4,b5,b6⟩:=T.bm
 refine ⟨b,o,b1,b2,fun q=>?_,fun q=>?_,b3,b4,b5,b6⟩
 ·obtain ⟨o',es,ep,ho,hd,_⟩:=T.Ng
  rw [← q,b3] at ho;obtain rfl:=sj ho
  rw [b6] at hd;cases hd
 ·rw [q,hP] at b3;obtain rfl:=sj b3;cases b4
section
variable {c:Cx} {A:Around} {σ:List Addr} {H H':List AO} {s:Shared} {env:Env} {sc:Scope} {vars:Vars} {mg mb:Str→Option Value} {w:World}
theorem fresh_hb (S:St c σ H s) {a:Addr} (hn:s.heap.get? a=none):c.hb.get? a=none∨a∈c.Wb:=by
 cases e:c.hb.get? a with
 | none=>exact .inl rfl
 | some o =>
  obtain ⟨o',e'⟩:=S.live a o e
  rw [hn] at e';exact nsf e'
theorem not_mem (S:St c σ H s) {a:Addr} (hn:s.heap.get? a=none):a∉σ:=fun q=>by
 obtain ⟨o,e⟩:=S.there q
 rw [hn] at e;exact nsf e
theorem St.add (S:St c σ H s) {a:Addr} {o:AO} (hne:a∉σ) (hf:c.hb.get? a=none∨a∈c.Wb) (ha:o.At (σ++[a]) s.heap a):St c (σ++[a]) (H++[o]) s:=by
 refine ⟨S.base,by simp -iota [S.len],fun k b o' e e'=>?_,?_,fun k b hb hkf=>?_,?_,fun k hkf=>?_,S.live,S.nle⟩
 ·by_cases h:k < σ.length
  ·rw [List.getElem?_append_left h] at e
   rw [List.getElem?_append_left (S.len▸h)] at e'
   exact (S.objs k b o' e e').mono
  ·have hk0:k=σ.length:=by
    have:=(List.getElem?_eq_some_iff.mp e).1
    simp -iota at this;omega
   subst hk0
   rw [List.getElem?_append_right (Nat.le_refl _)] at e
   rw [List.getElem?_append_right (by rw [S.len];exact Nat.le_refl _)] at e'
   simp -iota at e
   simp -iota [S.len] at e'
   subst e e'
   exact ha
 ·rw [List.nodup_append]
  exact ⟨S.nodup,by simp -iota,fun x hx y hy=>by simp -iota at hy;subst hy;exact fun q=>hne (q▸hx)⟩
 ·by_cases h:k < σ.length
  ·rw [List.getElem?_append_left h] at hb
   exact S.fresh k b hb hkf
  ·have hk0:k=σ.length:=by
    have:=(List.getElem?_eq_some_iff.mp hb).1
    simp -iota at this;omega
   subst hk0
   rw [List.getElem?_append_right (Nat.le_refl _)] at hb
   simp -iota at hb
   subst hb
   exact hf
 ·obtain ⟨t,e⟩:=S.fix
  exact ⟨t++[a],by rw [e,List.append_assoc]⟩
 ·obtain ⟨P,e⟩:=S.fixed k hkf
  exact ⟨P,by rw [List.getElem?_append_left (by have:=S.fixLen;have:=S.nle;rw [← S.len];omega)];exact e⟩
theorem relL_clean {σ:List Addr}:∀ {xs:List AV} {vs:List Value},RelL σ xs vs→zb1 σ.length xs=true
 | [],[],_=>rfl
 | x::xs,v::vs,⟨r,rs⟩=>by
  have h:=relL_clean rs
  unfold zb1 at h ⊢
  rw [List.all_cons,h,Bool.and_true]
  cases x with
  | obj k =>
   obtain ⟨a,e,_⟩:=r
   exact decide_eq_true (List.getElem?_eq_some_iff.mp e).1
  | _=>rfl
 | [],_::_,h=>h.elim
 | _::_,[],h=>h.elim
theorem St.clean (S:St c σ H s):cleanH H.length H=true:=by
 unfold cleanH
 refine List.all_eq_true.mpr fun o ho=>?_
 obtain ⟨k,e⟩:=List.mem_iff_getElem?.mp ho
 have hk:=(List.getElem?_eq_some_iff.mp e).1
 have x:=S.objs k σ[k]! o (by rw [← S.len] at hk;simp -iota [hk]) e
 rw [← S.len]
 cases o with
 | list xs=>obtain ⟨vs,n,_,r,_⟩:=x;exact relL_clean r
 | arg _ xs=>obtain ⟨_,vs,n,_,r,_⟩:=x;exact relL_clean r
 | tab xs=>obtain ⟨vs,_,r⟩:=x;exact relL_clean r
 | _=>rfl
noncomputable def onTab {γ:Type} (z:Option AO) (f:List AV→Option γ):Option γ:=o1 z fun o=>AO.rec (motive:=fun _=>Option γ) (fun _=>none) (fun _ _ _=>none) (fun _=>none) (fun _ _=>none) f none o
theorem onTab_some {γ:Type} {z:Option AO} {f:List AV→Option γ} {r:γ} (h:onTab z f=some r) {Γ:Prop} (κ:∀ xs,z=some (.tab xs)→f xs=some r→Γ):Γ:=by
 refine za7 h ?_;rintro o rfl h
 cases o with
 | tab xs=>exact κ xs rfl h
 | _=>exact nsf h
noncomputable def isCd (z:Option AO):Bool:=Option.rec (motive:=fun _=>Bool) false (fun o=>AO.rec (motive:=fun _=>Bool) (fun _=>false) (fun _ _ _=>false) (fun _=>false) (fun _ _=>false) (fun _=>false) true o) z
theorem isCd_is {z:Option AO} (h:isCd z=true):z=some .code:=by
 cases z with
 | none=>exact ftf h
 | some o=>cases o<;>first | rfl | exact ftf h
noncomputable def tabStep (line col:Int) (H:List AO):Option (List AO):=onTab (nth H 0) fun xs=>List.rec (motive:=fun _=>Option (List AO)) (some (appF (setF H (.tab [.int line,.int col,.obj (lenF H)]) 0) [.code])) (fun _ _ _=>cI xs fun l t=>cI t fun d t=>cO t fun k t=>onNil t (bi (iEq l line) (bi (iEq d col) (bi (isCd (nth H k)) (some H) none) none) none)) xs
theorem tabStep_is {l d:Int} {H H1:List AO} (h:tabStep l d H=some H1):(H[0]?=some (.tab [])∧H1=H.set 0 (.tab [.int l,.int d,.obj H.length])++[.code])∨∃ k,H[0]?=some (.tab [.int l,.int d,.obj k])∧H[k]?=some .code∧H=H1:=by
 refine onTab_some h fun xs e h=>?_
 rw [zaw] at e
 cases xs with
 | nil =>
  obtain rfl:=sj h
  rw [zc3,setF_eq,zau]
  exact .inl ⟨e,rfl⟩
 | cons a t =>
  refine cI_some (show cI (a::t) _=some H1 from h) fun l' _ q h=>?_
  refine cI_some h ?_;rintro d' _ rfl h
  refine cO_some h ?_;rintro k _ rfl h
  refine zdf h ?_;rintro rfl hh
  rw [zay,zay,zay] at hh
  refine ifsk hh fun q1 hh=>?_
  refine ifsk hh fun q2 hh=>?_
  refine ifsk hh fun q3 h=>?_
  rw [iEq_eq] at q1 q2
  rw [zaw] at q3
  rw [q,of_decide_eq_true q1,of_decide_eq_true q2] at e
  exact .inr ⟨k,e,isCd_is q3,sj h⟩
theorem lam_make {params:Arguments} {body:Expr} {scope:Scope} {pos:Pos} {cc P:Addr} {clos:List (Str×Addr)} {H1:List AO} (T:TopAt w s.heap mg mb) (S:St c σ H s) (hdef:defaultsOf params env=([],[])) (hge0:env.globals=mainGlobals) (hcode:env.code=.ref cc) (C:CodeHd s.heap cc P)
  (hcl:closureFor scope env=pure clos) (hkt:σ[0]?=some P) (hfree:c.nfx≤0) (hql:env.qual++"<lambda>"=lamNm) (hts:tabStep (pos.line:Int) (pos.col:Int) H=some H1) {Q:Value→Shared→Prop} {E:Value→Shared→Prop}
  (hq:∀ τ f c' ctv h' tk,Aft c σ (H1++[.opq fun o=>o=kla_obj "<lambda>" (env.qual++"<lambda>") params body scope clos ((mg "__name__").getD .none) c' ctv]) s (τ++[f]) { s with heap:=h',toks:=tk } →
   (σ++τ).length=H1.length→h'.CodeRec (.ref c') (env.qual++"<lambda>")→c'≠f→(c'∈σ++τ)→H1[(σ++τ).idxOf c']?=some .code→Q (.ref f) { s with heap:=h',toks:=tk }) :
  wpAny (model c.prog c.w) A (eval (.Lambda params body scope pos) env) Q E s:=by
 have hgP:∀ {ps:Array Value},s.heap.get? P=some (tabObj ps)→mainGlobals≠P:=fun hP q=>by
  obtain ⟨o',es,ep,ho,hd,_⟩:=T.Ng
  rw [q,hP] at ho;obtain rfl:=sj ho;cases hd
 rcases tabStep_is hts with ⟨hH,rfl⟩ | ⟨k,hH,hk,rfl⟩
 ·-- the table is empty
  obtain ⟨vs,hP,rv⟩:=S.objs 0 P _ hkt hH
  have hvs:vs=[]:=List.length_eq_zero_iff.mp rv.length
  subst hvs
  refine kla_eval hdef (kla_makeFunction (mg:=mg) hcl hge0 T.Ng hcode C hP trivial rfl (hgP hP) (T.blt hP) fun c' ctv h' tk hx hge hlt hrec htb=>?_)
  generalize hh2:h'.push (kla_obj "<lambda>" (env.qual++"<lambda>") params body scope clos ((mg "__name__").getD .none) c' ctv)=h2
  have kp:∀ b o,h'.get? b=some o→h2.get? b=some o:=fun b o e=>by rw [← hh2];exact Heap.get?_push_of_some _ e
  have hx2:Heap.ExtBut P s.heap h2:=fun b o hb e=>kp b o (hx b o hb e)
  have nc:s.heap.get? c'=none:=Heap.get?_none_of_le hge
  have hsz:s.heap.objs.size≤h'.objs.size:=by omega
  have nf:s.heap.get? h'.objs.size=none:=Heap.get?_none_of_le hsz
  have hcf:c'≠h'.objs.size:=Nat.ne_of_lt hlt
  have S1:St c σ (H.set 0 (.opq fun _=>True)) { s with heap:=h2,toks:=tk } :=
   S.setAt (s':={ s with heap:=h2,toks:=tk }) hfree hkt (fun b ob hb e=>hx2 b ob hb e) ⟨_,kp _ _ htb,trivial⟩
  obtain ⟨cq,oc,vc,tc,e1,e2,e3,e4⟩:=hrec
  cases e1
  have hc2:c'∉σ:=not_mem S nc
  have S2:=S1.add (a:=c') (o:=.code) hc2 (fresh_hb S nc) ⟨oc,vc,tc,kp _ _ e2,e3,by rw [← hql];exact e4⟩
  have hf2:h'.objs.size∉σ++[c']:=fun q=>(List.mem_append.mp q).elim (not_mem S nf) (fun z=>hcf (by simp -iota at z;exact z.symm))
  have S3:=S2.add (a:=h'.objs.size) (o:=.opq fun o=>o=kla_obj "<lambda>" (env.qual++"<lambda>") params body scope clos ((mg "__name__").getD .none) c' ctv) hf2 (fresh_hb S nf) ⟨_,by show h2.get? _=_;rw [← hh2];exact Heap.get?_push_size _ rfl,rfl⟩
  have hkt3:(σ++[c']++[h'.objs.size])[0]?=some P:=by
   rw [List.append_assoc,List.getElem?_append_left (List.getElem?_eq_some_iff.mp hkt).1];exact hkt
  have S4:=S3.setAt (s':={ s with heap:=h2,toks:=tk }) (o:=.tab [.int (pos.line:Int),.int (pos.col:Int),.obj H.length]) hfree hkt3 (fun b ob _ e=>e)
   ⟨[rawInt pos.line,rawInt pos.col,.ref c'],by rw [kp _ _ htb];rfl,⟨_,rfl⟩,⟨_,rfl⟩,⟨c',by rw [List.append_assoc,List.getElem?_append_right (by rw [S.len];exact Nat.le_refl _),S.len];simp -iota,rfl⟩,trivial⟩
  have hset:((H.set 0 (.opq fun _=>True)++[AO.code])++[AO.opq fun o=>o=kla_obj "<lambda>" (env.qual++"<lambda>") params body scope clos ((mg "__name__").getD .none) c' ctv]).set 0 (.tab [.int (pos.line:Int),.int (pos.col:Int),.obj H.length]) =
    (H.set 0 (.tab [.int (pos.line:Int),.int (pos.col:Int),.obj H.length])++[AO.code])++[AO.opq fun o=>o=kla_obj "<lambda>" (env.qual++"<lambda>") params body scope clos ((mg "__name__").getD .none) c' ctv]:=by
   cases H with
   | nil=>exact nsf hH
   | cons=>rfl
  rw [hset] at S4
  rw [List.append_assoc] at S4
  have al:Aft c σ ((H.set 0 (.tab [.int (pos.line:Int),.int (pos.col:Int),.obj H.length])++[AO.code])++[AO.opq fun o=>o=kla_obj "<lambda>" (env.qual++"<lambda>") params body scope clos ((mg "__name__").getD .none) c' ctv]) s ([c']++[h'.objs.size]) { s with heap:=h2,toks:=tk } :=
   ⟨S4,⟨fun b o hb e=>hx2 b o (fun q=>hb (q▸List.mem_of_getElem? hkt)) e,fun b o e=>by
    by_cases q:b=P
    ·subst q;exact ⟨_,kp _ _ htb⟩
    ·exact ⟨o,hx2 b o q e⟩,.refl _,rfl⟩,fun a ha=>by
    rcases List.mem_append.mp ha with q | q
    ·simp -iota at q;subst q;exact nc
    ·simp -iota at q;subst q;exact nf⟩
  refine hq [c'] h'.objs.size c' ctv h2 tk al (by simp -iota [S.len]) ⟨c',oc,vc,tc,rfl,kp _ _ e2,e3,e4⟩ hcf (by simp -iota) ?_
  have hix:(σ++[c']).idxOf c'=σ.length:=by rw [List.idxOf_append,if_neg hc2];simp -iota
  rw [hix,S.len]
  exact zav (by rw [List.length_set])
 ·-- the code object is there
  obtain ⟨vs,hP,rv⟩:=S.objs 0 P _ hkt hH
  obtain ⟨v1,v2,v3,rfl⟩:∃ v1 v2 v3,vs=[v1,v2,v3]:=by
   rcases vs with _ | ⟨a,_ | ⟨b,_ | ⟨d,_ | _⟩⟩⟩
   ·exact rv.elim
   ·exact rv.2.elim
   ·exact rv.2.2.elim
   ·exact ⟨a,b,d,rfl⟩
   ·exact rv.2.2.2.elim
  obtain ⟨⟨t1,rfl⟩,⟨t2,rfl⟩,⟨cc',hcc,rfl⟩,_⟩:=rv
  obtain ⟨oc,vc,tc,e2,e3,e4⟩:=S.objs k cc' _ hcc hk
  refine kla_eval hdef (kla_makeFunctionHit (mg:=mg) (cv:=.ref cc') hcl hge0 T.Ng hcode C hP trivial (by simp -iota [codeAmong]) (T.blt hP) fun ctv h' tk hx hge=>?_)
  have nf:s.heap.get? h'.objs.size=none:=Heap.get?_none_of_le hge
  have S2:=S.alloc (s':={ s with heap:=h'.push (kla_obj "<lambda>" (env.qual++"<lambda>") params body scope clos ((mg "__name__").getD .none) cc' ctv),toks:=tk }) (a:=h'.objs.size) (o:=.opq fun o=>o=kla_obj "<lambda>" (env.qual++"<lambda>") params body scope clos ((mg "__name__").getD .none) cc' ctv)
   (fun b ob e=>Heap.get?_push_of_some _ (hx b ob e)) nf ⟨_,Heap.get?_push_size _ rfl,rfl⟩
  have hk2:∀ b o,s.heap.get? b=some o→(h'.push (kla_obj "<lambda>" (env.qual++"<lambda>") params body scope clos ((mg "__name__").getD .none) cc' ctv)).get? b=some o:=fun b o e=>Heap.get?_push_of_some _ (hx b o e)
  have al:Aft c σ (H++[AO.opq fun o=>o=kla_obj "<lambda>" (env.qual++"<lambda>") params body scope clos ((mg "__name__").getD .none) cc' ctv]) s ([]++[h'.objs.size]) { s with heap:=h'.push (kla_obj "<lambda>" (env.qual++"<lambda>") params body scope clos ((mg "__name__").getD .none) cc' ctv),toks:=tk } :=
   ⟨S2,⟨fun b o _ e=>hk2 b o e,fun b o e=>⟨o,hk2 b o e⟩,.refl _,rfl⟩,fun a ha=>by simp -iota at ha;subst ha;exact nf⟩
  refine hq [] h'.objs.size cc' ctv _ tk al (by simp -iota [S.len]) ⟨cc',oc,vc,tc,rfl,hk2 _ _ e2,e3,by rw [hql];exact e4⟩ (fun q=>?_) (by simpa -iota using List.mem_of_getElem? hcc) ?_
  ·rw [q] at e2;rw [nf] at e2;exact snf e2.symm
  ·rw [List.append_nil]
   have hlt:=(List.getElem?_eq_some_iff.mp hcc).1
   have:σ.idxOf cc'=k:=nodup_idx S.nodup (by
    rw [List.getElem?_eq_getElem (List.idxOf_lt_length_of_mem (List.mem_of_getElem? hcc))]
    exact congrArg some (List.getElem_idxOf _)) hcc
   rw [this];exact hk
noncomputable def cleanO (n:Nat):AO→Bool
 | .list xs=>zb1 n xs
 | .arg _ xs=>zb1 n xs
 | .tab xs=>zb1 n xs
 | _=>true
theorem at_clean {σ σ' τ:List Addr} {h:Heap} {a:Addr} {o:AO} (x:o.At (σ++τ) h a) (hc:cleanO σ.length o=true):o.At (σ++σ') h a:=by
 cases o with
 | list xs=>obtain ⟨vs,n,e,r,l⟩:=x;exact ⟨vs,n,e,(zbn hc r).mono,l⟩
 | range _ _ _=>exact x
 | opq _=>exact x
 | arg _ xs=>obtain ⟨e,vs,n,eo,r,l⟩:=x;exact ⟨e,vs,n,eo,(zbn hc r).mono,l⟩
 | tab xs=>obtain ⟨vs,e,r⟩:=x;exact ⟨vs,e,(zbn hc r).mono⟩
 | code=>exact x
theorem at_clean0 {σ σ':List Addr} {h:Heap} {a:Addr} {o:AO} (x:o.At σ h a) (hc:cleanO 0 o=true):o.At σ' h a:=at_clean (σ:=[]) (τ:=σ) (σ':=σ') x hc
noncomputable def opqLe (o1 o:AO):Prop:=o1=o∨(∃ P Q,o1=.opq P∧o=.opq Q∧∀ x,P x→Q x)∨∃ ob xs,o1=.arg ob xs∧o=.list xs
theorem at_le {σ:List Addr} {h:Heap} {a:Addr} {o1 o:AO} (l:opqLe o1 o) (x:o1.At σ h a):o.At σ h a:=by
 rcases l with rfl | ⟨P,Q,rfl,rfl,hl⟩ | ⟨ob,xs,rfl,rfl⟩
 ·exact x
 ·obtain ⟨ob,e,p⟩:=x;exact ⟨ob,e,hl ob p⟩
 ·obtain ⟨e,vs,n,eo,r,l⟩:=x;subst eo;exact ⟨vs,n,e,r,l⟩
noncomputable def reC (c:Cx) (h:Heap) (W fx:List Addr) (nf:Nat):Cx:=⟨c.prog,c.w,eras h W,[],fx,nf,c.G⟩
theorem rebase_st (S:St c σ H s) {W σ' fx:List Addr} {H':List AO} {nf:Nat} (hl:σ'.length=H'.length) (sub:∀ (j:Nat) (a:Addr) (o:AO),σ'[j]?=some a→H'[j]?=some o→cleanO 0 o=true∧∃ (i:Nat) (o1:AO),σ[i]?=some a∧H[i]?=some o1∧opqLe o1 o)
  (nd:σ'.Nodup) (hW:∀ (j:Nat) (a:Addr),σ'[j]?=some a→nf≤j→a∈W) (hfx:∃ t,σ'=fx++t) (hnf:nf≤fx.length) (hopq:∀ j,j < nf→∃ P,H'[j]?=some (.opq P)):St (reC c s.heap W fx nf) σ' H' s:=by
 refine ⟨fun b o _ e=>(zbq e).2,hl,fun k a o e e'=>?_,nd,fun k a e hk=>.inl (by show (eras s.heap W).get? a=none;rw [zbs,if_pos (hW k a e hk)]),hfx,hopq,fun b o e=>⟨o,(zbq e).2⟩,hnf⟩
 obtain ⟨h1,i,o1,g1,g2,g3⟩:=sub k a o e e'
 exact at_clean0 (at_le g3 (S.objs i a o1 g1 g2)) h1
theorem hid_lookup (y:Str) (sc:Scope) (x:Str):(hid y sc).names.lookup x=(sc.names.lookup x).map fun k=>if x == y then .free else k:=by
 show (sc.names.map _).lookup x=_
 induction sc.names with
 | nil=>rfl
 | cons p l ih =>
  obtain ⟨n,k⟩:=p
  rw [List.map_cons]
  by_cases q:x=n
  ·subst q
   by_cases q2:(x == y)=true
   ·rw [if_pos q2];simp -iota [q2]
   ·rw [if_neg q2];simp -iota [q2]
  ·have hx:(x == n)=false:=beq_eq_false_iff_ne.mpr q
   by_cases q2:(n == y)=true
   ·rw [if_pos q2,List.lookup_cons,List.lookup_cons,hx];exact ih
   ·rw [if_neg q2,List.lookup_cons,List.lookup_cons,hx];exact ih
theorem rebase_sf (F:SF c sc vars env σ s.heap) {W σ' fx:List Addr} {nf:Nat} {y:Str} {vars':Vars} (hy:sc.names.lookup y=some .cell) (hsub:∀ a∈σ',a∈σ) (hv:∀ x av',look (key x) vars'=some av'→∃ av,look (key x) vars=some av∧∀ v,av.Rel σ v→av'.Rel σ' v)
  (hnd:look (key ".0") vars'=none) (hL:env.locals∈W) (hC:∀ x a,x≠y→sc.names.lookup x=some .cell→env.cells.lookup x=some a→a∈W):SF (reC c s.heap W fx nf) (hid y sc) vars' env σ' s.heap:=by
 have hk:∀ x k,(hid y sc).names.lookup x=some k→(x=y∧k=.free)∨(x≠y∧sc.names.lookup x=some k):=fun x k e=>by
  rw [hid_lookup] at e
  by_cases q:x=y
  ·subst q
   rw [hy] at e
   simp -iota at e
   exact .inl ⟨rfl,e.symm⟩
  ·rw [beq_eq_false_iff_ne.mpr q] at e
   simp -iota at e
   exact .inr ⟨q,e⟩
 have hkb:∀ x,x≠y→(hid y sc).names.lookup x=sc.names.lookup x:=fun x q=>by
  rw [hid_lookup,beq_eq_false_iff_ne.mpr q];simp -iota
 refine ⟨⟨⟨F.kind,F.glob,F.blt,fun x hx=>?_,fun x av hx hvr=>?_,F.ns,fun q=>F.outL (hsub _ q),fun x a e q=>F.outC x a e (hsub _ q),hnd⟩,F.up,fun x hx=>?_,fun x hx=>?_⟩,⟨fun x=>?_,fun x hx=>?_⟩,F.inj,F.outLC,?_,fun x a hx e=>?_,F.upL⟩
 ·rcases hk x _ hx with ⟨_,q⟩ | ⟨_,q⟩
  ·cases q
  ·exact F.gk x q
 ·obtain ⟨av0,h1,h2⟩:=hv x av hx
  have hiv:isVar (sc.names.lookup x)=true:=by
   by_cases q:x=y
   ·subst q;rw [hy];rfl
   ·rw [← hkb x q];exact hvr
  rcases F.vk x av0 h1 hiv with ⟨k,m,v,n1,n2,r⟩ | ⟨k,a,v,n1,n2,r⟩
  ·exact .inl ⟨k,m,v,n1,n2,h2 v r⟩
  ·exact .inr ⟨k,a,v,n1,n2,h2 v r⟩
 ·by_cases q:x=y
  ·subst q;exact F.all x (.inl hy)
  ·rw [hkb x q] at hx;exact F.all x hx
 ·by_cases q:x=y
  ·subst q;exact F.ck x (.inl hy)
  ·rw [hkb x q] at hx;exact F.ck x hx
 ·by_cases q:x=y
  ·subst q
   constructor
   ·intro z
    have:=(F.scope.loc x).mp z
    rw [hy] at this;cases this
   ·intro z
    rw [hid_lookup,hy] at z
    simp -iota at z
  ·rw [hkb x q];exact F.scope.loc x
 ·rcases hk x _ hx with ⟨_,q⟩ | ⟨_,q⟩
  ·cases q
  ·exact F.scope.cel x q
 ·show (eras s.heap W).get? _=none
  rw [zbs,if_pos hL]
 ·show (eras s.heap W).get? _=none
  rcases hk x _ hx with ⟨_,q⟩ | ⟨q1,q⟩
  ·cases q
  ·rw [zbs,if_pos (hC x a q1 q e)]
theorem rebase_back {σ0 τ3 τ' τf W σ' fx:List Addr} {nf:Nat} {H0 H3 H'' Hf:List AO} {s0 s'':Shared} (S0:St c σ0 H0 s0) (A3:Aft c σ0 H3 s0 τ3 s) (a':AftS (reC c s.heap W fx nf) σ' H'' env s τ' s'')
  (hW:∀ a∈W,(a∈σ0∨s0.heap.get? a=none)∧(c.hb.get? a=none∨a∈c.Wb)) (hl:(σ0++τf).length=Hf.length) (hf0:∀ k,k < c.nfx→∃ P,Hf[k]?=some (.opq P)) (nd:τf.Nodup) (hτ:∀ a∈τf,s0.heap.get? a=none)
  (src:∀ (k:Nat) (a:Addr) (o:AO),(σ0++τf)[k]?=some a→Hf[k]?=some o→(a∉W∧cleanO σ0.length o=true∧∃ (i:Nat) (o1:AO),(σ0++τ3)[i]?=some a∧H3[i]?=some o1∧opqLe o1 o)∨(cleanO 0 o=true∧∃ (j:Nat) (o1:AO),(σ'++τ')[j]?=some a∧H''[j]?=some o1∧opqLe o1 o)) :
  Aft c σ0 Hf s0 τf s'':=by
 have kp:∀ b o,b∉W→s.heap.get? b=some o→s''.heap.get? b=some o:=fun b o hb e=>a'.st.base b o (fun q=>nomatch q) (zd7 hb e)
 have hdis:∀ a,a∈σ0→a∉τf:=fun a h1 h2=>by
  obtain ⟨o,ho⟩:=S0.there h1
  rw [hτ a h2] at ho;exact nsf ho
 have hcb:∀ b o,b∉c.Wb→c.hb.get? b=some o→b∉W:=fun b o hb e q=>by
  rcases (hW b q).2 with z | z
  ·rw [e] at z;exact snf z
  ·exact hb z
 refine ⟨⟨fun b o hb e=>kp b o (hcb b o hb e) (A3.st.base b o hb e),hl,fun k a o e e'=>?_,?_,fun k a e hk=>?_,?_,hf0,fun b o e=>?_,S0.nle⟩,⟨fun b o hb e=>?_,fun b o e=>?_,A3.pres.gens.trans a'.pres.gens,a'.pres.os.trans A3.pres.os⟩,hτ⟩
 ·rcases src k a o e e' with ⟨h1,h2,i,o1,g1,g2,g3⟩ | ⟨h1,j,o1,g1,g2,g3⟩
  ·exact at_clean ((at_le g3 (A3.st.objs i a o1 g1 g2)).keep fun ob q=>kp a ob h1 q) h2
  ·exact at_clean0 (at_le g3 (a'.st.objs j a o1 g1 g2)) h1
 ·rw [List.nodup_append]
  exact ⟨S0.nodup,nd,fun x hx y hy q=>hdis x hx (q▸hy)⟩
 ·by_cases hj:k < σ0.length
  ·rw [List.getElem?_append_left hj] at e
   exact S0.fresh k a e hk
  ·rw [List.getElem?_append_right (by omega)] at e
   exact .inl (fresh_of S0 (hτ a (List.mem_of_getElem? e))).1
 ·obtain ⟨t,et⟩:=S0.fix
  exact ⟨t++τf,by rw [et,List.append_assoc]⟩
 ·obtain ⟨o1,e1⟩:=A3.st.live b o e
  exact a'.pres.there b o1 e1
 ·refine kp b o (fun q=>?_) (A3.pres.keep b o hb e)
  rcases (hW b q).1 with z | z
  ·exact hb z
  ·rw [z] at e;exact nsf e
 ·obtain ⟨o1,e1⟩:=A3.pres.there b o e
  exact a'.pres.there b o1 e1
end
noncomputable abbrev lawC (w:World) (h:Heap) (Wb:List Addr):Cx:=⟨PG,w,h,Wb,[111],0,G2⟩
theorem top_at {w:World} {h:Heap} {mg mb:Str→Option Value} {Wb σ:List Addr} {H:List AO} {s:Shared} (T:TopAt w h mg mb) (O:TopOut w mg Wb) (S:St (lawC w h Wb) σ H s):TopAt w s.heap mg mb:=T.keep O S.base
theorem fx0 {w:World} {h:Heap} {Wb σ:List Addr} {H:List AO} {s:Shared} (S:St (lawC w h Wb) σ H s):σ[0]?=some 111:=by
 obtain ⟨t,e⟩:=S.fix
 have e':σ=[111]++t:=e
 subst e'
 rfl
section
variable {α β:Type} {a b c d e x:α} {o p q r u:β}
theorem all3 {P:α→Prop} (h1:P a) (h2:P b) (h3:P c):∀ x∈[a,b,c],P x:=List.forall_mem_cons.mpr ⟨h1,List.forall_mem_cons.mpr ⟨h2,List.forall_mem_cons.mpr ⟨h3,fun _ h=>nomatch h⟩⟩⟩
theorem all4 {P:α→Prop} (h1:P a) (h2:P b) (h3:P c) (h4:P d):∀ x∈[a,b,c,d],P x:=List.forall_mem_cons.mpr ⟨h1,all3 h2 h3 h4⟩
theorem all5 {P:α→Prop} (h1:P a) (h2:P b) (h3:P c) (h4:P d) (h5:P e):∀ x∈[a,b,c,d,e],P x:=List.forall_mem_cons.mpr ⟨h1,all4 h2 h3 h4 h5⟩
theorem not3 (h1:x≠a) (h2:x≠b) (h3:x≠c):x∉[a,b,c]:=fun m=>all3 (P:=fun y=>x≠y) h1 h2 h3 x m rfl
theorem not4 (h1:x≠a) (h2:x≠b) (h3:x≠c) (h4:x≠d):x∉[a,b,c,d]:=fun m=>all4 (P:=fun y=>x≠y) h1 h2 h3 h4 x m rfl
theorem nodup3 (h1:a≠b) (h2:a≠c) (h3:b≠c):[a,b,c].Nodup :=
 List.nodup_cons.mpr ⟨by simp -iota [h1,h2],List.nodup_cons.mpr ⟨by simp -iota [h3],List.nodup_cons.mpr ⟨List.not_mem_nil,List.nodup_nil⟩⟩⟩
theorem nodup5 (h1:a≠b) (h2:a≠c) (h3:a≠d) (h4:a≠e) (h5:b∉[c,d,e]) (h6:c≠d) (h7:c≠e) (h8:d≠e):[a,b,c,d,e].Nodup :=
 List.nodup_cons.mpr ⟨not4 h1 h2 h3 h4,List.nodup_cons.mpr ⟨h5,nodup3 h6 h7 h8⟩⟩
theorem idx_cons {P:Nat→α→β→Prop} {l:List α} {m:List β} (h0:P 0 a o) (h:∀ j x y,l[j]?=some x→m[j]?=some y→P (j + 1) x y):∀ (j:Nat) (x:α) (y:β),(a::l)[j]?=some x→(o::m)[j]?=some y→P j x y
 | 0,_,_,e,e'=>by obtain rfl:=sj e;obtain rfl:=sj e';exact h0
 | j + 1,x,y,e,e'=>h j x y e e'
theorem idx5 {P:Nat→α→β→Prop} (h0:P 0 a o) (h1:P 1 b p) (h2:P 2 c q) (h3:P 3 d r) (h4:P 4 e u):∀ (j:Nat) (x:α) (y:β),[a,b,c,d,e][j]?=some x→[o,p,q,r,u][j]?=some y→P j x y :=
 idx_cons h0 (idx_cons (P:=fun j=>P (j + 1)) h1 (idx_cons (P:=fun j=>P (j + 2)) h2 (idx_cons (P:=fun j=>P (j + 3)) h3 (idx_cons (P:=fun j=>P (j + 4)) h4 fun _ _ _ e=>nsf e))))
end
theorem get2 {α:Type} {L:List α} {n:Nat} (h:n < L.length):∃ x,L[n]?=some x:=⟨L[n],List.getElem?_eq_getElem h⟩
theorem clean_mono {n m:Nat} (h:n≤m):∀ {xs:List AV},zb1 n xs=true→zb1 m xs=true:=by
 intro xs hx
 unfold zb1 at hx ⊢
 rw [List.all_eq_true] at hx ⊢
 intro x hm
 have:=hx x hm
 cases x with
 | obj k=>simp at this ⊢;omega
 | _=>rfl
theorem cleanH_get {n:Nat} {H:List AO} (h:cleanH n H=true) {k:Nat} {o:AO} (e:H[k]?=some o):cleanO n o=true:=by
 have:=List.all_eq_true.mp h _ (List.mem_of_getElem? e)
 cases o<;>first | exact this | rfl
section
variable {M:Model} {A:Around} {R:GenEnd} {Y:Protocol} {n:Nat} {s₀:Shared} {c:Code} {fs:List Frame} {s:Shared} {env:Env}
 {K:Flow→Sem Fin} {H:Value→Sem Fin} {gd:Bool→Bool} {lv:List Value→List Value}
theorem seg_If {test:Expr} {body orelse:List Stmt} {pos:Pos}
  (h:wpAny M (A.over c fs) (isTrue test env (eval test env)) (fun b s'=>if b=true then Seg M A R Y n s₀ c ((execs body env).wrap K H gd lv) fs s' else Seg M A R Y n s₀ c ((execs orelse env).wrap K H gd lv) fs s') (fun x s'=>Seg M A R Y n s₀ c (H x) fs s') s) :
  Seg M A R Y n s₀ c ((exec (.If test body orelse pos) env).wrap K H gd lv) fs s:=by
 rw [exec_If]
 show Seg M A R Y n s₀ c (.at pos fun _=>((isTrue test env (eval test env)) >>= fun b=>if b=true then execs body env else execs orelse env).wrap K H gd lv) fs s
 refine seg_at ?_
 rw [Sem.bind_eq_wrap',Sem.wrap_wrap]
 refine seg_wrap (wpAny_mono h (fun b s' hb=>?_) fun _ _ x=>x)
 cases b with
 | true=>exact hb
 | false=>exact hb
noncomputable def backFrom (K:Flow→Sem Fin) (H:Value→Sem Fin) (gd:Bool→Bool) (lv:List Value→List Value) (env:Env) (c:Code) (p:Pos):Frame :=
 .ret (fun r=>((match r with | .ok f=>(.pure f:Sem Flow) | .error e=>.raise e).onRaise fun (x:Value)=>do
    if (← field x 1) == Value.none then unsupported "frame.own-activation:exception-without-traceback"
    setFlight x env.frame).wrap K H gd lv) none (gd false) (lv []) c p []
theorem seg_For {target iter:Expr} {body orelse:List Stmt} {pos:Pos}
  (h:wpAny M (A.over c fs) (eval iter env) (fun x s1=>wpAny M (A.over c fs) (pyIter x) (fun it s2=>∀ p,Seg M A R Y n s₀ (.forLoop target it body orelse env) (M.den (.forLoop target it body orelse env)) (backFrom K H gd lv env c p::fs) s2)
   (fun x s'=>Seg M A R Y n s₀ c (H x) fs s') s1) (fun x s'=>Seg M A R Y n s₀ c (H x) fs s') s) (hs:∀ x,foldedSetIterable iter env x=pure x) :
  Seg M A R Y n s₀ c ((exec (.For target iter body orelse pos) env).wrap K H gd lv) fs s:=by
 rw [exec_For]
 show Seg M A R Y n s₀ c (.at pos fun _=>((eval iter env) >>= fun a=>foldedSetIterable iter env a >>= fun x=>standAt iter.pos >>= fun _=>holding [x] (pyIter x) >>= fun it=>runOwn (.forLoop target it body orelse env) env).wrap K H gd lv) fs s
 refine seg_at ?_
 rw [Sem.bind_eq_wrap',Sem.wrap_wrap]
 refine seg_wrap (wpAny_mono h (fun a s1 h1=>?_) fun _ _ x=>x)
 rw [hs a]
 show Seg M A R Y n s₀ c (.at iter.pos fun _=>(holding [a] (pyIter a) >>= fun it=>runOwn (.forLoop target it body orelse env) env).wrap K H gd lv) fs s1
 refine seg_at ?_
 rw [Sem.bind_eq_wrap',Sem.wrap_wrap]
 refine seg_wrap (wpAny_holding (wpAny_mono h1 (fun it s2 h2=>?_) fun _ _ x=>x))
 exact seg_call h2
end
section
variable {prog:Program} {w:World} {A:Around} {R:GenEnd} {Y:Protocol} {n:Nat} {s₀:Shared} {fs:List Frame} {s:Shared} {env:Env}
noncomputable def noted (env:Env) (e:Value):Sem Fin:=(do noteFrame e env;theTreesLotGoes e:Sem Unit).wrap (fun _=>.raise e) .raise id id
noncomputable def turnK (target:Expr) (it:Value) (body orelse:List Stmt) (env:Env):Flow→Sem Fin:=fun f=>match f with
 | .next | .cont=>.pure (.again (.forLoop target it body orelse env))
 | .brk=>.pure (.done .next)
 | .ret v=>.pure (.done (.ret v))
theorem seg_forLoop {target:Expr} {it:Value} {body orelse:List Stmt}
  (h:∀ E,wpAny (model prog w) (A.over (.forLoop target it body orelse env) fs) (pyNext it) (fun r s1=>match r with
   | none=>Seg (model prog w) A R Y n s₀ (.forLoop target it body orelse env) (.pure (.again (.block orelse env))) fs s1
   | some v=>∀ E,wpAny (model prog w) (A.over (.forLoop target it body orelse env) fs) (assign target env v) (fun _ s2=>Seg (model prog w) A R Y n s₀ (.forLoop target it body orelse env)
     ((execs body env).wrap (turnK target it body orelse env) (noted env) id id) fs s2) E s1) E s) (ht:∀ v,letOwnedTupleGo target it v=pure ()) :
  Seg (model prog w) A R Y n s₀ (.forLoop target it body orelse env) ((model prog w).den (.forLoop target it body orelse env)) fs s:=by
 show Seg _ A R Y n s₀ _ ((forTurn target it body orelse env).onRaise (fun x=>do noteFrame x env;theTreesLotGoes x)) fs s
 unfold forTurn
 rw [Sem.onRaise_eq_wrap]
 show Seg _ A R Y n s₀ _ (.at target.pos fun _=>(((pyNext it).onRaise (fun _=>standAt { target.pos with line:=0 })) >>= fun r=>(match r with
  | none=>again (.block orelse env)
  | some v=>letOwnedTupleGo target it v >>= fun _=>assign target env v >>= fun _=>execs body env >>= fun f=>match f with
   | .next | .cont=>again (.forLoop target it body orelse env)
   | .brk=>pure (.done .next)
   | .ret v=>pure (.done (.ret v)))).wrap .pure (fun e=>(noteFrame e env >>= fun _=>theTreesLotGoes e).bind fun _=>.raise e) id id) fs s
 refine seg_at ?_
 rw [Sem.bind_eq_wrap',Sem.wrap_wrap]
 refine seg_wrap (wpAny_onRaise (wpAny_mono (h _) (fun r s1 h1=>?_) fun _ _ x=>x))
 cases r with
 | none=>exact h1
 | some v =>
  show Seg _ A R Y n s₀ _ ((letOwnedTupleGo target it v >>= fun _=>assign target env v >>= fun _=>execs body env >>= fun f=>match f with
   | .next | .cont=>again (.forLoop target it body orelse env)
   | .brk=>pure (.done .next)
   | .ret v=>pure (.done (.ret v))).wrap .pure (fun e=>(noteFrame e env >>= fun _=>theTreesLotGoes e).bind fun _=>.raise e) id id) fs s1
  rw [ht v]
  show Seg _ A R Y n s₀ _ ((assign target env v >>= fun _=>execs body env >>= fun f=>match f with
   | .next | .cont=>again (.forLoop target it body orelse env)
   | .brk=>pure (.done .next)
   | .ret v=>pure (.done (.ret v))).wrap .pure (fun e=>(noteFrame e env >>= fun _=>theTreesLotGoes e).bind fun _=>.raise e) id id) fs s1
  rw [Sem.bind_eq_wrap',Sem.wrap_wrap]
  refine seg_wrap (wpAny_mono (h1 _) (fun _ s2 h2=>?_) fun _ _ x=>x)
  rw [Sem.bind_eq_wrap',Sem.wrap_wrap]
  rw [Sem.wrap_congr (execs body env) _ _ (K':=turnK target it body orelse env) (H':=noted env) (fun f=>by cases f<;>rfl) (fun e=>by
   show (noteFrame e env >>= fun _=>theTreesLotGoes e).bind (fun _=>.raise e)=_
   rw [Sem.bind_eq_wrap];rfl)]
  exact h2
theorem pyNext_genB {a:Addr} {g n:Nat} {gs:GenState} {P:Nat→Shared→Shared→Prop} {Y:Protocol} {Q:Option Value→Shared→Prop} {E:Value→Shared→Prop} (hh:A.handled=none)
  (hl:s.heap.NoLimit) (hroom:A.depth < recursionLimit)
  (hg:s.heap.IsGen a g) (hgs:s.gens[g]?=some gs)
  (hgo:gs.Goes (model prog w) A.in1 (fun n s₀ r s₁=>r=.ok (.ret .none)∧P n s₀ s₁) Y n (.send .none) (s.setGen g .running))
  (hY:∀ v s₁ gs',gs'.bare=true→Y (n - 1) (s.setGen g .running) v s₁ (fun r' s''=>match n with
    | 0=>False
    | m + 1=>gs'.Goes (model prog w) A.in1 (fun n s₀ r s₁=>r=.ok (.ret .none)∧P n s₀ s₁) Y m r' s'')→Q (some v) (s₁.setGen g gs'))
  (hP:∀ s₁,P n (s.setGen g .running) s₁→∀ h',(∀ b o,s₁.heap.get? b=some o→h'.get? b=some o)→Q none { s₁.setGen g .finished with heap:=h' }) :
  wpAny (model prog w) A (pyNext (.ref a)) Q E s:=by
 unfold pyNext
 refine wpAny_bind (wpAny_attempt (wpAny_callSpecial?_slot (name:=Str.ofString "__next__") hg.typeIs slot_gen_next
  (wpAny_call_entry slot_gen_next hg.typeIs entry_gen_next ?_ (args_gen_next _))))
 show wpAny _ _ (Builtin.Generator.genWake (.ref a) (.send .none)) _ _ s
 unfold Builtin.Generator.genWake
 refine wpAny_bind (wpAny_holding (wpAny_genNumber hg (wpAny_bind (wpAny_genState hgs ?_))))
 cases gs with
 | running=>exact hgo.elim
 | finished=>exact hgo.elim
 | _ =>
  refine wpAny_bind (wpAny_roomToWake hl hroom ?_)
  show wpAny _ _ (.resume g (.send .none) [] _) _ _ s
  refine wpAny_resumeQ hgs hgo (fun x s₁ hx=>?_) (fun v s₁ gs' hb hv=>?_)
  ·obtain ⟨rfl,hp⟩:=hx
   show wpAny _ _ (newExc (.type "StopIteration") [] >>= _) _ _ _
   refine wpAny_bind ?_
   simp -iota only [newExc,newTuple]
   refine wpAny_bind (wpAny_newObj_type ?_ (by size_fits))
   refine wpAny_bind (m:=firstArgMember _ _) (wpAny_of_eq (a:=Value.none) (by first | rfl | (simp -iota only [firstArgMember];rfl)) ?_)
   refine wpAny_newObj_type ?_ (by size_fits)
   simp -iota only [raiseNew]
   refine wpAny_bind (wpAny_bind (wpAny_handled ?_))
   rw [show A.in1.handled=none from hh]
   refine wpAny_throw ?_
   refine wpAny_bind (wpAny_isInstance (T:="StopIteration") (b:=true) ⟨_,Heap.get?_push_size _ rfl,rfl⟩ isSubtype_stop ?_)
   exact wpAny_pure (hP s₁ hp _ fun b o hb=>Heap.get?_push_of_some _ (Heap.get?_push_of_some _ hb))
  ·exact wpAny_pure ⟨v,rfl,wpAny_pure (hY v s₁ gs' hb hv)⟩
end
noncomputable def dE:Expr:=.Constant .none 0 ⟨0,0,0,0⟩
noncomputable def stV:Stmt→Expr×Expr×List Stmt×Pos
 | .If t b _ p=>(t,dE,b,p)
 | .While t b _ p=>(t,dE,b,p)
 | .For t i b _ p=>(t,i,b,p)
 | .Return _ p=>(dE,dE,[],p)
 | .Expr e p=>(e,dE,[],p)
 | .Assign ts e p=>(e,ts.headD dE,[],p)
 | .Raise (some e) _ p=>(e,dE,[],p)
 | .Try b _ _ _ p=>(dE,dE,b,p)
 | _=>(dE,dE,[],⟨0,0,0,0⟩)
noncomputable def kids:Expr→List Expr
 | .Call f a _ _=>f::a
 | .BinOp l _ r _=>[l,r]
 | .Compare l _ rs _=>l::rs
 | .BoolOp _ es _=>es
 | .UnaryOp _ x _=>[x]
 | .ListComp e (⟨t,i,_,_⟩::_) _ _=>[e,t,i]
 | .Lambda _ b _ _=>[b]
 | .Yield (some e) _=>[e]
 | _=>[]
noncomputable def kid (k:Nat) (e:Expr):Expr:=(kids e).getD k dE
noncomputable def nmS:Expr→Str
 | .Name x _=>x
 | .Constant (.str x) _ _=>x
 | _=>""
noncomputable def scOf:Expr→Scope
 | .ListComp _ _ s _=>s
 | .Lambda _ _ s _=>s
 | _=>default
noncomputable def ifT (s:Stmt):Expr:=(stV s).1
noncomputable def ifB (s:Stmt):List Stmt:=(stV s).2.2.1
noncomputable def stQ (s:Stmt):Pos:=(stV s).2.2.2
noncomputable def forT (s:Stmt):Expr:=(stV s).1
noncomputable def forI (s:Stmt):Expr:=(stV s).2.1
noncomputable def exE (s:Stmt):Expr:=(stV s).1
noncomputable def nmP (e:Expr):Pos:=e.pos
noncomputable def yE (e:Expr):Expr:=kid 0 e
noncomputable def genS (k:Nat):Stmt:=za6 k (fnd 7).body
noncomputable def genB (k:Nat):Stmt:=za6 k (ifB (genS 1))
noncomputable def genC (k:Nat):Stmt:=za6 k (ifB (genB 1))
noncomputable def genD:Stmt:=za6 0 (ifB (genC 1))
noncomputable def nG:Str:="grouping"
noncomputable def nI:Str:="interval"
noncomputable def nL:Str:="last_interval"
theorem gen_body:(fnd 7).body=[genS 0,.For (.Name nI (nmP (forT (genS 1)))) (.Name nG (nmP (forI (genS 1)))) (ifB (genS 1)) [] (stQ (genS 1))]:=by kernel_rfl
theorem gen_for:ifB (genS 1)=[.If (ifT (genB 0)) [.Return none (stQ (za6 0 (ifB (genB 0))))] [] (stQ (genB 0)),.If (ifT (genB 1)) (ifB (genB 1)) [] (stQ (genB 1)),.Expr (.Yield (some (.Name nI (nmP (yE (exE (genB 2)))))) (nmP (exE (genB 2)))) (stQ (genB 2)),genB 3]:=by kernel_rfl
theorem gen_zero:ifB (genB 1)=[.If (ifT (genC 0)) (ifB (genC 0)) [] (stQ (genC 0)),.While (ifT (genC 1)) [.Expr (.Yield (some (.Name nL (nmP (yE (exE genD))))) (nmP (exE genD))) (stQ genD)] [] (stQ (genC 1))]:=by kernel_rfl
noncomputable def tv (l:Addr) (last:AV) (x:Int):Vars:=[(key nG,.lit (.ref l)),(key nL,last),(key nI,.int x)]
section
variable {call:CallT} {l:Addr} {last:AV} {x y:Int} {H:List AO}
theorem g_t1:tst G2 call za0 (fnd 7).sc (tv l last x) (ifT (genB 0)) H=some (decide (x=127),H):=by kernel_rfl
theorem g_t2:tst G2 call za0 (fnd 7).sc (tv l last x) (ifT (genB 1)) H=some (decide (x=0),H):=by kernel_rfl
theorem g_t3:tst G2 call za0 (fnd 7).sc (tv l (.int y) x) (ifT (genC 0)) H=some (false,H):=by kernel_rfl
theorem g_t4:tst G2 call za0 (fnd 7).sc (tv l last x) (ifT (genC 1)) H=some (true,H):=by kernel_rfl
theorem g_yI:ev G2 call za0 (fnd 7).sc (tv l last x) (.Name nI (nmP (yE (exE (genB 2))))) H=some (.int x,H):=by kernel_rfl
theorem g_yL:ev G2 call za0 (fnd 7).sc (tv l last x) (.Name nL (nmP (yE (exE genD)))) H=some (last,H):=by kernel_rfl
theorem g_as:exS G2 call za0 (fnd 7).sc (tv l last x) (genB 3) H=some (.next,tv l (.int x) x,H):=by kernel_rfl
theorem g_s0:exS G2 call za0 (fnd 7).sc [(key nG,.lit (.ref l))] (genS 0) H=some (.next,[(key nG,.lit (.ref l)),(key nL,.lit .none)],H):=by kernel_rfl
theorem g_it:ev G2 call za0 (fnd 7).sc [(key nG,.lit (.ref l)),(key nL,.lit .none)] (.Name nG (nmP (forI (genS 1)))) H=some (.lit (.ref l),H):=by kernel_rfl
theorem g_st0:st1 (fnd 7).sc nI (.int x) [(key nG,.lit (.ref l)),(key nL,.lit .none)]=some (tv l (.lit .none) x):=by kernel_rfl
theorem g_st1:st1 (fnd 7).sc nI (.int x) (tv l last y)=some (tv l last x):=by kernel_rfl
end
inductive GSt where
 | run (r:List Int) (y:Int)
 | loop (y:Int)
noncomputable def GSt.val:GSt→Int
 | .run _ y=>y
 | .loop y=>y
noncomputable def gnext:GSt→Option GSt
 | .run [] _=>none
 | .run (x::r) y=>if x=127 then none else if x=0 then some (.loop y) else some (.run r x)
 | .loop y=>some (.loop y)
noncomputable def gfirst:List Int→Option GSt
 | []=>none
 | x::r=>if x=127 then none else if x=0 then none else some (.run r x)
noncomputable def gat (xs:List Int):Nat→Option GSt
 | 0=>gfirst xs
 | k + 1=>(gat xs k).bind gnext
noncomputable abbrev gC (w:World) (hP:Heap) (W:List Addr):Cx:=⟨PG,w,eras hP W,[],[],0,G2⟩
noncomputable def Kp (hP:Heap) (L:Addr) (s₀ s₁:Shared):Prop:=(∀ b o,b≠L→(∃ o',hP.get? b=some o')→s₀.heap.get? b=some o→s₁.heap.get? b=some o)∧(∀ b o,(∃ o',hP.get? b=some o')→s₀.heap.get? b=some o→∃ o',s₁.heap.get? b=some o')∧GMore s₀.gens s₁.gens∧s₁.os=s₀.os
theorem Kp.refl (hP:Heap) (L:Addr) (s:Shared):Kp hP L s s:=⟨fun _ _ _ _ e=>e,fun _ o _ e=>⟨o,e⟩,.refl _,rfl⟩
theorem Kp.trans {hP:Heap} {L:Addr} {a b d:Shared} (x:Kp hP L a b) (y:Kp hP L b d):Kp hP L a d :=
 ⟨fun k o h1 h2 e=>y.1 k o h1 h2 (x.1 k o h1 h2 e),fun k o h2 e=>let ⟨o',e'⟩:=x.2.1 k o h2 e;y.2.1 k o' h2 e',x.2.2.1.trans y.2.2.1,y.2.2.2.trans x.2.2.2⟩
structure GFix (hP:Heap) (env:Env) (l:Addr):Prop where
 hL:∃ o,hP.get? env.locals=some o
 hl:∃ o,hP.get? l=some o
 ne:l≠env.locals
 cells:env.cells=[]
 co:env.scope.isCoroutine=false
 inter:interactive env=false
structure GB (w:World) (hP:Heap) (W:List Addr) (env:Env) (l:Addr) (xs:List Int) (vars:Vars) (I:Addr) (i:Nat) (s:Shared):Prop where
 st:St (gC w hP W) [] [] s
 sf:SF (gC w hP W) (fnd 7).sc vars env [] s.heap
 new:hP.get? I=none
 it:s.heap.IsListIter I l i
 li:∃ vs:List Value,s.heap.IsList l vs.toArray∧RelL [] (xs.map .int) vs
noncomputable def GAt (w:World) (hP:Heap) (W:List Addr) (env:Env) (l:Addr) (xs:List Int) (g:GSt) (I:Addr) (s:Shared):Prop:=match g with
 | .run r y=>∃ i last,xs.drop i=r∧GB w hP W env l xs (tv l last y) I i s
 | .loop y=>∃ i,GB w hP W env l xs (tv l (.int y) 0) I i s
section
variable {w:World} {hP:Heap} {W:List Addr} {env:Env} {l:Addr} {xs:List Int} {A:Around} {call:CallT} {s s' s₀:Shared} {vars vars':Vars} {I:Addr} {i m n:Nat}
theorem fadr_nil (Fx:GFix hP env l):fadr env=[env.locals]:=by unfold fadr fcells;rw [Fx.cells];rfl
theorem GB.step (Fx:GFix hP env l) (B:GB w hP W env l xs vars I i s) (a:AftS (gC w hP W) [] [] env s [] s') (F:SF (gC w hP W) (fnd 7).sc vars' env [] s'.heap):GB w hP W env l xs vars' I i s'∧Kp hP env.locals s s':=by
 have hk:∀ b o,b≠env.locals→s.heap.get? b=some o→s'.heap.get? b=some o:=fun b o hb e=>a.pres.keep b o (by rw [fadr_nil Fx];simpa -iota using hb) e
 obtain ⟨oL,hL⟩:=Fx.hL
 refine ⟨⟨a.st,F,B.new,?_,?_⟩,fun b o hb _ e=>hk b o hb e,fun b o _ e=>a.pres.there b o e,a.pres.gens,a.pres.os⟩
 ·obtain ⟨o,ho,r⟩:=B.it
  exact ⟨o,hk I o (fun q=>by have:=B.new;rw [q,hL] at this;exact snf this) ho,r⟩
 ·obtain ⟨vs,⟨o,ho,r⟩,rel⟩:=B.li
  exact ⟨vs,⟨o,hk l o Fx.ne ho,r⟩,rel⟩
theorem tau_nil {c:Cx} {τ:List Addr} (a:Aft c [] [] s τ s'):τ=[]:=by
 have:=a.st.len
 cases τ with
 | nil=>rfl
 | cons=>simp -iota at this
theorem tauS_nil {c:Cx} {τ:List Addr} (a:AftS c [] [] env s τ s'):τ=[]:=by
 have:=a.st.len
 cases τ with
 | nil=>rfl
 | cons=>simp -iota at this
theorem GB.evl (Fx:GFix hP env l) (Ok:(gC w hP W).Ok) (hcall:zbx (gC w hP W) call m) (Rm:Room A m) (B:GB w hP W env l xs vars I i s) {e:Expr} {v:AV} (h:ev G2 call za0 (fnd 7).sc vars e []=some (v,[])) {Q:Value→Shared→Prop} {E:Value→Shared→Prop}
  (hq:∀ s' x,GB w hP W env l xs vars I i s'→Kp hP env.locals s s'→v.Rel [] x→Q x s'):wpAny (model PG w) A (eval e env) Q E s:=by
 refine ((zbf (c:=gC w hP W) Ok hcall za0).1 A _ vars env e [] v [] [] s Rm B.sf.toFr' B.st h).use fun τ s' x a r=>?_
 cases tau_nil a
 obtain ⟨B',k⟩:=B.step Fx a.toS (by simpa -iota using B.sf.aft a)
 exact hq s' x B' k (by simpa -iota using r)
theorem GB.test (Fx:GFix hP env l) (Ok:(gC w hP W).Ok) (hcall:zbx (gC w hP W) call m) (Rm:Room A m) (B:GB w hP W env l xs vars I i s) {e:Expr} {b:Bool} (h:tst G2 call za0 (fnd 7).sc vars e []=some (b,[])) {Q:Bool→Shared→Prop} {E:Value→Shared→Prop}
  (hq:∀ s',GB w hP W env l xs vars I i s'→Kp hP env.locals s s'→Q b s'):wpAny (model PG w) A (isTrue e env (eval e env)) Q E s:=by
 refine ((zbf (c:=gC w hP W) Ok hcall za0).2 A _ vars env e [] b [] [] s Rm B.sf.toFr' B.st h).use fun τ s' x a r=>?_
 cases tau_nil a
 obtain ⟨B',k⟩:=B.step Fx a.toS (by simpa -iota using B.sf.aft a)
 subst r
 exact hq s' B' k
theorem GB.stmt (Fx:GFix hP env l) (Ok:(gC w hP W).Ok) (hcall:zbx (gC w hP W) call m) (Rm:Room A m) (B:GB w hP W env l xs vars I i s) {st:Stmt} (h:exS G2 call za0 (fnd 7).sc vars st []=some (.next,vars',[])) {Q:Flow→Shared→Prop} {E:Value→Shared→Prop}
  (hq:∀ s',GB w hP W env l xs vars' I i s'→Kp hP env.locals s s'→Q .next s'):wpAny (model PG w) A (exec st env) Q E s:=by
 refine (zbz (c:=gC w hP W) Ok hcall za0 A _ vars env st [] _ [] s Rm B.sf B.st h).use fun τ s' fl a F r=>?_
 cases tauS_nil a
 obtain ⟨B',k⟩:=B.step Fx a (by simpa -iota using F)
 cases r
 exact hq s' B' k
theorem room0 {body:List Stmt} (Rm:Room A (m + 1)):Room (A.over (.func body env) []) m :=
 ⟨Rm.handled,by show A.depth + 0 + 1 + m < recursionLimit;have:=Rm.depth;omega,by show A.units + 0 + 3 + 8 * m < cLine;have:=Rm.units;omega⟩
theorem room1 {K H gd lv p} {t:Expr} {it:Value} {b o body:List Stmt} (Rm:Room A (m + 1)):Room (A.over (.forLoop t it b o env) [backFrom K H gd lv env (.func body env) p]) m :=
 ⟨Rm.handled,by show A.depth + (1 + 0) + 0 + m < recursionLimit;have:=Rm.depth;omega,by show A.units + (3 + 0) + 0 + 8 * m < cLine;have:=Rm.units;omega⟩
theorem room2 {K H gd lv p K' H' gd' lv' p'} {t t':Expr} {it:Value} {b o b' o' body:List Stmt} (Rm:Room A (m + 1)):Room (A.over (.whileLoop t' b' o' env) [backFrom K' H' gd' lv' env (.forLoop t it b o env) p',backFrom K H gd lv env (.func body env) p]) m :=
 ⟨Rm.handled,by show A.depth + (0 + (1 + 0)) + 0 + m < recursionLimit;have:=Rm.depth;omega,by show A.units + (0 + (3 + 0)) + 0 + 8 * m < cLine;have:=Rm.units;omega⟩
noncomputable def Kf:Flow→Sem Fin:=fun f=>.pure (.done (.ret (match f with | .ret v=>v | _=>.none)))
noncomputable def Hf (env:Env):Value→Sem Fin:=fun e=>(leaving env e).wrap (fun _=>.raise e) .raise id id
noncomputable def K1 (env:Env):Flow→Sem Fin:=fun f=>match f with
 | .next=>(execs [] env).wrap Kf (Hf env) id id
 | f=>Kf f
noncomputable def frF (env:Env) (body:List Stmt) (p:Pos):Frame:=backFrom (K1 env) (Hf env) id id env (.func body env) p
noncomputable def YY (w:World) (hP:Heap) (W:List Addr) (env:Env) (l:Addr) (xs:List Int) (N:Nat):Protocol:=fun m s₀ v s₁ kap =>
 ∃ I g t,gat xs (N - 1 - m)=some g∧v=.int g.val t∧Kp hP env.locals s₀ s₁∧GAt w hP W env l xs g I s₁∧(0 < m→∀ s'',GAt w hP W env l xs g I s''→kap (.send .none) s'')
noncomputable def PP (hP:Heap) (env:Env) (xs:List Int) (N:Nat):Nat→Shared→Shared→Prop:=fun n s₀ s₁=>Kp hP env.locals s₀ s₁∧gat xs (N - n)=none
noncomputable abbrev RR (hP:Heap) (env:Env) (xs:List Int) (N:Nat):GenEnd:=fun n s₀ r s₁=>r=.ok (.ret .none)∧PP hP env xs N n s₀ s₁
theorem seg_exit {c:Code} {body:List Stmt} {p:Pos} {N:Nat} {f:Flow} (hf:f=.next∨f=.ret .none) (h:PP hP env xs N n s₀ s):Seg (model PG w) A (RR hP env xs N) (YY w hP W env l xs N) n s₀ c (.pure (.done f)) [frF env body p] s:=by
 refine seg_leaf (r:=.ok f) ?_
 rcases hf with rfl | rfl
 ·exact seg_end (.ok (.ret .none)) ⟨rfl,h⟩
 ·exact seg_end (.ok (.ret .none)) ⟨rfl,h⟩
theorem sub_a (N n:Nat):N - 1 - n=N - (n + 1):=by rw [Nat.sub_sub,Nat.add_comm]
theorem sub_b {N n:Nat} (h:n < N):N - n=(N - (n + 1)) + 1:=(Nat.succ_pred_eq_of_pos (Nat.sub_pos_of_lt h)).symm
theorem seg_forever (Fx:GFix hP env l) (Ok:(gC w hP W).Ok) (hcall:zbx (gC w hP W) call m) {N:Nat} {fs:List Frame} (hfs:splitAtGen fs=none) (hfg:fs.any Frame.guarded=false)
  (Rm:Room (A.over (.whileLoop (ifT (genC 1)) [.Expr (.Yield (some (.Name nL (nmP (yE (exE genD))))) (nmP (exE genD))) (stQ genD)] [] env) fs) m) {y:Int} :
  ∀ n s₀ s I i,n + 1≤N→GB w hP W env l xs (tv l (.int y) 0) I i s→gat xs (N - (n + 1))=some (.loop y)→Kp hP env.locals s₀ s →
   Seg (model PG w) A (RR hP env xs N) (YY w hP W env l xs N) (n + 1) s₀ (.whileLoop (ifT (genC 1)) [.Expr (.Yield (some (.Name nL (nmP (yE (exE genD))))) (nmP (exE genD))) (stQ genD)] [] env)
    ((model PG w).den (.whileLoop (ifT (genC 1)) [.Expr (.Yield (some (.Name nL (nmP (yE (exE genD))))) (nmP (exE genD))) (stQ genD)] [] env)) fs s:=by
 intro n
 induction n with
 | zero =>
  intro s₀ s I i hn B hg k
  refine seg_whileLoop (B.test Fx Ok hcall Rm g_t4 fun s1 B1 k1=>?_)
  rw [if_pos rfl]
  refine seg_execs_cons (seg_Expr_Yield hfs rfl hfg (B1.evl Fx Ok hcall Rm g_yL fun s2 x B2 k2 r=>fun kap hk=>?_) Fx.co Fx.inter)
  obtain ⟨t,rfl⟩:=r
  exact ⟨I,.loop y,t,by rw [sub_a N 0];exact hg,rfl,(k.trans k1).trans k2,⟨i,B2⟩,fun h=>absurd h (Nat.lt_irrefl 0)⟩
 | succ n ih =>
  intro s₀ s I i hn B hg k
  refine seg_whileLoop (B.test Fx Ok hcall Rm g_t4 fun s1 B1 k1=>?_)
  rw [if_pos rfl]
  refine seg_execs_cons (seg_Expr_Yield hfs rfl hfg (B1.evl Fx Ok hcall Rm g_yL fun s2 x B2 k2 r=>fun kap hk=>?_) Fx.co Fx.inter)
  obtain ⟨t,rfl⟩:=r
  refine ⟨I,.loop y,t,by rw [sub_a];exact hg,rfl,(k.trans k1).trans k2,⟨i,B2⟩,fun _ s'' hs=>hk .none s'' ?_⟩
  obtain ⟨i',B3⟩:=hs
  show Seg _ _ _ _ (n + 1) s'' _ _ fs s''
  refine seg_again rfl (ih s'' s'' I i' (Nat.le_of_succ_le hn) B3 ?_ (Kp.refl _ _ _))
  rw [sub_b hn]
  show (gat xs (N - (n + 1 + 1))).bind gnext=_
  rw [hg];rfl
noncomputable def nhead (last:AV):List Int→Option GSt
 | []=>none
 | x::r=>if x=127 then none else if x=0 then (match last with | .int y=>some (.loop y) | _=>none) else some (.run r x)
noncomputable def hokay (last:AV) (r:List Int):Prop:=∀ r',r=0::r'→∃ y,last=.int y
noncomputable abbrev fLoop (env:Env) (I:Addr):Code:=.forLoop (.Name nI (nmP (forT (genS 1)))) (.ref I) (ifB (genS 1)) [] env
theorem relI {vs:List Value} {i:Nat} {x:Int} {r:List Int} (rel:RelL [] (xs.map AV.int) vs) (h:xs.drop i=x::r):∃ t,vs[i]?=some (.int x t):=by
 have h1:xs[i]?=some x:=by
  have:=congrArg (fun l=>l[0]?) h
  simpa -iota using this
 obtain ⟨v,hv,t,rfl⟩:=rel.get (i:=i) (x:=.int x) (by simp -iota [h1])
 exact ⟨t,hv⟩
theorem drop_succ {i:Nat} {x:Int} {r:List Int} (h:xs.drop i=x::r):xs.drop (i + 1)=r:=by
 have:=congrArg (List.drop 1) h
 simpa -iota [List.drop_drop,Nat.add_comm] using this
theorem seg_head (Fx:GFix hP env l) (Ok:(gC w hP W).Ok) (hcall:zbx (gC w hP W) call m) (hh:A.handled=none) {N:Nat} {body:List Stmt} {p:Pos} (Rm:Room A (m + 1)) :
  ∀ n s₀ s vars last r I i,n≤N→xs.drop i=r→GB w hP W env l xs vars I i s→(∀ x,st1 (fnd 7).sc nI (.int x) vars=some (tv l last x))→hokay last r→gat xs (N - n)=nhead last r→Kp hP env.locals s₀ s→(0 < n∨nhead last r=none) →
   Seg (model PG w) A (RR hP env xs N) (YY w hP W env l xs N) n s₀ (fLoop env I) ((model PG w).den (fLoop env I)) [frF env body p] s:=by
 intro n
 induction n using Nat.strongRecOn with
 | ind n ih =>
  intro s₀ s vars last r I i hn hr B hst hok hg k h0
  obtain ⟨vs,hli,rel⟩:=B.li
  have hIL:I≠env.locals:=fun q=>by
   obtain ⟨o,ho⟩:=Fx.hL
   have:=B.new
   rw [q,ho] at this;exact snf this
  have hIl:l≠I:=fun q=>by
   obtain ⟨o,ho⟩:=Fx.hl
   have:=B.new
   rw [← q,ho] at this;exact snf this
  have Rm1:Room (A.over (fLoop env I) [frF env body p]) m:=room1 Rm
  refine seg_forLoop (fun E=>?_) (fun v=>rfl)
  cases r with
  | nil =>
   have hlen:xs.length≤i:=by
    exact List.drop_eq_nil_iff.mp hr
   have hrl:=rel.length
   rw [List.length_map] at hrl
   refine wpAny_pyNext_list_end Rm1.handled B.it hli (Array.getElem?_eq_none_iff.mpr (by rw [List.size_toArray,hrl];exact hlen)) fun h' hx=>?_
   refine seg_again rfl ?_
   show Seg _ _ _ _ n s₀ _ (.pure (.done .next)) _ _
   refine seg_exit (.inl rfl) ⟨k.trans ⟨fun b o hb ho e=>hx b o (fun q=>?_) e,fun b o ho e=>⟨o,hx b o (fun q=>?_) e⟩,.refl _,rfl⟩,hg⟩
   ·obtain ⟨o',ho'⟩:=ho
    have:=B.new
    rw [← q,ho'] at this;exact snf this
   ·obtain ⟨o',ho'⟩:=ho
    have:=B.new
    rw [← q,ho'] at this;exact snf this
  | cons x r =>
   obtain ⟨t,hv⟩:=relI rel hr
   refine wpAny_pyNext_list_item B.it hli (x:=.int x t) (by simpa using hv) fun h' hit hsb=>?_
   intro E
   have hk':∀ b o,b≠I→s.heap.get? b=some o→h'.get? b=some o:=fun b o hb e=>(hsb.2 b hb).trans e
   have hI2:(gC w hP W).hb.get? I=none:=by
    show (eras hP W).get? I=none
    rw [zbs,B.new];split<;>rfl
   have hIf:I∉fadr env:=by rw [fadr_nil Fx];simpa using hIL
   have hthere:∀ b o,s.heap.get? b=some o→∃ o',h'.get? b=some o':=fun b o e=>by
    by_cases q:b=I
    ·subst q;obtain ⟨o',ho',_⟩:=hit;exact ⟨o',ho'⟩
    ·exact ⟨o,hk' b o q e⟩
   have S1:St (gC w hP W) [] [] { s with heap:=h' }:=⟨fun b o hb e=>hk' b o (fun q=>by rw [q,hI2] at e;exact nsf e) (B.st.base b o hb e),rfl,fun k a o e=>(nomatch e),List.nodup_nil,fun k a e=>(nomatch e),⟨[],rfl⟩,fun k hk=>absurd hk (Nat.not_lt_zero _),fun b o e=>by
    obtain ⟨o',e'⟩:=B.st.live b o e
    exact hthere b o' e',Nat.le_refl _⟩
   have F1:SF (gC w hP W) (fnd 7).sc vars env [] h':=B.sf.move hIf hk'
   have k1:Kp hP env.locals s { s with heap:=h' }:=⟨fun b o hb ho e=>hk' b o (fun q=>by
    obtain ⟨o',ho'⟩:=ho
    have:=B.new
    rw [← q,ho'] at this;exact snf this) e,fun b o _ e=>hthere b o e,.refl _,rfl⟩
   have B1:GB w hP W env l xs vars I (i + 1) { s with heap:=h' }:=⟨S1,F1,B.new,hit,vs,by
    obtain ⟨o,ho,r⟩:=hli
    exact ⟨o,hk' l o hIl ho,r⟩,rel⟩
   refine wpAny_assign_Name (zca F1 S1 (av:=.int x) ⟨t,rfl⟩ (hst x) fun s2 a2 F2=>?_)
   obtain ⟨B2,k2⟩:=B1.step Fx a2 F2
   rw [gen_for]
   refine seg_execs_cons (seg_If (B2.test Fx Ok hcall Rm1 g_t1 fun s3 B3 k3=>?_))
   have kk3:=((k.trans k1).trans k2).trans k3
   by_cases h127:x=127
   ·rw [if_pos (by simpa using h127)]
    refine seg_execs_cons (seg_wrap (wpAny_Return_none ?_))
    refine seg_exit (.inr rfl) ⟨kk3,?_⟩
    rw [hg];simp [nhead,h127]
   ·rw [if_neg (by simpa using h127)]
    refine seg_execs_nil ?_
    show Seg _ _ _ _ _ _ _ ((execs _ env).wrap _ _ _ _) _ _
    refine seg_execs_cons (seg_If (B3.test Fx Ok hcall Rm1 g_t2 fun s4 B4 k4=>?_))
    have kk4:=kk3.trans k4
    by_cases hx0:x=0
    ·rw [if_pos (by simpa using hx0)]
     subst hx0
     obtain ⟨y,rfl⟩:=hok r rfl
     obtain ⟨n,rfl⟩:∃ n',n=n' + 1:=by
      rcases h0 with h0 | h0
      ·exact ⟨n - 1,(Nat.succ_pred_eq_of_pos h0).symm⟩
      ·simp [nhead] at h0
     rw [gen_zero]
     refine seg_execs_cons (seg_If (B4.test Fx Ok hcall Rm1 g_t3 fun s5 B5 k5=>?_))
     rw [if_neg Bool.false_ne_true]
     refine seg_execs_nil ?_
     show Seg _ _ _ _ _ _ _ ((execs _ env).wrap _ _ _ _) _ _
     refine seg_execs_cons (seg_While fun p2=>?_)
     refine seg_forever Fx Ok hcall rfl rfl (room2 Rm) n s₀ s5 I (i + 1) hn B5 ?_ (kk4.trans k5)
     rw [hg];simp [nhead]
    ·rw [if_neg (by simpa using hx0)]
     obtain ⟨n,rfl⟩:∃ n',n=n' + 1:=by
      rcases h0 with h0 | h0
      ·exact ⟨n - 1,(Nat.succ_pred_eq_of_pos h0).symm⟩
      ·simp [nhead,h127,hx0] at h0
     refine seg_execs_nil ?_
     show Seg _ _ _ _ _ _ _ ((execs _ env).wrap _ _ _ _) _ _
     refine seg_execs_cons (seg_Expr_Yield rfl rfl rfl (B4.evl Fx Ok hcall Rm1 g_yI fun s5 v B5 k5 rv=>fun kap hk=>?_) Fx.co Fx.inter)
     obtain ⟨t5,rfl⟩:=rv
     have hgx:gat xs (N - (n + 1))=some (.run r x):=by rw [hg];simp [nhead,h127,hx0]
     refine ⟨I,.run r x,t5,by rw [sub_a];exact hgx,rfl,kk4.trans k5,⟨i + 1,last,drop_succ hr,B5⟩,fun hn0 s'' hs=>hk .none s'' ?_⟩
     obtain ⟨i',last',hd',B6⟩:=hs
     show Seg _ _ _ _ n s'' _ ((execs [genB 3] env).wrap _ _ _ _) _ s''
     refine seg_execs_cons (seg_wrap (B6.stmt Fx Ok hcall Rm1 g_as fun s7 B7 k7=>?_))
     show Seg _ _ _ _ n s'' _ (.pure (.again (fLoop env I))) _ s7
     refine seg_again rfl (ih n (Nat.lt_succ_self n) s'' s7 _ (.int x) r I i' (Nat.le_of_succ_le hn) hd' B7 (fun z=>g_st1) (fun _ _=>⟨x,rfl⟩) ?_ k7 (.inl hn0))
     rw [sub_b hn]
     show (gat xs (N - (n + 1))).bind gnext=_
     rw [hgx]
     cases r with
     | nil=>rfl
     | cons z r=>simp [gnext,nhead]
theorem seg_start (Fx:GFix hP env l) (Ok:(gC w hP W).Ok) (hcall:zbx (gC w hP W) call m) (hh:A.handled=none) {N:Nat} (Rm:Room A (m + 1)) (hN:0 < N) (hS:St (gC w hP W) [] [] s) (hF:SF (gC w hP W) (fnd 7).sc [(key nG,.lit (.ref l))] env [] s.heap)
  (hli:∃ vs:List Value,s.heap.IsList l vs.toArray∧RelL [] (xs.map .int) vs) (hPs:∀ b o,hP.get? b=some o→∃ o',s.heap.get? b=some o') (h0:∀ r,xs≠0::r) :
  Seg (model PG w) A (RR hP env xs N) (YY w hP W env l xs N) N s (.func (fnd 7).body env) ((model PG w).den (.func (fnd 7).body env)) [] s:=by
 have Rm0:Room (A.over (.func (fnd 7).body env) []) m:=room0 Rm
 refine seg_func ?_
 show Seg _ _ _ _ N s _ ((execs (fnd 7).body env).wrap Kf (Hf env) id id) [] s
 conv=>arg 7;rw [gen_body]
 refine seg_execs_cons (seg_wrap ?_)
 refine (zbz (c:=gC w hP W) Ok hcall za0 _ _ _ env _ [] _ [] s Rm0 hF hS g_s0).use fun τ s1 fl a F r=>?_
 cases tauS_nil a
 cases r
 have hk1:∀ b o,b≠env.locals→s.heap.get? b=some o→s1.heap.get? b=some o:=fun b o hb e=>a.pres.keep b o (by rw [fadr_nil Fx];simpa -iota using hb) e
 obtain ⟨vs,⟨ol,hol,hcl,hdl⟩,rel⟩:=hli
 have hli1:s1.heap.IsList l vs.toArray:=⟨ol,hk1 l ol Fx.ne hol,hcl,hdl⟩
 have F1:SF (gC w hP W) (fnd 7).sc [(key nG,.lit (.ref l)),(key nL,.lit .none)] env [] s1.heap:=by simpa -iota using F
 have S1:St (gC w hP W) [] [] s1:=a.st
 show Seg _ _ _ _ N s _ ((execs [.For (.Name nI (nmP (forT (genS 1)))) (.Name nG (nmP (forI (genS 1)))) (ifB (genS 1)) [] (stQ (genS 1))] env).wrap Kf (Hf env) id id) [] s1
 refine seg_execs_cons (seg_For ?_ (fun x=>rfl))
 refine ((zbf (c:=gC w hP W) Ok hcall za0).1 _ _ _ env _ [] _ [] [] s1 Rm0 F1.toFr' S1 g_it).use fun τ s2 x a2 r2=>?_
 cases tau_nil a2
 have r2':x=.ref l:=r2
 subst r2'
 have hk2:∀ b o,s1.heap.get? b=some o→s2.heap.get? b=some o:=fun b o e=>a2.pres.keep b o (fun q=>nomatch q) e
 have hli2:s2.heap.IsList l vs.toArray:=let ⟨o,ho,r⟩:=hli1;⟨o,hk2 l o ho,r⟩
 have F2:SF (gC w hP W) (fnd 7).sc [(key nG,.lit (.ref l)),(key nL,.lit .none)] env [] s2.heap:=by simpa -iota using F1.aft a2
 have S2:St (gC w hP W) [] [] s2:=by simpa -iota using a2.st
 refine wpAny_pyIter_list hli2 fun p=>?_
 generalize hob:({ cls:=.type "list_iterator",data:=.fields #[.ref l,.int 0 0] }:Obj)=ob
 have hk3:∀ b o,s2.heap.get? b=some o→(s2.heap.push ob).get? b=some o:=fun b o e=>Heap.get?_push_of_some _ e
 have hth:∀ b o,s.heap.get? b=some o→∃ o',s2.heap.get? b=some o':=fun b o e=>by
  obtain ⟨o',e'⟩:=a.pres.there b o e
  exact ⟨o',hk2 b o' e'⟩
 have hnew:hP.get? s2.heap.objs.size=none:=by
  cases q:hP.get? s2.heap.objs.size with
  | none=>rfl
  | some o =>
   obtain ⟨o',e'⟩:=hPs _ o q
   obtain ⟨o'',e''⟩:=hth _ o' e'
   rw [get?_size] at e'';exact nsf e''
 have B:GB w hP W env l xs [(key nG,.lit (.ref l)),(key nL,.lit .none)] s2.heap.objs.size 0 { s2 with heap:=s2.heap.push ob }:=by
  refine ⟨S2.keep hk3,?_,hnew,⟨ob,Heap.get?_push_size _ (by rw [← hob];rfl),by rw [← hob],by rw [← hob];rfl⟩,vs,?_,rel⟩
  ·refine F2.move (I:=s2.heap.objs.size) (fun q=>?_) fun b o _ e=>hk3 b o e
   rw [fadr_nil Fx] at q
   simp -iota at q
   obtain ⟨o,ho⟩:=Fx.hL
   rw [q,ho] at hnew;exact snf hnew
  ·obtain ⟨o,ho,r⟩:=hli2
   exact ⟨o,hk3 l o ho,r⟩
 refine seg_head Fx Ok hcall hh Rm N s _ _ (.lit .none) xs _ 0 (Nat.le_refl _) rfl B (fun x=>g_st0) (fun r q=>absurd q (h0 r)) ?_ ?_ (.inl hN)
 ·rw [Nat.sub_self]
  show gfirst xs=_
  cases xs with
  | nil=>rfl
  | cons x r=>rfl
 ·exact ⟨fun b o hb _ e=>hk3 b o (hk2 b o (hk1 b o hb e)),fun b o _ e=>let ⟨o',e'⟩:=hth b o e;⟨o',hk3 b o' e'⟩,a.pres.gens.trans a2.pres.gens,a2.pres.os.trans a.pres.os⟩
end
theorem gen_nocell:∀ x∈(fnd 7).sc.names,x.2≠.cell:=by
 have hall:((fnd 7).sc.names.all fun q=>q.2 != .cell)=true:=by kernel_rfl
 intro x hx
 simpa -iota using List.all_eq_true.mp hall _ hx
theorem gen_nofree:∀ x∈(fnd 7).sc.names,x.2≠.free:=by
 have hall:((fnd 7).sc.names.all fun q=>q.2 != .free)=true:=by kernel_rfl
 intro x hx
 simpa -iota using List.all_eq_true.mp hall _ hx
structure GMade (w:World) (l:Addr) (s s':Shared) (env:Env) (G:Addr):Prop where
 sc:env.scope=(fnd 7).sc
 glob:env.globals=mainGlobals
 blt:env.builtins=builtinsNs
 cells:env.cells=[]
 frame:env.frame=some env.locals
 newL:s.heap.get? env.locals=none
 newG:s.heap.get? G=none
 ns:s'.heap.Ns env.locals (fun x=>[(nG,.ref l)].reverse.lookup x)
 keep:∀ b o,s.heap.get? b=some o→s'.heap.get? b=some o
 gen:s'.heap.IsGen G s.gens.size
 gens:s'.gens=s.gens.push (.fresh (.func (fnd 7).body env))
 os:s'.os=s.os
theorem gen_new {w:World} {s:Shared} {mg mb:Str→Option Value} {A:Around} {l:Addr} {m:Nat} (T:TopAt w s.heap mg mb) (Rm:Room A (m + 1)) {Q:Value→Shared→Prop} {E:Value→Shared→Prop}
  (hq:∀ env G s',GMade w l s s' env G→Q (.ref G) s'):wpAny (model PG w) A (PySem.call (.ref 57) [.ref l] []) Q E s:=by
 refine fn_of (K:=KF w) (a:=57) T.X (by kernel_rfl) fun fo cc o vs t h1 h2 h3 h4 h5 h6 h7 h8 h9=>?_
 have hcd:s.heap.CodeRec (zdi (KF w) 57).code (zdi (KF w) 57).qualname:=⟨cc,o,vs,t,h3,T.X _ _ h4,h5,h6⟩
 have hsc:(zdi (KF w) 57).scope=(fnd 7).sc:=by kernel_rfl
 have hb:(zdi (KF w) 57).body=.stmts (fnd 7).body:=by kernel_rfl
 have hbind:∀ v:Value,bindArgs (zdi (KF w) 57) ⟨[v],[]⟩=pure [(nG,v)]:=fun v=>by kernel_rfl
 generalize zdi (KF w) 57=fd at *
 refine wpAny_call (codeAny_call_generator (by have:=Rm.depth;omega) (T.X _ _ h1) h2 (by rw [hsc];kernel_rfl) (by rw [hsc];kernel_rfl) hb hcd ?_)
 rw [hbind]
 refine wpAny_pure ?_
 refine wpAny_newFunctionEnv (by rw [hsc];exact gen_nocell) (fun x hx=>by simp -iota at hx;subst hx;rw [hsc];show (fnd 7).sc.names.lookup nG=some .local;decide +kernel) (fun h₀ hns hsb=>?_) (by rw [hsc];kernel_rfl)
 have hLn:s.heap.get? s.heap.objs.size=none:=get?_size _
 have hk:∀ b o,s.heap.get? b=some o→h₀.get? b=some o:=fun b o q=>(hsb.2 b (fun z=>by rw [z,hLn] at q;exact nsf q)).trans (Heap.get?_push_of_some _ q)
 refine ⟨?_,?_⟩
 ·obtain ⟨mc,n1,n2⟩:=T.nl
  exact ⟨mc,zc2 n1 fun o=>hk _ o,n2⟩
 ·refine hq _ _ _ ⟨hsc,h7,h8,h9,rfl,hLn,Heap.get?_none_of_le (by have:=hsb.1;rw [Heap.size_push] at this;show s.heap.objs.size≤h₀.objs.size;omega),hns.keeps fun b o e=>Heap.get?_push_of_some _ e,fun b o e=>Heap.get?_push_of_some _ (hk b o e),⟨_,_,_,Heap.get?_push_size _ rfl,rfl,rfl,rfl⟩,rfl,rfl⟩
theorem gen_sf {w:World} {l:Addr} {s s':Shared} {env:Env} {G:Addr} (M:GMade w l s s' env G) {W:List Addr} (hL:env.locals∈W):SF (gC w s'.heap W) (fnd 7).sc [(key nG,.lit (.ref l))] env [] s'.heap:=by
 have hks:∀ x,env.kindOf x=(fnd 7).sc.names.lookup x:=fun x=>by unfold Env.kindOf;rw [M.sc]
 refine ⟨⟨⟨by rw [M.sc];kernel_rfl,M.glob,M.blt,fun x hx=>(hks x).trans hx,fun x av hx hv=>?_,⟨_,M.ns⟩,List.not_mem_nil,fun x b hx=>(by rw [M.cells] at hx;exact nsf hx),by kernel_rfl⟩,fun x b hx=>(by rw [M.cells] at hx;exact nsf hx),fun x hx=>?_,fun x hx=>by rw [hks];exact hx⟩,
  ScR.rfl' M.sc,fun x y b hx=>(by rw [M.cells] at hx;exact nsf hx),fun x b hx=>(by rw [M.cells] at hx;exact nsf hx),?_,fun x b _ hx=>(by rw [M.cells] at hx;exact nsf hx),fun b hb=>(by unfold fcells at hb;rw [M.cells] at hb;cases hb)⟩
 ·rw [zan] at hx
  by_cases q:key nG=key x
  ·rw [if_pos q] at hx
   obtain rfl:=sj hx
   have:=key_inj q
   subst this
   exact .inl ⟨(hks _).trans (by decide +kernel),_,.ref l,M.ns,by simp -iota,rfl⟩
  ·rw [if_neg q] at hx;exact nsf hx
 ·rcases hx with q | q
  ·exact absurd rfl (gen_nocell _ (zag q))
  ·exact absurd rfl (gen_nofree _ (zag q))
 ·show (eras s'.heap W).get? _=none
  rw [zbs,if_pos hL]
theorem gen_fix {w:World} {l:Addr} {s s':Shared} {env:Env} {G:Addr} (M:GMade w l s s' env G) (hl:∃ o,s.heap.get? l=some o):GFix s'.heap env l:=by
 obtain ⟨o,es,ep,ho,_⟩:=M.ns
 obtain ⟨ol,hol⟩:=hl
 exact ⟨⟨o,ho⟩,⟨ol,M.keep l ol hol⟩,fun q=>(by have:=M.newL;rw [← q,hol] at this;exact snf this),M.cells,by rw [M.sc];kernel_rfl,by unfold interactive;rw [M.sc];kernel_rfl⟩
theorem zam {w:World} {mg:Str→Option Value}:TopOut w mg []:=⟨fun _ _ _=>List.not_mem_nil,List.not_mem_nil,List.not_mem_nil,List.not_mem_nil,fun _ _=>List.not_mem_nil⟩
theorem noTab (c:Cx):TabOk c [] []:=⟨fun a u q=>by simp -iota at q,fun k u q=>by simp -iota at q⟩
theorem gC_ok {w:World} {h:Heap} {mg mb:Str→Option Value} {W:List Addr} (T:TopAt w h mg mb) (O:TopOut w mg W):TopAt w (eras h W) mg mb∧(gC w h W).Ok:=by
 have Te:TopAt w (eras h W) mg mb:=T.keep O fun b o hb e=>zd7 hb e
 have On:TopOut w mg []:=zam
 exact ⟨Te,cx_ok Te.X Te.Ng Te.Nb Te.hb Te.nl On.g On.b On.s⟩
noncomputable def CodeAt (w:World) (F:FnD) (a:Addr):Prop:=∀ c:Cx,(KF w).In c.hb→KOut (KF w) c.Wb→∃ fd,UPlain c F a fd∨UCells c F a fd
theorem code_call {c:Cx} {w:World} {A:Around} {σ:List Addr} {H H':List AO} {s:Shared} {F:FnD} {a:Addr} {T:List (Nat×UF)} {TL:List UF} {d:Nat} {args:List AV} {vvs:List Value} {r:AV} (O:c.Ok) (X:(KF w).In c.hb) (XO:KOut (KF w) c.Wb) (C:CodeAt w F a) (TO:TabOk c T TL) (Rm:Room A (d + 1)) (S:St c σ H s)
  (hk:F.kwo=[]∨True) (ra:RelL σ args vvs) (e:callF c.G (zbv c.G T TL d) F args [] H=some (r,H')):WP c A (PySem.call (.ref a) vvs []) σ H' s fun τ v=>r.Rel τ v:=by
 obtain ⟨fd,U | U⟩:=C c X XO
 ·exact plain_sound O U (zb3 O TO d) Rm S ra (kvs:=[]) (show RelK σ [] [] from trivial) e
 ·exact cells_sound O U (zb3 O TO d) Rm S ra e
theorem pure_nat {w:World} {h:Heap} {mg mb:Str→Option Value} {Wb fx:List Addr} {nf:Nat} (T:TopAt w h mg mb) (O:TopOut w mg Wb) {F:FnD} {a:Addr} {T':List (Nat×UF)} {d:Nat} {f:List AV→List AO→Option (AV×List AO)} (C:CodeAt w F a) (hobj:fnChk (KF w) a=true)
  (hT:∀ s:Shared,TopAt w s.heap mg mb→TabOk (gC w s.heap []) T' [])
  (hf:∀ args H r H',f args H=some (r,H')→H'=H∧zb1 0 args=true∧zb1 0 [r]=true∧∃ H'',callF G2 (zbv G2 T' [] d) F args [] []=some (r,H'')):NatOk (⟨PG,w,h,Wb,fx,nf,G2⟩:Cx) a (d + 1) f:=by
 refine fn_of (K:=KF w) (a:=a) T.X hobj fun fo cc o vs t h1 h2 _ _ _ _ _ _ _=>?_
 refine ⟨⟨fo,_,T.X _ _ h1,O.K _ _ h1,h2⟩,?_⟩
 intro A σ H s args vvs r H' Rm S ra e
 obtain ⟨rfl,ca,cr,H'',ee⟩:=hf _ _ _ _ e
 have Ts:TopAt w s.heap mg mb:=T.keep O S.base
 obtain ⟨Te,Okd⟩:=gC_ok (W:=[]) Ts zam
 have Sd:St (gC w s.heap []) [] [] s:=⟨fun b o _ e=>(zbq e).2,rfl,fun k a o e=>(nomatch e),List.nodup_nil,fun k a e=>(nomatch e),⟨[],rfl⟩,fun k hk=>absurd hk (Nat.not_lt_zero _),fun b o e=>⟨o,(zbq e).2⟩,Nat.le_refl _⟩
 have ra0:RelL [] args vvs:=zbn (σ:=[]) (τ:=σ) ca ra
 intro Q E hq
 refine (code_call (c:=gC w s.heap []) Okd Te.X (zam (w:=w) (mg:=mg)).K C (hT s Ts) Rm Sd (.inr trivial) ra0 ee).use fun τ s' v aa rr=>?_
 have hk:∀ b o,s.heap.get? b=some o→s'.heap.get? b=some o:=fun b o q=>aa.st.base b o (fun z=>nomatch z) (zd7 (fun z=>nomatch z) q)
 refine hq [] s' v ⟨by rw [List.append_nil];exact S.keep hk,⟨fun b o _ q=>hk b o q,fun b o q=>⟨o,hk b o q⟩,aa.pres.gens,aa.pres.os⟩,fun _ q=>nomatch q⟩ ?_
 rw [List.append_nil]
 have:r.Rel [] v:=by
  have h3:=zbn (σ:=[]) (τ:=τ) (xs:=[r]) (vs:=[v]) cr ⟨rr,trivial⟩
  exact h3.1
 exact rel_nil this
theorem low_ok:((List.range 128).all fun c=>Txt.lower (sL [c]) == sL [low c])=true:=by decide +kernel
theorem low_s {c:Nat} (h:c < 128):Txt.lower (sL [c])=sL [low c]:=by
 have:=List.all_eq_true.mp low_ok c (List.mem_range.mpr h)
 exact beq_iff_eq.mp this
theorem sub_at {w:World}:CodeAt w (fnd 12) 64:=fun c X XO=>⟨_,.inl (u_subst X XO)⟩
theorem lev_at {w:World}:CodeAt w (fnd 13) 71:=fun c X XO=>⟨_,.inl (u_lev X XO)⟩
theorem sL_eq1 (c d:Nat):decide (sL [c]=sL [d])=Nat.beq c d:=by
 by_cases z:c=d
 ·subst z;simp -iota
 ·have:sL [c]≠sL [d]:=fun y=>z (by have:=sL_inj y;simpa -iota using this)
  rw [decide_eq_false this]
  cases q:Nat.beq c d with
  | false=>rfl
  | true=>exact absurd (Nat.eq_of_beq_eq_true q) z
noncomputable section
theorem c_subst_eq (D:CallT):(c_subst D).1=zcx (cIf (zdv (gOf CmpOp.Eq) (za8 kk_ch_a) (za8 kk_ch_b)) (cRet (za1 (AV.int 0))) cSkip) (zcx (cIf (zdv (gOf CmpOp.Eq) (cMeth (za8 kk_ch_a) "lower" zcd) (cMeth (za8 kk_ch_b) "lower" zcd)) (cRet (za1 (AV.int 1))) cSkip) (cRet (za1 (AV.int 2)))):=by
 unfold c_subst
 rfl
theorem lower_s {k c:Nat} {v:Vars} (hv:za2 k v=some (.str (sL [c]))) (h:c < 128) (H:List AO):cMeth (za8 k) "lower" zcd v H=some (.str (sL [low c]),H):=by
 unfold cMeth
 rw [za5 hv,zdg]
 show bi true (ob (some ([],H)) fun vs H=>methodF "lower" (.str (sL [c])) vs H) none=_
 rw [bi_t,zdg]
 show method "lower" (.str (sL [c])) [] H=_
 have:method "lower" (.str (sL [c])) [] H=if (sL [c]).length≤1000 then some (.str (Txt.lower (sL [c])),H) else none:=by
  unfold method
  rw [if_neg (by decide +kernel),if_neg (by decide +kernel),if_pos rfl];rfl
 rw [this,if_pos (by rw [sL_len];simp -iota),low_s h]
theorem subst_run (D:CallT) {c d:Nat} (hc:c < 128) (hd:d < 128):∃ v',(c_subst D).1 [(kk_ch_a,.str (sL [c])),(kk_ch_b,.str (sL [d]))] []=some (.ret (.int (subN c d:Nat)),v',[]):=by
 rw [c_subst_eq]
 generalize hv:([(kk_ch_a,.str (sL [c])),(kk_ch_b,.str (sL [d]))]:Vars)=v
 have ha:za2 kk_ch_a v=some (.str (sL [c])):=by subst hv;kernel_rfl
 have hb:za2 kk_ch_b v=some (.str (sL [d])):=by subst hv;kernel_rfl
 clear hv
 have t1:=zdj (za5 ha []) (za5 hb []) (eq_str _ _ [])
 rw [sL_eq1] at t1
 have e1:=if_s (f:=cRet (za1 (AV.int 0))) (g:=cSkip) t1
 unfold subN
 cases q:Nat.beq c d with
 | true =>
  rw [q,if_pos rfl] at e1
  exact ⟨v,seq_r (e1.trans (ret_s (za9 _ _ _)))⟩
 | false =>
  rw [q,if_neg (by decide)] at e1
  rw [bi_f,zb5 (show _=some (AFlow.next,v,([]:List AO)) from e1)]
  have t2:=zdj (lower_s ha hc []) (lower_s hb hd []) (eq_str _ _ [])
  rw [sL_eq1] at t2
  have e2:=if_s (f:=cRet (za1 (AV.int 1))) (g:=cSkip) t2
  cases q2:Nat.beq (low c) (low d) with
  | true =>
   rw [q2,if_pos rfl] at e2
   exact ⟨v,seq_r (e2.trans (ret_s (za9 _ _ _)))⟩
  | false =>
   rw [q2,if_neg (by decide)] at e2
   rw [bi_f,zb5 (show _=some (AFlow.next,v,([]:List AO)) from e2)]
   exact ⟨v,ret_s (za9 _ _ _)⟩
theorem subF_ok {args:List AV} {H H':List AO} {r:AV} (h:subF args H=some (r,H')) {Γ:Prop} (κ:∀ c d,c < 128→d < 128→args=[.str (sL [c]),.str (sL [d])]→r=.int (subN c d:Nat)→H'=H→Γ):Γ:=by
 refine zdp h fun a b e1 h=>?_
 refine za3 h fun x e2 h=>?_
 refine za3 h fun y e3 h=>?_
 refine za3 h fun c e4 h=>?_
 refine za3 h fun d e5 h=>?_
 refine zcm h fun hc e=>?_
 obtain ⟨rfl,rfl⟩:=Prod.mk.inj e
 exact κ c d hc.1 hc.2 (by rw [arg2_is e1,str_of e2,str_of e3,sL_of (one_is e4),sL_of (one_is e5)]) rfl rfl
theorem callF_of {T:List (Nat×UF)} {TL:List UF} {d:Nat} {F:FnD} {args:List AV} {vars v':Vars} {H H':List AO} {r:AV} (hb:F.binds args []=some vars) (h:exLGo (exS G2 (zbv G2 T TL d) za0 F.sc) F.body vars H=some (.ret r,v',H')):callF G2 (zbv G2 T TL d) F args [] H=some (r,H'):=by
 have:exL G2 (zbv G2 T TL d) za0 F.sc F.body vars H=some (.ret r,v',H'):=h
 simp only [callF,hb,this,Option.bind_eq_bind,Option.bind_some]
theorem sub_nat {w:World} {h:Heap} {mg mb:Str→Option Value} {Wb fx:List Addr} {nf:Nat} (T:TopAt w h mg mb) (O:TopOut w mg Wb):NatOk (⟨PG,w,h,Wb,fx,nf,G2⟩:Cx) 64 2 subF:=by
 refine pure_nat T O (d:=1) (T':=[]) sub_at (by kernel_rfl) (fun s _=>noTab _) fun args H r H' e=>?_
 refine subF_ok e ?_;rintro c d hc hd rfl rfl rfl
 refine ⟨rfl,rfl,rfl,?_⟩
 obtain ⟨v',hr⟩:=subst_run noDisp hc hd
 refine ⟨[],callF_of (v':=v') (vars:=[(key "ch_a",.str (sL [c])),(key "ch_b",.str (sL [d]))]) (by kernel_rfl) ?_⟩
 rw [hk_ch_a,hk_ch_b]
 exact (c_subst noDisp).2 _ noDisp_ok zb0 _ _ _ hr
noncomputable def levIf (x y:Str) (c:Int) (H:List AO):Option (AV×List AO):=if x.cps.toList.length≤9∧y.cps.toList.length≤9∧(x.cps.toList.all fun z=>decide (z < 128))=true∧(y.cps.toList.all fun z=>decide (z < 128))=true then some (.int (levN x.cps.toList y.cps.toList c),H) else none
noncomputable def levF (args:List AV) (H:List AO):Option (AV×List AO):=(arg3 args).bind fun q=>(strOf q.1).bind fun x=>(strOf q.2.1).bind fun y=>(zc0 q.2.2).bind fun c=>levIf x y c H
noncomputable def LevR (args:List AV) (H:List AO) (r:AV×List AO):Prop:=∃ l m c,l.length≤9∧m.length≤9∧(∀ x∈l,x < 128)∧(∀ x∈m,x < 128)∧args=[.str (sL l),.str (sL m),.int c]∧r=(.int (levN l m c),H)
theorem levF_ok {args:List AV} {H:List AO} {r:AV×List AO} (h:levF args H=some r):LevR args H r:=by
 refine zdp h ?_;rintro a ⟨b,d⟩ e1 h
 refine za3 h fun x e2 h=>?_
 refine za3 h fun y e3 h=>?_
 refine za3 h fun c e4 h=>?_
 refine zcm h ?_;rintro ⟨h1,h2,h3,h4⟩ rfl
 exact ⟨_,_,c,h1,h2,fun z hz=>of_decide_eq_true (List.all_eq_true.mp h3 z hz),fun z hz=>of_decide_eq_true (List.all_eq_true.mp h4 z hz),by rw [arg3_is e1,str_of e2,str_of e3,intOf_is e4,← sL_of rfl,← sL_of rfl],rfl⟩
noncomputable def TLev:List (Nat×UF):=[(64,.nat 2 subF)]
theorem dLev_ok:zbo (zbv G2 TLev [] 2) dLev:=by
 refine cDisp_ok (d:=1) ⟨fun a f e=>?_,fun k f e=>by simp -iota at e⟩
 have hm:=ze2 e
 simp -iota at hm
 obtain ⟨rfl,rfl⟩:=hm
 refine ⟨.nat 2 subF,rfl,fun args kws H r h=>?_⟩
 unfold subCF at h
 split at h
 ·exact h
 ·exact nsf h
theorem lev_nat {w:World} {h:Heap} {mg mb:Str→Option Value} {Wb fx:List Addr} {nf:Nat} (T:TopAt w h mg mb) (O:TopOut w mg Wb):NatOk (⟨PG,w,h,Wb,fx,nf,G2⟩:Cx) 71 3 levF:=by
 refine pure_nat T O (d:=2) (T':=TLev) lev_at (by kernel_rfl) (fun s Ts=>⟨fun a u e=>?_,fun k u q=>by simp -iota at q⟩) fun args H r H' e=>?_
 ·have hm:=zcl e
  simp -iota [TLev] at hm
  obtain ⟨rfl,rfl⟩:=hm
  exact sub_nat (gC_ok (W:=[]) Ts zam).1 zam
 ·obtain ⟨l,m,c,h1,h2,h3,h4,rfl,hr⟩:=levF_ok e
  obtain ⟨rfl,rfl⟩:=Prod.mk.inj hr
  refine ⟨rfl,rfl,rfl,?_⟩
  obtain ⟨v',H'',hr⟩:=lev_run h1 h2 h3 h4 (c:=c)
  refine ⟨H'',callF_of (v':=v') (vars:=[(key "a",.str (sL l)),(key "b",.str (sL m)),(key "max_cost",.int c)]) (by kernel_rfl) ?_⟩
  rw [hk_a,hk_b,zcu]
  exact (c_lev dLev).2 _ dLev_ok zb0 _ _ _ hr
end
noncomputable section
theorem code_drop {w:World} {h:Heap} {mg mb:Str→Option Value} {Wb fx:List Addr} {nf:Nat} (T:TopAt w h mg mb) (O:TopOut w mg Wb) {F:FnD} {a:Addr} {T':List (Nat×UF)} {d:Nat} {f:List AV→List AO→Option (AV×List AO)} (C:CodeAt w F a) (hobj:fnChk (KF w) a=true)
  (hT:TabOk (⟨PG,w,h,Wb,fx,nf,G2⟩:Cx) T' [])
  (hf:∀ args H r H',f args H=some (r,H')→H'=H∧zb1 0 [r]=true∧∀ (σ:List Addr) (vvs:List Value),RelL σ args vvs→∃ args' G,RelL σ args' vvs∧callF G2 (zbv G2 T' [] d) F args' [] H=some (r,H++G)):NatOk (⟨PG,w,h,Wb,fx,nf,G2⟩:Cx) a (d + 1) f:=by
 refine fn_of (K:=KF w) (a:=a) T.X hobj fun fo cc o vs t h1 h2 _ _ _ _ _ _ _=>?_
 have Ok:(⟨PG,w,h,Wb,fx,nf,G2⟩:Cx).Ok:=cx_ok T.X T.Ng T.Nb T.hb T.nl O.g O.b O.s
 refine ⟨⟨fo,_,T.X _ _ h1,O.K _ _ h1,h2⟩,?_⟩
 intro A σ H s args vvs r H' Rm S ra e
 obtain ⟨rfl,cr,h3⟩:=hf _ _ _ _ e
 obtain ⟨args',G,ra',ee⟩:=h3 σ vvs ra
 intro Q E hq
 refine (code_call (c:=(⟨PG,w,h,Wb,fx,nf,G2⟩:Cx)) Ok T.X O.K C hT Rm S (.inr trivial) ra' ee).use fun τ s' v aa rr=>?_
 have htk:(H'++G).take σ.length=H':=by rw [S.len,List.take_left]
 have D:=Aft.drop S aa (by rw [htk,S.len];exact S.clean)
 rw [htk] at D
 refine hq [] s' v D ?_
 rw [List.append_nil]
 have:r.Rel [] v:=(zbn (σ:=[]) (τ:=σ++τ) (xs:=[r]) (vs:=[v]) cr ⟨rr,trivial⟩).1
 exact rel_nil this
noncomputable def allN:List AV→Option (List Int)
 | []=>some []
 | x::xs=>(zc0 x).bind fun i=>(allN xs).bind fun l=>some (i::l)
theorem allN_is:∀ {xs:List AV} {is:List Int},allN xs=some is→xs=is.map .int
 | [],is,h=>by obtain rfl:=sj h;rfl
 | x::xs,is,h=>by
  refine za3 (x:=zc0 x) (f:=fun i=>(allN xs).bind fun l=>some (i::l)) h fun i e1 h=>?_
  refine za3 h fun l e2 h=>?_
  obtain rfl:=sj h
  rw [intOf_is e1,allN_is e2];rfl
theorem allN_map:∀ is:List Int,allN (is.map .int)=some is
 | []=>rfl
 | i::is=>by
  show (zc0 (.int i)).bind (fun i=>(allN (is.map .int)).bind fun l=>some (i::l))=_
  rw [allN_map is];rfl
noncomputable def wr1 (m:Nat) (lo hi:Int) (sg:List Nat) (H:List AO):Option (AV×List AO):=(natI lo).bind fun low=>(natI hi).bind fun high=>(one sg).bind fun c=>(lof H m).bind fun xs=>(allN xs).bind fun is=>if (low,high)∈lhP then some (.str (sL (wr (memI is) low high c)),H) else none
noncomputable def writtenF (args:List AV) (H:List AO):Option (AV×List AO):=cO args fun m l=>cI l fun lo l=>cI l fun hi l=>cS l fun sg l=>onNil l (wr1 m lo hi sg.cps.toList H)
theorem wr1_ok {m:Nat} {lo hi:Int} {sg:Str} {H H':List AO} {r:AV} (h:wr1 m lo hi sg.cps.toList H=some (r,H')) {Γ:Prop} (κ:∀ m' low high c is,[AV.obj m,.int lo,.int hi,.str sg]=[.obj m',.int ((low:Nat):Int),.int ((high:Nat):Int),.str (sL [c])]→(low,high)∈lhP→lof H m'=some (is.map .int)→r=.str (sL (wr (memI is) low high c))→H'=H→Γ):Γ:=by
 refine za3 h fun low e1 h=>?_
 refine za3 h fun high e2 h=>?_
 refine za3 h fun c e3 h=>?_
 refine za3 h fun xs e4 h=>?_
 refine za3 h fun is e5 h=>?_
 refine zcm h fun hp e=>?_
 obtain ⟨rfl,rfl⟩:=Prod.mk.inj e
 exact κ m low high c is (by rw [natI_is e1,natI_is e2,sL_of (one_is e3)]) hp (by rw [e4,allN_is e5]) rfl rfl
theorem writtenF_ok {args:List AV} {H H':List AO} {r:AV} (h:writtenF args H=some (r,H')) {Γ:Prop} (κ:∀ m low high c is,args=[.obj m,.int ((low:Nat):Int),.int ((high:Nat):Int),.str (sL [c])]→(low,high)∈lhP→lof H m=some (is.map .int)→r=.str (sL (wr (memI is) low high c))→H'=H→Γ):Γ:=by
 refine cO_some h ?_;rintro m _ rfl h1
 refine cI_some h1 ?_;rintro lo _ rfl h2
 refine cI_some h2 ?_;rintro hi _ rfl h3
 refine cS_some h3 ?_;rintro sg _ rfl h4
 refine zdf h4 ?_;rintro rfl h5
 exact wr1_ok h5 κ
theorem written_at {w:World}:CodeAt w (fnd 19) 104:=fun c X XO=>⟨_,.inl (u_written X XO)⟩
theorem written_nat {w:World} {h:Heap} {mg mb:Str→Option Value} {Wb fx:List Addr} {nf:Nat} (T:TopAt w h mg mb) (O:TopOut w mg Wb):NatOk (⟨PG,w,h,Wb,fx,nf,G2⟩:Cx) 104 2 writtenF:=by
 refine code_drop T O (d:=1) (T':=[]) written_at (by kernel_rfl) (noTab _) fun args H r H' e=>?_
 refine writtenF_ok e ?_;rintro m low high c is rfl hp hm rfl rfl
 refine ⟨rfl,rfl,fun σ vvs ra=>?_⟩
 obtain ⟨v',G,hr⟩:=wr_run (sg:=c) hp hm
 refine ⟨_,G,ra,callF_of (v':=v') (vars:=[(key "marks",.obj m),(key "low",.int (low:Int)),(key "high",.int (high:Int)),(key "sign",.str (sL [c]))]) (by kernel_rfl) ?_⟩
 rw [hk_marks,zcc,zbc,hk_sign]
 exact (c_written dB).2 _ dB_ok zb0 _ _ _ hr
noncomputable def boolV (v:Value):Option Bool:=match v with
 | .bool b=>some b
 | _=>none
theorem boolV_ok {v:Value} {b:Bool} (h:boolV v=some b):v=.bool b:=by
 cases v with
 | bool c=>rw [sj h]
 | _=>exact nsf h
noncomputable def boolX (z:Option ExR):Option Bool:=o1 (retF z) fun p=>AV.rec (motive:=fun _=>Option Bool) boolV (fun _=>none) (fun _=>none) (fun _=>none) (fun _=>none) p.1
theorem boolX_ok {z:Option ExR} {b:Bool} (h:boolX z=some b) {Γ:Prop} (κ:∀ v H,z=some (.ret (.lit (.bool b)),v,H)→Γ):Γ:=by
 refine o1_someP h fun a H e h=>?_
 obtain ⟨v,e⟩:=retF_ok e
 cases a with
 | lit u=>rw [boolV_ok h] at e;exact κ _ _ e
 | _=>exact nsf h
noncomputable def grB (a b:Str):Option Bool:=boolX ((c_grown dB).1 [(kk_one,.str a),(kk_two,.str b)] [])
noncomputable def grownF (args:List AV) (H:List AO):Option (AV×List AO):=cS args fun a l=>cS l fun b l=>onNil l ((grB a b).bind fun g=>some (.lit (.bool g),H))
theorem grownF_ok {args:List AV} {H H':List AO} {r:AV} (h:grownF args H=some (r,H')) {Γ:Prop} (κ:∀ a b g,args=[.str a,.str b]→grB a b=some g→r=.lit (.bool g)→H'=H→Γ):Γ:=by
 refine cS_some h ?_;rintro a _ rfl h1
 refine cS_some h1 ?_;rintro b _ rfl h2
 refine zdf h2 ?_;rintro rfl h3
 replace h:=h3
 refine za3 h fun g e1 h=>?_
 refine opjk h ?_;rintro rfl rfl
 exact κ a b g rfl e1 rfl rfl
theorem grown_at {w:World}:CodeAt w (fnd 20) 109:=fun c X XO=>⟨_,.inr (u_grown X XO)⟩
theorem grown_nat {w:World} {h:Heap} {mg mb:Str→Option Value} {Wb fx:List Addr} {nf:Nat} (T:TopAt w h mg mb) (O:TopOut w mg Wb):NatOk (⟨PG,w,h,Wb,fx,nf,G2⟩:Cx) 109 2 grownF:=by
 refine pure_nat T O (d:=1) (T':=[]) grown_at (by kernel_rfl) (fun s _=>noTab _) fun args H r H' e=>?_
 refine grownF_ok e ?_;rintro a b g rfl hg rfl rfl
 refine boolX_ok hg fun v' H'' hr=>?_
 refine ⟨rfl,rfl,rfl,H'',callF_of (v':=v') (vars:=[(key "one",.str a),(key "two",.str b)]) (by kernel_rfl) ?_⟩
 rw [hk_one,hk_two]
 exact (c_grown dB).2 _ dB_ok zb0 _ _ _ hr
end
noncomputable section
noncomputable def natCF (f:List AV→List AO→Option (AV×List AO)):CF:=fun args kws H=>match kws with
 | []=>f args H
 | _=>none
theorem natCF_ok {G:Str→Option AV} {T:List (Nat×UF)} {TL:List UF} {d m:Nat} {f:List AV→List AO→Option (AV×List AO)} (hm:m≤d):CFOk G T TL d (.nat m f) (natCF f):=by
 intro args kws H r h
 unfold natCF at h
 split at h
 ·show (if (decide (m≤d + 1) && decide (([]:List (Str×AV))=[]))=true then f args H else none)=_
  rw [decide_eq_true (Nat.le_succ_of_le hm)];exact h
 ·exact nsf h
noncomputable def s3 {α:Type} (k:Nat) (a b c:α):α:=Nat.rec (motive:=fun _=>α) a (fun j _=>Nat.rec (motive:=fun _=>α) b (fun _ _=>c) j) k
theorem by3 {P:Nat→Prop} {k:Nat} (h:k < 3) (h0:P 0) (h1:P 1) (h2:P 2):P k :=
 match k,h with
 | 0,_=>h0
 | 1,_=>h1
 | 2,_=>h2
theorem get3 {α:Type} {k:Nat} (h:k < 3) (a b c:α):nth [a,b,c] k=some (s3 k a b c):=by3 (P:=fun k=>nth [a,b,c] k=some (s3 k a b c)) h rfl rfl rfl
theorem itemL {n k:Nat} {xs:List AV} {x:AV} {H:List AO} (hl:lof H n=some xs) (hx:nth xs k=some x):itemF (.obj n) (.int (k:Int)) H=some x:=by
 show (o1 (lof H n) fun xs=>nth xs k)=some x
 rw [hl,ze7,hx]
theorem lof_pl {H:List AO} {z:Nat} {l:List AV} (h:H[z]?=some (.list l)):lof H z=some l:=by
 show o1 (nth H z) _=_
 rw [zaw,h];rfl
theorem lof_app {H:List AO} {n:Nat} {xs:List AV} (h:lof H n=some xs) (G:List AO):lof (H++G) n=some xs:=by
 refine za7 h fun o e h=>?_
 show o1 (nth (H++G) n) _=_
 rw [zaw] at e
 rw [zaw,List.getElem?_append_left (List.getElem?_eq_some_iff.mp e).1,e];exact h
theorem zdz (H:List AO) (xs:List AV):lof (H++[.list xs]) H.length=some xs:=by
 show o1 (nth (H++[.list xs]) H.length) _=_
 rw [zaw,zav rfl];rfl
theorem iEq_self (x:Int):iEq x x=true:=by rw [iEq_eq];simp -iota
theorem aEq_self (a:AV):aEq a a=true:=by
 cases a with
 | int x=>exact iEq_self x
 | obj k=>exact Nat.beq_refl k
 | lit v=>exact decide_eq_true rfl
 | str v=>exact decide_eq_true rfl
 | rng v=>exact decide_eq_true rfl
theorem lEq_self:∀ l:List AV,lEq l l=true
 | []=>rfl
 | a::l=>by
  show bi (aEq a a) (lEq l l) false=true
  rw [aEq_self,bi_t,lEq_self l]
theorem comp_s {k n:Nat} {fit fe:CE} {v:Vars} {H H2:List AO} {xs:List AV} {g:AV→AV} {isL:Bool} (hf:fit v H=some (.obj n,H2)) (hi:itemsF H2 (.obj n)=some (isL,xs)) (hst:∀ acc,stillF isL (H2++[.list acc]) (.obj n) xs=true) (hg:∀ x∈xs,∀ acc,fe ((k,x)::v) (H2++[.list acc])=some (g x,H2++[.list acc])) (hl:xs.length≤1000) :
  cComp k fit tTrue fe v H=some (.obj H2.length,H2++[.list (xs.map g)]):=by
 unfold cComp
 rw [hf,zdg,hi,zdg,zau,zc3]
 generalize hF:(fun (a:AV) (H:List AO)=>ob (tTrue ((k,a)::v) H) fun ok H=>bi ok (ob (fe ((k,a)::v) H) fun r H=>some (some r,H)) (some (none,H)))=F
 have f0:∀ x∈xs,∀ acc,F x (H2++[.list acc])=some (some (g x),H2++[.list acc]):=fun x hx acc=>by
  rw [← hF]
  show ob (some (true,H2++[AO.list acc])) _=_
  rw [zdg,bi_t,hg x hx acc];rfl
 have se:∀ acc acc',setF (H2++[AO.list acc]) (.list acc') H2.length=H2++[AO.list acc']:=fun acc acc'=>by
  rw [setF_eq,List.set_append_right _ _ (Nat.le_refl _)];simp -iota
 have go:∀ (l acc:List AV),(∀ x∈l,x∈xs)→acc.length + l.length≤1000→cGo F (.obj n) isL xs H2.length l (H2++[.list acc])=some (H2++[.list (acc++l.map g)]):=by
  intro l
  induction l with
  | nil =>
   intro acc _ _
   show bi (stillF isL (H2++[.list acc]) (.obj n) xs) (some (H2++[AO.list acc])) none=_
   rw [hst,bi_t,List.map_nil,List.append_nil]
  | cons x l ih =>
   intro acc hm hl
   simp -iota only [List.length_cons] at hl
   show bi (stillF isL (H2++[.list acc]) (.obj n) xs) (ob (F x (H2++[.list acc])) fun y H=>Option.rec (motive:=fun _=>Option (List AO)) (cGo F (.obj n) isL xs H2.length l H)
    (fun v=>o1 (lof H H2.length) fun acc=>bi (Nat.ble (Nat.succ (lenF acc)) 1048576) (cGo F (.obj n) isL xs H2.length l (setF H (.list (appF acc [v])) H2.length)) none) y) none=_
   rw [hst,bi_t,f0 x (hm x (List.mem_cons_self ..)),zdg]
   show o1 (lof (H2++[.list acc]) H2.length) _=_
   rw [zdz,ze7,zau,Nat.ble_eq.mpr (by omega),bi_t,zc3,se,ih (acc++[g x]) (fun y hy=>hm y (List.mem_cons_of_mem _ hy)) (by rw [List.length_append];simp -iota;omega)]
   simp -iota
 rw [go xs [] (fun x h=>h) (by simpa -iota using hl),ze7];rfl
theorem comp_list {k n:Nat} {fit fe:CE} {v:Vars} {H H2:List AO} {xs:List AV} {g:AV→AV} (hf:fit v H=some (.obj n,H2)) (hn:H2[n]?=some (.list xs)) (hg:∀ x∈xs,∀ acc,fe ((k,x)::v) (H2++[.list acc])=some (g x,H2++[.list acc])) (hl:xs.length≤1000) :
  cComp k fit tTrue fe v H=some (.obj H2.length,H2++[.list (xs.map g)]):=by
 refine comp_s (isL:=true) hf ?_ (fun acc=>?_) hg hl
 ·show o1 (nth H2 n) _=_
  rw [zaw,hn];rfl
 ·show Option.rec (motive:=fun _=>Bool) false (fun ys=>lEq ys xs) (lof (H2++[.list acc]) n)=true
  rw [lof_app (lof_pl hn)]
  exact lEq_self xs
theorem comp2 {k n:Nat} {fit fe:CE} {v:Vars} {H H2:List AO} {x0 x1:Int} {y0 y1:AV} (hf:fit v H=some (.obj n,H2)) (hn:H2[n]?=some (.list [.int x0,.int x1])) (h0:∀ H,fe ((k,.int x0)::v) H=some (y0,H)) (h1:∀ H,fe ((k,.int x1)::v) H=some (y1,H)) :
  cComp k fit tTrue fe v H=some (.obj H2.length,H2++[.list [y0,y1]]):=by
 have c:=comp_list (k:=k) (g:=fun x=>if x=.int x0 then y0 else y1) hf hn (fun x hx acc=>by
  by_cases q:x=.int x0
  ·subst q;rw [if_pos rfl];exact h0 _
  ·rw [if_neg q]
   rcases List.mem_cons.mp hx with r | r
   ·exact absurd r q
   ·rw [List.mem_singleton.mp r];exact h1 _) (show 2≤1000 by decide)
 have e1:(if AV.int x1=.int x0 then y0 else y1)=y1:=by
  by_cases q:AV.int x1=.int x0
  ·rw [if_pos q]
   have:=h0 []
   rw [← q,h1 []] at this
   exact (opj this).1.symm
  ·rw [if_neg q]
 have e:[AV.int x0,.int x1].map (fun x=>if x=.int x0 then y0 else y1)=[y0,y1]:=by
  show [if AV.int x0=.int x0 then y0 else y1,if AV.int x1=.int x0 then y0 else y1]=_
  rw [if_pos rfl,e1]
 rw [e] at c
 exact c
theorem ccmp_s {g:AV→AV→List AO→Option Bool} {fl fr:CE} {v:Vars} {H H1 H2:List AO} {a b:AV} {q:Bool} (h1:fl v H=some (a,H1)) (h2:fr v H1=some (b,H2)) (h3:g a b H2=some q):cCmp g fl fr v H=some (.lit (.bool q),H2):=by
 unfold cCmp;rw [h1,zdg,h2,zdg,h3];rfl
theorem cand_s {f g:CE} {v:Vars} {H H1:List AO} {b:Bool} (h:f v H=some (.lit (.bool b),H1)):cAnd f g v H=if b then g v H1 else some (.lit (.bool b),H1):=by
 unfold cAnd;rw [h,zdg];show o1 (some b) _=_;rw [ze7,zay]
theorem eqAll_self:∀ l:List Int,eqAll (l.map .int) (l.map .int)=some true
 | []=>rfl
 | x::l=>by
  show ((some (x == x)).bind fun b=>(eqAll (l.map .int) (l.map .int)).bind fun r=>some (b && r))=_
  rw [eqAll_self l,beq_self_eq_true];rfl
theorem eqL_self (l:List Int):eqL (l.map .int) (l.map .int)=some true:=(if_pos rfl).trans (eqAll_self l)
theorem eqL_self2 (x y:Int):eqL [.int x,.int y] [.int x,.int y]=some true:=eqL_self [x,y]
theorem tup3_s {k1 k2 k3:Nat} {g:Vars→List AO→Option (List AV×List AO)} {v:Vars} {H H1:List AO} {x y z:AV} (hg:g v H=some ([x,y,z],H1)):cTup [k1,k2,k3] g v H=some (.next,zab k3 z (zab k2 y (zab k1 x v)),H1):=by
 unfold cTup
 rw [hg,zdg]
 show o1 (some (zab k3 z (zab k2 y (zab k1 x v)))) _=_
 rw [ze7,zbl]
noncomputable def dStr:CallT:=cDisp [(104,natCF writtenF),(109,natCF grownF),(71,natCF levF)] []
noncomputable def TStr:List (Nat×UF):=[(104,.nat 2 writtenF),(109,.nat 2 grownF),(71,.nat 3 levF)]
theorem dStr_ok:zbo (zbv G2 TStr [] 4) dStr:=by
 refine cDisp_ok (d:=3) ⟨fun a f e=>?_,fun k f e=>by simp -iota at e⟩
 have hm:=ze2 e
 simp -iota at hm
 rcases hm with ⟨rfl,rfl⟩ | ⟨rfl,rfl⟩ | ⟨rfl,rfl⟩
 ·exact ⟨.nat 2 writtenF,rfl,natCF_ok (by decide)⟩
 ·exact ⟨.nat 2 grownF,rfl,natCF_ok (by decide)⟩
 ·exact ⟨.nat 3 levF,rfl,natCF_ok (by decide)⟩
noncomputable def zN:CS:=cAs ze3 (zbh gAdd (zbh gAdd (za8 zal) (zbh (binop Operator.Mult) (za1 (AV.int 2)) (za8 zd1))) (za8 zbr))
noncomputable def zK:CS:=cTup [kk_kind,kk_sign,kk_more] (zaa (zbh gMod (za8 ze3) (za1 (AV.int 3))) (zaa (zbh gMod (zbh gFD (za8 ze3) (za1 (AV.int 3))) (za1 (AV.int 3)))
 (zaa (zbh gSub (zbh gMod (zbh gAdd (za8 zbr) (zbh gFD (za8 zal) (za1 (AV.int 4)))) (za1 (AV.int 3))) (za1 (AV.int 1))) zcd)))
noncomputable def zD:CS:=cAs kk_due (zbh gSub (zbh (binop Operator.Mult) (za1 (AV.int 2)) (zbh gSub (zbh gSub (za8 zbr) (za8 zd1)) (za1 (AV.int 1))))
 (zbh (binop Operator.Mult) (zcj (cList (zaa (za1 (AV.int 0)) (zaa (zcj (za8 kk_counts) (za1 (AV.int 0))) (zaa (zcj (za8 kk_counts) (za1 (AV.int 1))) zcd)))) (za8 kk_kind)) (zbh gSub (za1 (AV.int 2)) (za8 kk_sign))))
noncomputable def zW (a b c:Int) (fs:CE):CE:=zc1 dStr (za1 (AV.lit (Value.ref 104))) (zaa (zcj (za8 kk_rulers) (zcj (cList (zaa (za1 (AV.int a)) (zaa (za1 (AV.int b)) (zaa (za1 (AV.int c)) zcd)))) (za8 kk_kind)))
 (zaa (za8 zd1) (zaa (za8 zbr) (zaa fs zcd)))) kNil
noncomputable def z1:CS:=cAs kk_one (zW 0 0 2 (za1 (AV.str (Str.ofString "k"))))
noncomputable def z2:CS:=cAs kk_two (zW 1 2 1 (zcj (za1 (AV.str (Str.ofString "kKm"))) (za8 kk_sign)))
noncomputable def zLev:CE:=zc1 dStr (za1 (AV.lit (Value.ref 71))) (zaa (za8 kk_one) (zaa (za8 kk_two) (zaa (za8 kk_bound) zcd))) kNil
noncomputable def zF:CS:=cAs ze1 (cComp kk_bound (cList (zaa (zbh gAdd (za8 kk_due) (za8 kk_more)) (zaa (za1 (AV.int 0)) zcd))) tTrue zLev)
noncomputable def zL:CS:=cAs kk_least (cIf (tVal (zc1 dStr (za1 (AV.lit (Value.ref 109))) (zaa (za8 kk_one) (zaa (za8 kk_two) zcd)) kNil)) (za8 kk_due) (za1 (AV.int 1)))
noncomputable def zRet:CS:=cRet (cAnd (cCmp (gOf CmpOp.Eq) (za8 ze1) (cList (zaa (za8 kk_due) (zaa (za8 kk_least) zcd))))
 (cCmp (gOf CmpOp.NotIn) (za1 (AV.lit (Value.bool true))) (cComp kk_each (za8 ze1) tTrue (zc1 dStr (za1 (AV.lit (Value.builtin "isinstance"))) (zaa (za8 kk_each) (zaa (za1 (AV.lit (Value.type "bool"))) zcd)) kNil))))
theorem c_stretch_eq:(c_stretch dStr).1=zcx zN (zcx zK (zcx zD (zcx z1 (zcx z2 (zcx zF (zcx zL zRet)))))):=by unfold c_stretch;rfl
section
variable {c r low high:Nat} {T d le mo n:Int} {kd sg:Nat} {w1 w2:List Nat} {q:Nat} {H:List AO}
noncomputable def zv0 (c r low high:Nat) (T:Int):Vars:=[(kk_counts,.obj c),(kk_rulers,.obj r),(zd1,.int (low:Int)),(zbr,.int (high:Int)),(zal,.int T)]
noncomputable def zv1 (c r low high:Nat) (T n:Int):Vars:=zv0 c r low high T++[(ze3,.int n)]
noncomputable def zv2 (c r low high:Nat) (T n:Int) (kd sg:Nat) (mo:Int):Vars:=zv1 c r low high T n++[(kk_kind,.int (kd:Int)),(kk_sign,.int (sg:Int)),(kk_more,.int mo)]
noncomputable def zv3 (c r low high:Nat) (T n:Int) (kd sg:Nat) (mo d:Int):Vars:=zv2 c r low high T n kd sg mo++[(kk_due,.int d)]
noncomputable def zv4 (c r low high:Nat) (T n:Int) (kd sg:Nat) (mo d:Int) (w1:List Nat):Vars:=zv3 c r low high T n kd sg mo d++[(kk_one,.str (sL w1))]
noncomputable def zv5 (c r low high:Nat) (T n:Int) (kd sg:Nat) (mo d:Int) (w1 w2:List Nat):Vars:=zv4 c r low high T n kd sg mo d w1++[(kk_two,.str (sL w2))]
noncomputable def zv6 (c r low high:Nat) (T n:Int) (kd sg:Nat) (mo d:Int) (w1 w2:List Nat) (q:Nat):Vars:=zv5 c r low high T n kd sg mo d w1 w2++[(ze1,.obj q)]
noncomputable def zv7 (c r low high:Nat) (T n:Int) (kd sg:Nat) (mo d:Int) (w1 w2:List Nat) (q:Nat) (le:Int):Vars:=zv6 c r low high T n kd sg mo d w1 w2 q++[(kk_least,.int le)]
theorem z_1:zN (zv0 c r low high T) H=some (.next,zv1 c r low high T (T + 2 * low + high),H):=by
 have hv:zab ze3 (.int (T + 2 * low + high)) (zv0 c r low high T)=zv1 c r low high T (T + 2 * low + high):=by kernel_rfl
 rw [← hv]
 exact as_s (zb2 (zb2 (za5 (x:=.int T) (by kernel_rfl) _) (zb2 (za9 _ _ _) (za5 (x:=.int (low:Int)) (by kernel_rfl) _) (x:=.int (2 * low)) (H3:=H) rfl) (x:=.int (T + 2 * low)) (H3:=H) rfl) (za5 (x:=.int (high:Int)) (by kernel_rfl) _) rfl)
theorem z_2 (h1:Int.fmod n 3=(kd:Int)) (h2:Int.fmod (Int.fdiv n 3) 3=(sg:Int)) (h3:Int.fmod ((high:Int) + Int.fdiv T 4) 3 - 1=mo):zK (zv1 c r low high T n) H=some (.next,zv2 c r low high T n kd sg mo,H):=by
 have hn:za8 ze3 (zv1 c r low high T n) H=some (.int n,H):=za5 (by kernel_rfl) _
 have x1:zbh gMod (za8 ze3) (za1 (AV.int 3)) (zv1 c r low high T n) H=some (.int (kd:Int),H):=by rw [← h1];exact zb2 hn (za9 _ _ _) rfl
 have x2:zbh gMod (zbh gFD (za8 ze3) (za1 (AV.int 3))) (za1 (AV.int 3)) (zv1 c r low high T n) H=some (.int (sg:Int),H):=by
  rw [← h2];exact zb2 (zb2 hn (za9 _ _ _) (x:=.int (Int.fdiv n 3)) (H3:=H) rfl) (za9 _ _ _) rfl
 have x3:zbh gSub (zbh gMod (zbh gAdd (za8 zbr) (zbh gFD (za8 zal) (za1 (AV.int 4)))) (za1 (AV.int 3))) (za1 (AV.int 1)) (zv1 c r low high T n) H=some (.int mo,H):=by
  rw [← h3]
  exact zb2 (zb2 (zb2 (za5 (x:=.int (high:Int)) (by kernel_rfl) _) (zb2 (za5 (x:=.int T) (by kernel_rfl) _) (za9 _ _ _) (x:=.int (Int.fdiv T 4)) (H3:=H) rfl) (x:=.int ((high:Int) + Int.fdiv T 4)) (H3:=H) rfl) (za9 _ _ _) (x:=.int (Int.fmod ((high:Int) + Int.fdiv T 4) 3)) (H3:=H) rfl) (za9 _ _ _) rfl
 exact (tup3_s (zad x1 (zad x2 (zad x3 (zc8 _ _))))).trans (by kernel_rfl)
theorem s3_int (hk:kd < 3) (a b e:Int):(s3 kd (.int a) (.int b) (.int e):AV)=.int (s3 kd a b e):=by3 (P:=fun kd=>(s3 kd (.int a) (.int b) (.int e):AV)=.int (s3 kd a b e)) hk rfl rfl rfl
theorem z_3 {c0 c1:Int} (hk:kd < 3) (hs:sg < 3) (hc:lof H c=some [.int c0,.int c1]) (hd:2 * ((high:Int) - low - 1) - s3 kd 0 c0 c1 * (2 - (sg:Int))=d):zD (zv2 c r low high T n kd sg mo) H=some (.next,zv3 c r low high T n kd sg mo d,H++[.list [.int 0,.int c0,.int c1]]):=by
 generalize hv:zv2 c r low high T n kd sg mo=v
 have a1:za2 kk_counts v=some (.obj c):=by subst hv;kernel_rfl
 have a2:za2 zd1 v=some (.int (low:Int)):=by subst hv;kernel_rfl
 have a3:za2 zbr v=some (.int (high:Int)):=by subst hv;kernel_rfl
 have a4:za2 kk_kind v=some (.int (kd:Int)):=by subst hv;kernel_rfl
 have a5:za2 kk_sign v=some (.int (sg:Int)):=by subst hv;kernel_rfl
 have hz:zab kk_due (.int d) v=zv3 c r low high T n kd sg mo d:=by subst hv;kernel_rfl
 rw [← hz,← hd]
 have y0:=list_s (zad (za9 (.int 0) v H) (zad (zd4 (za5 a1 H) (za9 (.int ((0:Nat):Int)) _ _) (itemL hc rfl)) (zad (zd4 (za5 a1 H) (za9 (.int ((1:Nat):Int)) _ _) (itemL hc rfl)) (zc8 _ _)))) (by simp -iota)
 have y1:=zd4 y0 (za5 a4 _) (itemL (zdz _ _) (get3 hk _ _ _))
 have y2:=s3_int hk 0 c0 c1
 rw [y2] at y1
 have hm:smallI (2 - (sg:Int))=true:=by3 (P:=fun sg=>smallI (2 - (sg:Int))=true) hs rfl rfl rfl
 have y3:∀ H,binop Operator.Mult (.int (s3 kd 0 c0 c1)) (.int (2 - (sg:Int))) H=some (.int (s3 kd 0 c0 c1 * (2 - (sg:Int))),H):=fun H=>by
  rw [binop_mulI,hm,Bool.or_true,if_pos rfl]
 refine as_s (zb2 (zb2 (za9 _ _ _) (zb2 (zb2 (za5 a3 H) (za5 a2 H) (x:=.int ((high:Int) - low)) (H3:=H) rfl) (za9 _ _ _) (x:=.int ((high:Int) - low - 1)) (H3:=H) rfl) (x:=.int (2 * ((high:Int) - low - 1))) (H3:=H) rfl)
  (zb2 y1 (zb2 (za9 _ _ _) (za5 a5 _) (x:=.int (2 - (sg:Int))) rfl) (x:=.int (s3 kd 0 c0 c1 * (2 - (sg:Int)))) (y3 _)) rfl)
theorem z_wr {v:Vars} {a b e rr:Nat} {fs:CE} {cs:Nat} {w:List Nat} (a1:za2 kk_rulers v=some (.obj r)) (a2:za2 zd1 v=some (.int (low:Int))) (a3:za2 zbr v=some (.int (high:Int))) (a4:za2 kk_kind v=some (.int (kd:Int))) (hk:kd < 3) {rs:List AV} (hr:lof H r=some rs) (hx:nth rs (s3 kd a b e)=some (.obj rr))
  (hf:∀ H,fs v H=some (.str (sL [cs]),H)) (hw:∀ G,writtenF [.obj rr,.int (low:Int),.int (high:Int),.str (sL [cs])] (H++G)=some (.str (sL w),H++G)):zW a b e fs v H=some (.str (sL w),H++[.list [.int a,.int b,.int e]]):=by
 have y0:=list_s (zad (za9 (.int a) v H) (zad (za9 (.int b) v H) (zad (za9 (.int e) v H) (zc8 _ _)))) (by simp -iota)
 have y1:=zd4 y0 (za5 a4 _) (itemL (zdz _ _) (get3 hk _ _ _))
 have y2:(s3 kd (.int a) (.int b) (.int e):AV)=.int ((s3 kd a b e:Nat):Int):=by3 (P:=fun kd=>(s3 kd (.int a) (.int b) (.int e):AV)=.int ((s3 kd a b e:Nat):Int)) hk rfl rfl rfl
 rw [y2] at y1
 have y3:=zd4 (za5 a1 H) y1 (itemL (lof_app hr _) hx)
 exact call_s (zad y3 (zad (za5 a2 _) (zad (za5 a3 _) (zad (hf _) (zc8 _ _))))) (show dStr (.lit (.ref 104)) _ [] _=_ from hw _)
theorem levF_s {l m:List Nat} (c:Int) {H:List AO} (h1:l.length≤9) (h2:m.length≤9) (h3:∀ x∈l,x < 128) (h4:∀ x∈m,x < 128):levF [.str (sL l),.str (sL m),.int c] H=some (.int (levN l m c),H):=by
 show levIf (sL l) (sL m) c H=_
 unfold levIf
 have e:∀ l:List Nat,(sL l).cps.toList=l:=fun l=>rfl
 rw [e,e,if_pos ⟨h1,h2,List.all_eq_true.mpr fun x hx=>decide_eq_true (h3 x hx),List.all_eq_true.mpr fun x hx=>decide_eq_true (h4 x hx)⟩]
theorem z_6 {l1 l2:Int} (h1:∀ H,levF [.str (sL w1),.str (sL w2),.int (d + mo)] H=some (.int l1,H)) (h2:∀ H,levF [.str (sL w1),.str (sL w2),.int 0] H=some (.int l2,H)):zF (zv5 c r low high T n kd sg mo d w1 w2) H=some (.next,zv6 c r low high T n kd sg mo d w1 w2 (H.length + 1),H++[.list [.int (d + mo),.int 0]]++[.list [.int l1,.int l2]]):=by
 have a1:za8 kk_due (zv5 c r low high T n kd sg mo d w1 w2) H=some (.int d,H):=za5 (by kernel_rfl) _
 have a2:za8 kk_more (zv5 c r low high T n kd sg mo d w1 w2) H=some (.int mo,H):=za5 (by kernel_rfl) _
 have xl:=list_s (zad (zb2 a1 a2 (x:=.int (d + mo)) (H3:=H) (g:=gAdd) rfl) (zad (za9 (.int 0) _ _) (zc8 _ _))) (by simp -iota)
 have cc:=comp2 (k:=kk_bound) (fe:=zLev) xl (zav rfl) (y0:=.int l1) (y1:=.int l2) (fun H=>?_) (fun H=>?_)
 ·refine (as_s (k:=ze1) cc).trans ?_
  rw [List.length_append]
  show some (AFlow.next,zab ze1 (.obj (H.length + 1)) _,_)=_
  have:zab ze1 (.obj (H.length + 1)) (zv5 c r low high T n kd sg mo d w1 w2)=zv6 c r low high T n kd sg mo d w1 w2 (H.length + 1):=by kernel_rfl
  rw [← this]
 ·exact call_s (D:=dStr) (x:=.lit (.ref 71)) (zad (za5 (x:=.str (sL w1)) (by kernel_rfl) _) (zad (za5 (x:=.str (sL w2)) (by kernel_rfl) _) (zad (za5 (x:=.int (d + mo)) (by kernel_rfl) _) (zc8 _ _)))) (show dStr (.lit (.ref 71)) _ [] _=_ from h1 _)
 ·exact call_s (D:=dStr) (x:=.lit (.ref 71)) (zad (za5 (x:=.str (sL w1)) (by kernel_rfl) _) (zad (za5 (x:=.str (sL w2)) (by kernel_rfl) _) (zad (za5 (x:=.int 0) (by kernel_rfl) _) (zc8 _ _)))) (show dStr (.lit (.ref 71)) _ [] _=_ from h2 _)
theorem z_7 {g:Bool} (hg:∀ H,grownF [.str (sL w1),.str (sL w2)] H=some (.lit (.bool g),H)):zL (zv6 c r low high T n kd sg mo d w1 w2 q) H=some (.next,zv7 c r low high T n kd sg mo d w1 w2 q (if g then d else 1),H):=by
 have hv:∀ le,zab kk_least (.int le) (zv6 c r low high T n kd sg mo d w1 w2 q)=zv7 c r low high T n kd sg mo d w1 w2 q le:=fun le=>by kernel_rfl
 rw [← hv]
 refine as_s ?_
 have t:tVal (zc1 dStr (za1 (AV.lit (Value.ref 109))) (zaa (za8 kk_one) (zaa (za8 kk_two) zcd)) kNil) (zv6 c r low high T n kd sg mo d w1 w2 q) H=some (g,H) :=
  val_s (call_s (D:=dStr) (x:=.lit (.ref 109)) (zad (za5 (x:=.str (sL w1)) (by kernel_rfl) _) (zad (za5 (x:=.str (sL w2)) (by kernel_rfl) _) (zc8 _ _))) (show dStr (.lit (.ref 109)) _ [] _=_ from hg _)) rfl
 rw [if_s t]
 cases g with
 | true=>rw [if_pos rfl,if_pos rfl];exact za5 (by kernel_rfl) _
 | false=>rw [if_neg (by decide),if_neg (by decide)];rfl
theorem z_8 (hq:H[q]?=some (.list [.int d,.int le])):∃ G,zRet (zv7 c r low high T n kd sg mo d w1 w2 q le) H=some (.ret (.lit (.bool true)),zv7 c r low high T n kd sg mo d w1 w2 q le,H++G):=by
 have hlt:q < H.length:=(List.getElem?_eq_some_iff.mp hq).1
 have f:∀ H,za8 ze1 (zv7 c r low high T n kd sg mo d w1 w2 q le) H=some (.obj q,H):=fun H=>za5 (by kernel_rfl) _
 have du:za8 kk_due (zv7 c r low high T n kd sg mo d w1 w2 q le) H=some (.int d,H):=za5 (by kernel_rfl) _
 have dl:za8 kk_least (zv7 c r low high T n kd sg mo d w1 w2 q le) H=some (.int le,H):=za5 (by kernel_rfl) _
 have xl:=list_s (zad du (zad dl (zc8 _ _))) (by simp)
 have xe:cCmp (gOf CmpOp.Eq) (za8 ze1) (cList (zaa (za8 kk_due) (zaa (za8 kk_least) zcd))) (zv7 c r low high T n kd sg mo d w1 w2 q le) H=some (.lit (.bool true),H++[.list [.int d,.int le]]):=by
  refine ccmp_s (f H) xl ?_
  rw [gOf_ok]
  show (do eqL (← zah (H++[AO.list [.int d,.int le]]) (.obj q)) (← zah (H++[AO.list [.int d,.int le]]) (.obj H.length)))=_
  have l1:zah (H++[AO.list [.int d,.int le]]) (.obj q)=some [.int d,.int le]:=by simp only [zah,zaw,List.getElem?_append_left hlt,hq]
  have l2:zah (H++[AO.list [.int d,.int le]]) (.obj H.length)=some [.int d,.int le]:=by simp only [zah,zaw,zav rfl]
  rw [l1,l2]
  exact eqL_self2 _ _
 have cc:=comp2 (k:=kk_each) (fit:=za8 ze1) (v:=zv7 c r low high T n kd sg mo d w1 w2 q le) (H:=H++[.list [.int d,.int le]]) (f _) (x0:=d) (x1:=le) (by rw [List.getElem?_append_left hlt];exact hq)
  (fe:=zc1 dStr (za1 (AV.lit (Value.builtin "isinstance"))) (zaa (za8 kk_each) (zaa (za1 (AV.lit (Value.type "bool"))) zcd)) kNil) (y0:=.lit (.bool false)) (y1:=.lit (.bool false)) (fun H=>by kernel_rfl) (fun H=>by kernel_rfl)
 refine ⟨[AO.list [.int d,.int le]]++[AO.list [.lit (.bool false),.lit (.bool false)]],?_⟩
 refine ret_s ?_
 rw [cand_s xe,if_pos rfl,← List.append_assoc]
 refine ccmp_s (za9 _ _ _) cc ?_
 rw [gOf_ok]
 show ((zah _ (.obj _)).bind (anyEq (.lit (.bool true)))).map not=_
 have l2:zah ((H++[AO.list [.int d,.int le]])++[AO.list [.lit (.bool false),.lit (.bool false)]]) (.obj (H++[AO.list [.int d,.int le]]).length)=some [.lit (.bool false),.lit (.bool false)]:=by simp only [zah,zaw,zav rfl]
 rw [l2];rfl
end
end
noncomputable section
section
variable {c r low high:Nat} {T d mo c0 c1:Int} {kd sg ra rb:Nat} {w1 w2:List Nat} {H:List AO} {rs:List AV} {g:Bool}
theorem kKm_item (hs:sg < 3) (H:List AO):itemF (.str (Str.ofString "kKm")) (.int (sg:Int)) H=some (.str (sL [s3 sg 107 75 109])):=by3 (P:=fun sg=>itemF (.str (Str.ofString "kKm")) (.int (sg:Int)) H=some (.str (sL [s3 sg 107 75 109]))) hs (by kernel_rfl) (by kernel_rfl) (by kernel_rfl)
theorem stretch_run (n1:Int.fmod (T + 2 * low + high) 3=(kd:Int)) (n2:Int.fmod (Int.fdiv (T + 2 * low + high) 3) 3=(sg:Int)) (n3:Int.fmod ((high:Int) + Int.fdiv T 4) 3 - 1=mo) (hk:kd < 3) (hs:sg < 3)
  (hc:lof H c=some [.int c0,.int c1]) (hr:lof H r=some rs) (hx1:nth rs (s3 kd 0 0 2)=some (.obj ra)) (hx2:nth rs (s3 kd 1 2 1)=some (.obj rb)) (hd:2 * ((high:Int) - low - 1) - s3 kd 0 c0 c1 * (2 - (sg:Int))=d)
  (hw1:∀ G,writtenF [.obj ra,.int (low:Int),.int (high:Int),.str (sL [107])] (H++G)=some (.str (sL w1),H++G)) (hw2:∀ G,writtenF [.obj rb,.int (low:Int),.int (high:Int),.str (sL [s3 sg 107 75 109])] (H++G)=some (.str (sL w2),H++G))
  (hl1:∀ H,levF [.str (sL w1),.str (sL w2),.int (d + mo)] H=some (.int d,H)) (hl2:∀ H,levF [.str (sL w1),.str (sL w2),.int 0] H=some (.int (if g then d else 1),H)) (hg:∀ H,grownF [.str (sL w1),.str (sL w2)] H=some (.lit (.bool g),H)) {Γ:Prop} (κ:∀ v' G,(c_stretch dStr).1 (zv0 c r low high T) H=some (.ret (.lit (.bool true)),v',H++G)→Γ):Γ:=by
 have s1:zN (zv0 c r low high T) H=some (.next,zv1 c r low high T (T + 2 * low + high),H):=z_1
 have s2:=z_2 (c:=c) (r:=r) (low:=low) (T:=T) (H:=H) n1 n2 n3
 have s3':=z_3 (r:=r) (low:=low) (high:=high) (T:=T) (n:=T + 2 * low + high) (mo:=mo) hk hs hc hd
 generalize hH1:H++[AO.list [.int 0,.int c0,.int c1]]=H1 at s3'
 have e1:z1 (zv3 c r low high T (T + 2 * low + high) kd sg mo d) H1=some (.next,zv4 c r low high T (T + 2 * low + high) kd sg mo d w1,H1++[.list [.int (0:Nat),.int (0:Nat),.int (2:Nat)]]):=by
  refine (as_s (z_wr (a:=0) (b:=0) (e:=2) (rr:=ra) (rs:=rs) (r:=r) (low:=low) (high:=high) (kd:=kd) (by kernel_rfl) (by kernel_rfl) (by kernel_rfl) (by kernel_rfl) hk (by subst hH1;exact lof_app hr _) hx1 (cs:=107) (w:=w1) (fun H=>?_) (fun G=>?_))).trans (by kernel_rfl)
  ·show some (AV.str (Str.ofString "k"),H)=_
   rw [show Str.ofString "k"=sL [107] by decide +kernel]
  ·subst hH1;rw [List.append_assoc];exact hw1 _
 generalize hH2:H1++[AO.list [.int (0:Nat),.int (0:Nat),.int (2:Nat)]]=H2 at e1
 have e2:z2 (zv4 c r low high T (T + 2 * low + high) kd sg mo d w1) H2=some (.next,zv5 c r low high T (T + 2 * low + high) kd sg mo d w1 w2,H2++[.list [.int (1:Nat),.int (2:Nat),.int (1:Nat)]]):=by
  refine (as_s (z_wr (a:=1) (b:=2) (e:=1) (rr:=rb) (rs:=rs) (r:=r) (low:=low) (high:=high) (kd:=kd) (by kernel_rfl) (by kernel_rfl) (by kernel_rfl) (by kernel_rfl) hk (by subst hH2;subst hH1;exact lof_app (lof_app hr _) _) hx2 (cs:=s3 sg 107 75 109) (w:=w2) (fun H=>?_) (fun G=>?_))).trans (by kernel_rfl)
  ·refine zd4 (za9 _ _ _) (za5 (x:=.int (sg:Int)) (by kernel_rfl) _) ?_
   exact kKm_item hs _
  ·subst hH2;subst hH1;rw [List.append_assoc,List.append_assoc];exact hw2 _
 generalize hH3:H2++[AO.list [.int (1:Nat),.int (2:Nat),.int (1:Nat)]]=H3 at e2
 have e3:=z_6 (c:=c) (r:=r) (low:=low) (high:=high) (T:=T) (n:=T + 2 * low + high) (kd:=kd) (sg:=sg) (H:=H3) hl1 hl2
 have e4:=z_7 (c:=c) (r:=r) (low:=low) (high:=high) (T:=T) (n:=T + 2 * low + high) (kd:=kd) (sg:=sg) (mo:=mo) (d:=d) (q:=H3.length + 1) (H:=H3++[.list [.int (d + mo),.int 0]]++[.list [.int d,.int (if g then d else 1)]]) hg
 obtain ⟨G,e5⟩:=z_8 (c:=c) (r:=r) (low:=low) (high:=high) (T:=T) (n:=T + 2 * low + high) (kd:=kd) (sg:=sg) (mo:=mo) (d:=d) (le:=if g then d else 1) (w1:=w1) (w2:=w2) (q:=H3.length + 1) (H:=H3++[.list [.int (d + mo),.int 0]]++[.list [.int d,.int (if g then d else 1)]]) (zav (by rw [List.length_append];rfl))
 have e6:=(congrFun (congrFun c_stretch_eq (zv0 c r low high T)) H).trans ((zb5 s1).trans ((zb5 s2).trans ((zb5 s3').trans ((zb5 e1).trans ((zb5 e2).trans ((zb5 e3).trans ((zb5 e4).trans e5)))))))
 refine κ (zv7 c r low high T (T + 2 * low + high) kd sg mo d w1 w2 (H3.length + 1) (if g then d else 1)) ([AO.list [.int 0,.int c0,.int c1]]++[AO.list [.int (0:Nat),.int (0:Nat),.int (2:Nat)]]++[AO.list [.int (1:Nat),.int (2:Nat),.int (1:Nat)]]++[.list [.int (d + mo),.int 0]]++[.list [.int d,.int (if g then d else 1)]]++G) (e6.trans ?_)
 subst hH3;subst hH2;subst hH1
 simp -iota only [List.append_assoc]
end
noncomputable def bm (low:Nat) (b:List Bool) (j:Nat):Bool:=Option.rec (motive:=fun _=>Bool) false (fun x=>x) (nth b (j - low - 1))
noncomputable def allB (n:Nat):List (List Bool):=Nat.rec (motive:=fun _=>List (List Bool)) [[]] (fun _ ih=>(ih.map (true::·))++(ih.map (false::·))) n
theorem allB_mem:∀ b:List Bool,b∈allB b.length
 | []=>List.mem_cons_self ..
 | x::b=>by
  show x::b∈((allB b.length).map (true::·))++((allB b.length).map (false::·))
  have:=allB_mem b
  cases x
  ·exact List.mem_append_right _ (List.mem_map_of_mem this)
  ·exact List.mem_append_left _ (List.mem_map_of_mem this)
theorem wrGo_congr {m m':Nat→Bool} {low sg:Nat}:∀ (js t:List Nat),(∀ j∈js,low < j→m j=m' j)→wrGo m low sg js t=wrGo m' low sg js t
 | [],_,_=>rfl
 | j::js,t,h=>by
  show wrGo m low sg js _=wrGo m' low sg js _
  have:(decide (low < j) && m j)=(decide (low < j) && m' j):=by
   by_cases q:low < j
   ·rw [h j (List.mem_cons_self ..) q]
   ·rw [decide_eq_false q,Bool.false_and,Bool.false_and]
  rw [this]
  exact wrGo_congr js _ fun i hi=>h i (List.mem_cons_of_mem _ hi)
theorem wr_congr {m m':Nat→Bool} {low high sg:Nat} (h:∀ j,low < j→j < high→m j=m' j):wr m low high sg=wr m' low high sg:=by
 refine wrGo_congr _ _ fun j hj hl=>h j hl ?_
 unfold jsOf at hj
 rw [List.mem_reverse,List.mem_range'_1] at hj
 omega
noncomputable def bitsOf (m:Nat→Bool) (low high:Nat):List Bool:=(List.range' (low + 1) (high - low - 1)).map m
theorem bits_get {m:Nat→Bool} {low high j:Nat} (h1:low < j) (h2:j < high):bm low (bitsOf m low high) j=m j:=by
 unfold bm bitsOf
 rw [zaw,List.getElem?_map,List.getElem?_range' (show j - low - 1 < high - low - 1 by omega)]
 show m _=m j
 congr 1;omega
noncomputable def cnt (b:Bool) (l:List Bool):Nat:=List.rec (motive:=fun _=>Nat) 0 (fun x _ ih=>bi (Bool.rec (motive:=fun _=>Bool) (Bool.rec (motive:=fun _=>Bool) true false x) x b) (Nat.succ ih) ih) l
noncomputable def stOne (w1 w2:List Nat) (d:Int):Bool:=Nat.ble (lenF w1) 9 && (Nat.ble (lenF w2) 9 && ((w1.all fun x=>Nat.blt x 128) && ((w2.all fun x=>Nat.blt x 128) &&
 Option.rec (motive:=fun _=>Bool) false (fun g=>iEq (levN w1 w2 (d - 1)) d && (iEq (levN w1 w2 d) d && (iEq (levN w1 w2 (d + 1)) d && iEq (levN w1 w2 0) (bi g d 1)))) (grB (sL w1) (sL w2)))))
noncomputable def stDue (low high kd sg:Nat) (b:List Bool):Int:=2 * ((high:Int) - low - 1) - s3 kd 0 ((cnt true b:Nat):Int) ((cnt false b:Nat):Int) * (2 - (sg:Int))
noncomputable def stW1 (low high kd:Nat) (b:List Bool):List Nat:=wr (s3 kd (bm low b) (bm low b) (fun _=>true)) low high 107
noncomputable def stW2 (low high kd sg:Nat) (b:List Bool):List Nat:=wr (s3 kd (fun j=>!bm low b j) (fun _=>true) (fun j=>!bm low b j)) low high (s3 sg 107 75 109)
noncomputable def stChk (low high:Nat) (b:List Bool) (kd sg:Nat):Bool:=stOne (stW1 low high kd b) (stW2 low high kd sg b) (stDue low high kd sg b)
end
noncomputable section
noncomputable def stAll (kd sg:Nat):Bool:=lhP.all fun p=>(allB (p.2 - p.1 - 1)).all fun b=>stChk p.1 p.2 b kd sg
theorem st_00:stAll 0 0=true:=by decide +kernel
theorem st_01:stAll 0 1=true:=by decide +kernel
theorem st_02:stAll 0 2=true:=by decide +kernel
theorem st_10:stAll 1 0=true:=by decide +kernel
theorem st_11:stAll 1 1=true:=by decide +kernel
theorem st_12:stAll 1 2=true:=by decide +kernel
theorem st_20:stAll 2 0=true:=by decide +kernel
theorem st_21:stAll 2 1=true:=by decide +kernel
theorem st_22:stAll 2 2=true:=by decide +kernel
end
noncomputable section
theorem written_s {m low high c:Nat} {is:List Int} {H:List AO} (hp:(low,high)∈lhP) (hm:lof H m=some (is.map .int)):writtenF [.obj m,.int (low:Int),.int (high:Int),.str (sL [c])] H=some (.str (sL (wr (memI is) low high c)),H):=by
 show wr1 m (low:Int) (high:Int) [c] H=_
 unfold wr1
 rw [natI_s,natI_s,hm]
 show (allN (is.map .int)).bind _=_
 rw [allN_map,Option.bind_some,if_pos hp]
theorem grown_s {a b:Str} {g:Bool} (h:grB a b=some g) (H:List AO):grownF [.str a,.str b] H=some (.lit (.bool g),H):=by
 show (grB a b).bind _=_
 rw [h];rfl
theorem st_all {kd sg:Nat} (hk:kd < 3) (hs:sg < 3):stAll kd sg=true:=by
 exact by3 (P:=fun kd=>stAll kd sg=true) hk (by3 (P:=fun sg=>stAll 0 sg=true) hs st_00 st_01 st_02) (by3 (P:=fun sg=>stAll 1 sg=true) hs st_10 st_11 st_12) (by3 (P:=fun sg=>stAll 2 sg=true) hs st_20 st_21 st_22)
theorem iEq_is {x y:Int} (h:iEq x y=true):x=y:=by rw [iEq_eq] at h;exact of_decide_eq_true h
theorem stOne_ok {w1 w2:List Nat} {d mo:Int} (h:stOne w1 w2 d=true) (hm:mo=-1∨mo=0∨mo=1) {Γ:Prop} (κ:∀ g,((∀ H,grownF [.str (sL w1),.str (sL w2)] H=some (.lit (.bool g),H)))→((∀ H,levF [.str (sL w1),.str (sL w2),.int (d + mo)] H=some (.int d,H)))→((∀ H,levF [.str (sL w1),.str (sL w2),.int 0] H=some (.int (if g then d else 1),H)))→Γ):Γ:=by
 unfold stOne at h
 refine and4k h fun a1 h=>?_
 refine and4k h fun a2 h=>?_
 refine and4k h fun a3 h=>?_
 refine and4k h fun a4 h=>?_
 rw [zau] at a1 a2
 have b1:=Nat.ble_eq.mp a1
 have b2:=Nat.ble_eq.mp a2
 have b3:∀ x∈w1,x < 128:=fun x hx=>Nat.blt_eq.mp (List.all_eq_true.mp a3 x hx)
 have b4:∀ x∈w2,x < 128:=fun x hx=>Nat.blt_eq.mp (List.all_eq_true.mp a4 x hx)
 cases q:grB (sL w1) (sL w2) with
 | none=>rw [q] at h;exact absurd (show false=true from h) (by decide)
 | some g =>
  rw [q] at h
  refine and4k (show (iEq (levN w1 w2 (d - 1)) d && (iEq (levN w1 w2 d) d && (iEq (levN w1 w2 (d + 1)) d && iEq (levN w1 w2 0) (bi g d 1))))=true from h) fun c1 h=>?_
  refine and4k h fun c2 h=>?_
  refine and4k h fun c3 c4=>?_
  have e1:=iEq_is c1
  have e2:=iEq_is c2
  have e3:=iEq_is c3
  have e4:=iEq_is c4
  rw [zay] at e4
  refine κ g (grown_s q) (fun H=>?_) (fun H=>?_)
  ·rw [levF_s _ b1 b2 b3 b4]
   rcases hm with rfl | rfl | rfl
   ·exact congrArg (fun z=>some (AV.int z,H)) e1
   ·rw [Int.add_zero,e2]
   ·rw [e3]
  ·rw [levF_s _ b1 b2 b3 b4,e4]
noncomputable def natsQ (xs:List AV):Option (List Int):=List.rec (motive:=fun _=>Option (List Int)) (some []) (fun x _ ih=>onInt x fun i=>o1 ih fun l=>some (i::l)) xs
theorem natsQ_is:∀ {xs:List AV} {is:List Int},natsQ xs=some is→xs=is.map .int
 | [],is,h=>by obtain rfl:=sj h;rfl
 | x::xs,is,h=>by
  refine zao (a:=x) (f:=fun i=>o1 (natsQ xs) fun l=>some (i::l)) h ?_;rintro i rfl h
  refine za7 h fun l e2 h=>?_
  obtain rfl:=sj h
  rw [natsQ_is e2];rfl
noncomputable def memQ (is:List Int) (j:Nat):Bool:=List.rec (motive:=fun _=>Bool) false (fun i _ ih=>bi (iEq i (Int.ofNat j)) true ih) is
theorem memQ_eq:∀ (is:List Int) (j:Nat),memQ is j=memI is j
 | [],_=>rfl
 | i::is,j=>by
  show bi (iEq i (Int.ofNat j)) true (memQ is j)=((i == (j:Int)) || memI is j)
  rw [memQ_eq is j,zay,iEq_eq]
  show (if decide (i=(j:Int))=true then true else memI is j)=_
  by_cases q:i=(j:Int)
  ·subst q;simp -iota
  ·simp -iota [q]
noncomputable def three (xs:List AV):Option (Nat×Nat×Nat):=cO xs fun a l=>cO l fun b l=>cO l fun c l=>onNil l (some (a,b,c))
theorem three_is {xs:List AV} {t:Nat×Nat×Nat} (h:three xs=some t):xs=[.obj t.1,.obj t.2.1,.obj t.2.2]:=by
 refine cO_some h ?_;rintro a _ rfl h1
 refine cO_some h1 ?_;rintro b _ rfl h2
 refine cO_some h2 ?_;rintro c _ rfl h3
 refine zdf h3 ?_;rintro rfl h4
 replace h:=h4
 obtain rfl:=sj h;rfl
theorem relL_opn {σ:List Addr} {n:Nat}:∀ (zs:List AV) {vs:List Value},RelL σ (zs++[.rng n]) vs→∃ i:Nat,RelL σ (zs++[.int (i:Int)]) vs
 | [],v::[],⟨⟨i,t,_,e⟩,r⟩=>⟨i,⟨t,e⟩,r⟩
 | [],[],r=>r.elim
 | [],_::_::_,r=>r.2.elim
 | _::_,[],r=>r.elim
 | z::zs,v::vs,⟨r1,r2⟩=>(relL_opn zs r2).imp fun _ q=>⟨r1,q⟩
noncomputable def goodQ (F S A:List Int) (n j:Nat):Bool:=Nat.rec (motive:=fun _=>Nat→Bool) (fun _=>true) (fun _ ih j=>bi (memQ A j) (bi (memQ F j) (bi (memQ S j) false (ih (Nat.succ j))) (bi (memQ S j) (ih (Nat.succ j)) false)) false) n j
noncomputable def lhQ (low high:Nat):Bool:=List.rec (motive:=fun _=>Bool) false (fun p _ ih=>bi (Nat.beq p.1 low) (bi (Nat.beq p.2 high) true ih) ih) lhP
theorem lhQ_ok {low high:Nat} (h:lhQ low high=true):(low,high)∈lhP:=by
 have:∀ l:List (Nat×Nat),(List.rec (motive:=fun _=>Bool) false (fun p _ ih=>bi (Nat.beq p.1 low) (bi (Nat.beq p.2 high) true ih) ih) l:Bool)=true→(low,high)∈l:=by
  intro l
  induction l with
  | nil=>intro h;exact absurd (show false=true from h) (by decide)
  | cons p l ih =>
   intro h
   have h':bi (Nat.beq p.1 low) (bi (Nat.beq p.2 high) true (List.rec (motive:=fun _=>Bool) false (fun p _ ih=>bi (Nat.beq p.1 low) (bi (Nat.beq p.2 high) true ih) ih) l)) (List.rec (motive:=fun _=>Bool) false (fun p _ ih=>bi (Nat.beq p.1 low) (bi (Nat.beq p.2 high) true ih) ih) l)=true:=h
   cases q1:Nat.beq p.1 low with
   | false=>rw [q1] at h';exact List.mem_cons_of_mem _ (ih h')
   | true =>
    rw [q1] at h'
    cases q2:Nat.beq p.2 high with
    | false=>rw [q2] at h';exact List.mem_cons_of_mem _ (ih h')
    | true =>
     obtain ⟨x,y⟩:=p
     have e1:x=low:=Nat.eq_of_beq_eq_true q1
     have e2:y=high:=Nat.eq_of_beq_eq_true q2
     subst e1;subst e2
     exact List.mem_cons_self ..
 exact this _ h
theorem good_ok {F S A:List Int}:∀ {n j:Nat},goodQ F S A n j=true→∀ i,j≤i→i < j + n→memI A i=true∧memI S i=!memI F i
 | 0,j,_,i,h1,h2=>absurd h2 (by omega)
 | n + 1,j,h,i,h1,h2=>by
  have h':bi (memQ A j) (bi (memQ F j) (bi (memQ S j) false (goodQ F S A n (j + 1))) (bi (memQ S j) (goodQ F S A n (j + 1)) false)) false=true:=h
  rw [memQ_eq,memQ_eq,memQ_eq] at h'
  have k1:memI A j=true∧memI S j=(!memI F j)∧goodQ F S A n (j + 1)=true:=by
   revert h'
   cases memI A j<;>cases memI F j<;>cases memI S j<;>intro h'<;>first | exact absurd (show false=true from h') (by decide) | exact ⟨rfl,rfl,h'⟩
  by_cases q:i=j
  ·subst q;exact ⟨k1.1,k1.2.1⟩
  ·exact good_ok k1.2.2 i (by omega) (by omega)
noncomputable def cntQ (F:List Int) (n j:Nat):Nat×Nat:=Nat.rec (motive:=fun _=>Nat→Nat×Nat) (fun _=>(0,0)) (fun _ ih j=>(fun p=>bi (memQ F j) (Nat.succ p.1,p.2) (p.1,Nat.succ p.2)) (ih (Nat.succ j))) n j
theorem cnt_ok {F:List Int}:∀ (n j:Nat),cntQ F n j=(cnt true ((List.range' j n).map (memI F)),cnt false ((List.range' j n).map (memI F)))
 | 0,j=>rfl
 | n + 1,j=>by
  show bi (memQ F j) (Nat.succ (cntQ F n (j + 1)).1,(cntQ F n (j + 1)).2) ((cntQ F n (j + 1)).1,Nat.succ (cntQ F n (j + 1)).2)=(cnt true (memI F j::(List.range' (j + 1) n).map (memI F)),cnt false (memI F j::(List.range' (j + 1) n).map (memI F)))
  rw [cnt_ok n (j + 1),memQ_eq]
  cases memI F j<;>rfl
noncomputable def nnQ (xs:List AV) (p:Nat×Nat):Bool:=lEq xs [.int (Int.ofNat p.1),.int (Int.ofNat p.2)]
theorem nnQ_ok {xs:List AV} {p:Nat×Nat} (h:nnQ xs p=true):xs=[.int (p.1:Int),.int (p.2:Int)]:=lEq_eq h
noncomputable def strIf (low high:Nat) (cs:List AV) (F S A:List Int) (H:List AO):Option (AV×List AO):=bi (lhQ low high) (bi (goodQ F S A (high - low - 1) (low + 1)) (bi (nnQ cs (cntQ F (high - low - 1) (low + 1))) (some (.lit (.bool true),H)) none) none) none
noncomputable def lofI (H:List AO) (k:Nat):Option (List Int):=o1 (lof H k) natsQ
theorem lofI_is {H:List AO} {k:Nat} {F:List Int} (h:lofI H k=some F):lof H k=some (F.map .int):=by
 refine za7 h fun x e h=>?_
 rw [e,natsQ_is h]
noncomputable def strW (low high:Nat) (cs:List AV) (t:Nat×Nat×Nat) (H:List AO):Option (AV×List AO):=o1 (lofI H t.1) fun F=>o1 (lofI H t.2.1) fun S=>o1 (lofI H t.2.2) fun A=>strIf low high cs F S A H
noncomputable def strV (c r:Nat) (lo hi:Int) (H:List AO):Option (AV×List AO):=o1 (natI lo) fun low=>o1 (natI hi) fun high=>o1 (lof H c) fun cs=>o1 (lof H r) fun rs=>o1 (three rs) fun t=>strW low high cs t H
noncomputable def onRng (a:AV) (z:Option (AV×List AO)):Option (AV×List AO):=AV.rec (motive:=fun _=>Option (AV×List AO)) (fun _=>none) (fun _=>none) (fun _=>none) (fun _=>none) (fun _=>z) a
theorem onRng_some {a:AV} {z:Option (AV×List AO)} {r:AV×List AO} (h:onRng a z=some r) {Γ:Prop} (κ:∀ n,a=.rng n→z=some r→Γ):Γ:=by
 cases a with
 | rng n=>exact κ n rfl h
 | _=>exact nsf h
noncomputable def stretchF (args:List AV) (H:List AO):Option (AV×List AO):=cO args fun c l=>cO l fun r l=>cI l fun lo l=>cI l fun hi l=>onCons l fun a l=>onNil l (onRng a (strV c r lo hi H))
inductive StrS (low high:Nat) (cs:List AV) (t:Nat×Nat×Nat) (H:List AO):Prop
 | mk (F S A:List Int) (lh:(low,high)∈lhP) (hc:cs=[.int ((cnt true (bitsOf (memI F) low high):Nat):Int),.int ((cnt false (bitsOf (memI F) low high):Nat):Int)]) (h1:lof H t.1=some (F.map .int)) (h2:lof H t.2.1=some (S.map .int)) (h3:lof H t.2.2=some (A.map .int)) (good:∀ i,low < i→i < high→memI A i=true∧memI S i=!memI F i)
inductive StrR (args:List AV) (H:List AO):Prop
 | mk (c r low high n:Nat) (t:Nat×Nat×Nat) (cs:List AV) (args:args=[.obj c,.obj r,.int (low:Int),.int (high:Int),.rng n]) (hc:lof H c=some cs) (hr:lof H r=some [.obj t.1,.obj t.2.1,.obj t.2.2]) (w:StrS low high cs t H)
theorem lh_lt {low high i:Nat} (h1:low < i) (h2:i < high):low + 1≤i∧i < low + 1 + (high - low - 1):=by omega
theorem strW_ok {low high:Nat} {cs:List AV} {t:Nat×Nat×Nat} {H:List AO} {q:AV×List AO} (h:strW low high cs t H=some q):StrS low high cs t H∧q=(.lit (.bool true),H):=by
 refine za7 h fun F e1 h=>?_
 refine za7 h fun S e2 h=>?_
 refine za7 h fun A e3 h=>?_
 unfold strIf at h
 rw [zay,zay,zay] at h
 refine ifsk h fun g1 h=>?_
 refine ifsk h fun g2 h=>?_
 refine ifsk h fun g3 h=>?_
 refine ⟨⟨F,S,A,lhQ_ok g1,?_,lofI_is e1,lofI_is e2,lofI_is e3,fun i h1 h2=>good_ok g2 i (lh_lt h1 h2).1 (lh_lt h1 h2).2⟩,(sj h).symm⟩
 rw [nnQ_ok g3,cnt_ok];rfl
theorem strV_ok {c r n:Nat} {lo hi:Int} {H:List AO} {q:AV×List AO} (h:strV c r lo hi H=some q):StrR [.obj c,.obj r,.int lo,.int hi,.rng n] H∧q=(.lit (.bool true),H):=by
 refine za7 h fun low e1 h=>?_
 refine za7 h fun high e2 h=>?_
 refine za7 h fun cs e3 h=>?_
 refine za7 h fun rs e4 h=>?_
 refine za7 h fun t e5 h=>?_
 obtain ⟨X,h⟩:=strW_ok h
 exact ⟨⟨c,r,low,high,n,t,cs,by rw [natI_is e1,natI_is e2],e3,by rw [e4,three_is e5],X⟩,h⟩
theorem stretchF_ok {args:List AV} {H:List AO} {q:AV×List AO} (h:stretchF args H=some q):StrR args H∧q=(.lit (.bool true),H):=by
 refine cO_some h ?_;rintro c _ rfl h1
 refine cO_some h1 ?_;rintro r _ rfl h2
 refine cI_some h2 ?_;rintro lo _ rfl h3
 refine cI_some h3 ?_;rintro hi _ rfl h4
 refine onCons_some h4 ?_;rintro x _ rfl h5
 refine zdf h5 ?_;rintro rfl h6
 refine onRng_some h6 ?_;rintro n rfl h7
 exact strV_ok h7
theorem mod3 (n:Int) {Γ:Prop} (κ:∀ k:Nat,Int.fmod n 3=(k:Int)→k < 3→Γ):Γ:=by
 obtain ⟨k,hk⟩:=Int.eq_ofNat_of_zero_le (Int.fmod_nonneg_of_pos n (b:=3) (by decide))
 exact κ k hk (Int.ofNat_lt.mp (hk▸Int.fmod_lt_of_pos n (b:=3) (by decide)))
theorem stretch_ok {H:List AO} {low high c r a b e:Nat} {cs:List AV} (hc:lof H c=some cs) (hr:lof H r=some [.obj a,.obj b,.obj e]) (X:StrS low high cs (a,b,e) H) (T:Int) {Γ:Prop} (κ:∀ v' G,(c_stretch dStr).1 (zv0 c r low high T) H=some (.ret (.lit (.bool true)),v',H++G)→Γ):Γ:=by
 obtain ⟨F,S,A,lh,rfl,h1,h2,h3,good⟩:=X
 refine mod3 (T + 2 * low + high) fun kd n1 hk=>?_
 refine mod3 (Int.fdiv (T + 2 * low + high) 3) fun sg n2 hs=>?_
 refine mod3 ((high:Int) + Int.fdiv T 4) fun m n3 hm=>?_
 have hmo:(m:Int) - 1=-1∨(m:Int) - 1=0∨(m:Int) - 1=1:=by omega
 have ch:=List.all_eq_true.mp (List.all_eq_true.mp (st_all hk hs) _ lh) (bitsOf (memI F) low high) (by
  have:=allB_mem (bitsOf (memI F) low high)
  have hl:(bitsOf (memI F) low high).length=high - low - 1:=by unfold bitsOf;rw [List.length_map,List.length_range']
  rw [hl] at this;exact this)
 refine stOne_ok ch hmo fun g hg hl1 hl2=>?_
 have w1:stW1 low high kd (bitsOf (memI F) low high)=wr (memI (s3 kd F F A)) low high 107:=by
  refine wr_congr fun j l1 l2=>?_
  have q1:=bits_get (m:=memI F) l1 l2
  have q2:=good j l1 l2
  exact by3 (P:=fun kd=>s3 kd (bm low (bitsOf (memI F) low high)) (bm low (bitsOf (memI F) low high)) (fun _=>true) j=memI (s3 kd F F A) j) hk q1 q1 q2.1.symm
 have w2:stW2 low high kd sg (bitsOf (memI F) low high)=wr (memI (s3 kd S A S)) low high (s3 sg 107 75 109):=by
  refine wr_congr fun j l1 l2=>?_
  have q1:=bits_get (m:=memI F) l1 l2
  have q2:=good j l1 l2
  have q3:=(congrArg not q1).trans q2.2.symm
  exact by3 (P:=fun kd=>s3 kd (fun j=>!bm low (bitsOf (memI F) low high) j) (fun _=>true) (fun j=>!bm low (bitsOf (memI F) low high) j) j=memI (s3 kd S A S) j) hk q3 q2.1.symm q3
 have g1:lof H (s3 kd a a e)=some ((s3 kd F F A).map .int):=by3 (P:=fun kd=>lof H (s3 kd a a e)=some ((s3 kd F F A).map .int)) hk h1 h1 h3
 have g2:lof H (s3 kd b e b)=some ((s3 kd S A S).map .int):=by3 (P:=fun kd=>lof H (s3 kd b e b)=some ((s3 kd S A S).map .int)) hk h2 h3 h2
 have i1:nth [AV.obj a,.obj b,.obj e] (s3 kd 0 0 2)=some (.obj (s3 kd a a e)):=by3 (P:=fun kd=>nth [AV.obj a,.obj b,.obj e] (s3 kd 0 0 2)=some (.obj (s3 kd a a e))) hk rfl rfl rfl
 have i2:nth [AV.obj a,.obj b,.obj e] (s3 kd 1 2 1)=some (.obj (s3 kd b e b)):=by3 (P:=fun kd=>nth [AV.obj a,.obj b,.obj e] (s3 kd 1 2 1)=some (.obj (s3 kd b e b))) hk rfl rfl rfl
 rw [w1,w2] at hg hl1 hl2
 exact stretch_run n1 n2 (by rw [n3]) hk hs hc hr i1 i2 rfl (fun G=>written_s lh (lof_app g1 G)) (fun G=>written_s lh (lof_app g2 G)) hl1 hl2 hg κ
theorem stretch_at {w:World}:CodeAt w (fnd 22) 121:=fun c X XO=>⟨_,.inr (u_stretch X XO)⟩
theorem stretch_nat {w:World} {h:Heap} {mg mb:Str→Option Value} {Wb fx:List Addr} {nf:Nat} (T:TopAt w h mg mb) (O:TopOut w mg Wb):NatOk (⟨PG,w,h,Wb,fx,nf,G2⟩:Cx) 121 5 stretchF:=by
 refine code_drop T O (d:=4) (T':=TStr) stretch_at (by kernel_rfl) ⟨fun a u e=>?_,fun k u q=>by simp -iota at q⟩ fun args H r H' e=>?_
 ·have hm:=zcl e
  simp -iota [TStr] at hm
  rcases hm with ⟨rfl,rfl⟩ | ⟨rfl,rfl⟩ | ⟨rfl,rfl⟩
  ·exact written_nat T O
  ·exact grown_nat T O
  ·exact lev_nat T O
 ·obtain ⟨⟨c,r',low,high,n,t,cs,rfl,hc,hr,X⟩,h⟩:=stretchF_ok e
  obtain ⟨rfl,rfl⟩:=Prod.mk.inj h
  refine ⟨rfl,rfl,fun σ vvs ra=>?_⟩
  obtain ⟨i,r5⟩:=relL_opn [.obj c,.obj r',.int (low:Int),.int (high:Int)] ra
  refine stretch_ok hc hr X (i:Int) fun v' G hr=>?_
  refine ⟨_,G,r5,callF_of (v':=v') (vars:=[(key "counts",.obj c),(key "rulers",.obj r'),(key "low",.int (low:Int)),(key "high",.int (high:Int)),(key "turn",.int (i:Int))]) (by kernel_rfl) ?_⟩
  rw [zbd,zb8,zcc,zbc,zby]
  exact (c_stretch dStr).2 _ dStr_ok zb0 _ _ _ hr
end
noncomputable def cP (e:Expr):Pos:=(kid 0 e).pos
noncomputable def cA (e:Expr):List Expr:=(kids e).drop 1
noncomputable def cQ (e:Expr):Pos:=e.pos
section
variable {c:Cx} {A:Around} {σ:List Addr} {H H':List AO} {s s':Shared} {env:Env} {sc:Scope} {vars:Vars} {call:CallT} {n m:Nat}
theorem SF.keepF {h h':Heap} (F:SF c sc vars env σ h) (hk:∀ b o,b∈fadr env→h.get? b=some o→h'.get? b=some o):SF c sc vars env σ h':=by
 have kL:∀ o,h.get? env.locals=some o→h'.get? env.locals=some o:=fun o q=>hk _ o (List.mem_cons_self ..) q
 obtain ⟨mm,hmm⟩:=F.ns
 refine ⟨⟨⟨F.kind,F.glob,F.blt,F.gk,fun y w hw hv=>?_,⟨mm,zc2 hmm kL⟩,F.outL,F.outC,F.nodot⟩,fun y b e=>?_,F.all,F.ck⟩,F.scope,F.inj,F.outLC,F.newL,F.newC,fun b hb=>?_⟩
 ·have:=(F.vk y w hw hv).keep (τ:=[]) (h':=h') kL fun a o q q'=>hk a o (mem_cells q) q'
  simpa -iota using this
 ·obtain ⟨u,o,ho,hd⟩:=F.up y b e
  exact ⟨u,o,hk b o (mem_cells e) ho,hd⟩
 ·obtain ⟨o,ho⟩:=F.upL b hb
  exact ⟨o,hk b o (List.mem_cons_of_mem _ hb) ho⟩
theorem SF.there (F:SF c sc vars env σ s.heap) {b:Addr} (hb:b∈fadr env):∃ o,s.heap.get? b=some o:=by
 rcases List.mem_cons.mp hb with q | q
 ·obtain ⟨m0,o,_,_,ho,_⟩:=F.ns
  exact ⟨o,q▸ho⟩
 ·exact F.upL b q
theorem St.keepOn (S:St c σ H s) (hb:∀ b o,b∉c.Wb→c.hb.get? b=some o→s'.heap.get? b=some o) (hσ:∀ a o,a∈σ→s.heap.get? a=some o→s'.heap.get? a=some o) (ht:∀ b o,c.hb.get? b=some o→∃ o',s'.heap.get? b=some o'):St c σ H s' :=
 ⟨hb,S.len,fun k a o e e'=>(S.objs k a o e e').keep fun ob q=>hσ a ob (List.mem_of_getElem? e) q,S.nodup,S.fresh,S.fix,S.fixed,ht,S.nle⟩
theorem zdt {l2:List Stmt} {v':Vars} {Q:Flow→Shared→Prop} {E:Value→Shared→Prop} (Is:IHs c call n m) (Rm:Room A m) (l1:List Stmt) {vars:Vars} {σ:List Addr} {H:List AO} {s:Shared} (F:SF c sc vars env σ s.heap) (S:St c σ H s) (h:exLGo (exS c.G call n sc) l1 vars H=some (.next,v',H'))
  (hq:∀ τ s',AftS c σ H' env s τ s'→SF c sc v' env (σ++τ) s'.heap→wpAny (model c.prog c.w) A (execs l2 env) Q E s'):wpAny (model c.prog c.w) A (execs (l1++l2) env) Q E s:=by
 induction l1 generalizing vars σ H s with
 | nil =>
  refine op3k h ?_;rintro _ rfl rfl
  exact hq [] s (Aft.toS (Aft.refl S)) (by rw [List.append_nil];exact F)
 | cons st l1 ih =>
  refine za4 h ?_;rintro f ⟨v1,H1⟩ e1 h
  refine wpAny_execs_cons ((Is A sc vars env st H _ σ s Rm F S e1).use fun τ1 s1 fl a1 F1 r1=>?_)
  cases r1 with
  | next=>exact ih F1 a1.st h fun τ s' a F'=>hq (τ1++τ) s' (a1.trans a) (by rw [← List.append_assoc];exact F')
  | brk=>exact nomatch (op3 h).1
  | ret rr=>exact nomatch (op3 h).1
theorem rebase_sfW (F:SF c sc vars env σ s.heap) {W σ' fx:List Addr} {nf:Nat} {vars':Vars} (hsub:∀ a∈σ',a∈σ) (hv:∀ x av',look (key x) vars'=some av'→∃ av,look (key x) vars=some av∧∀ v,av.Rel σ v→av'.Rel σ' v)
  (hnd:look (key ".0") vars'=none) (hW:∀ a∈fadr env,a∈W):SF (reC c s.heap W fx nf) sc vars' env σ' s.heap:=by
 refine ⟨⟨⟨F.kind,F.glob,F.blt,F.gk,fun x av hx hvr=>?_,F.ns,fun q=>F.outL (hsub _ q),fun x a e q=>F.outC x a e (hsub _ q),hnd⟩,F.up,F.all,F.ck⟩,F.scope,F.inj,F.outLC,?_,fun x a hx e=>?_,F.upL⟩
 ·obtain ⟨av0,h1,h2⟩:=hv x av hx
  rcases F.vk x av0 h1 hvr with ⟨k,m,v,n1,n2,r⟩ | ⟨k,a,v,n1,n2,r⟩
  ·exact .inl ⟨k,m,v,n1,n2,h2 v r⟩
  ·exact .inr ⟨k,a,v,n1,n2,h2 v r⟩
 ·show (eras s.heap W).get? _=none
  rw [zbs,if_pos (hW _ (List.mem_cons_self ..))]
 ·show (eras s.heap W).get? _=none
  rw [zbs,if_pos (hW _ (mem_cells e))]
end
theorem gen_call {c:Cx} {A:Around} {σ:List Addr} {H H2:List AO} {s:Shared} {env:Env} {sc:Scope} {vars:Vars} {call:CallT} {m z:Nat} {x:Str} {p pos:Pos} {args:List Expr} {mg mb:Str→Option Value} (hpr:c.prog=PG) (O:c.Ok) (hcall:zbx c call m) (Rm:Room A (m + 1)) (F:Fr' sc vars env σ s.heap) (S:St c σ H s)
  (hT:∀ σ' H' s',St c σ' H' s'→TopAt c.w s'.heap mg mb) (e1:ev c.G call za0 sc vars (.Name x p) H=some (.lit (.ref 57),H)) (e2:evs (ev c.G call za0 sc vars) args H=some ([.obj z],H2))
  {Q:Value→Shared→Prop} {E:Value→Shared→Prop} (hq:∀ τ s3 l env' G s',Aft c σ H2 s τ s3→(σ++τ)[z]?=some l→GMade c.w l s3 s' env' G→Q (.ref G) s'):wpAny (model c.prog c.w) A (eval (.Call (.Name x p) args [] pos) env) Q E s:=by
 refine wpAny_Call_Name_kw (((zbf O hcall za0).1 A sc vars env _ H _ H σ s (Rm.le (by omega)) F S e1).use fun τ1 s1 v1 a1 r1=>?_)
 have hτ1:τ1=[]:=by
  have:=a1.st.len
  rw [List.length_append,S.len] at this
  exact List.length_eq_zero_iff.mp (by omega)
 subst hτ1
 have r1':v1=.ref 57:=r1
 subst r1'
 refine callWith_any (zdb (env:=env) pos args e2) (zdu (env:=env) pos [] (f:=ev c.G call za0 sc vars) (H:=H2) (r:=([],H2)) rfl) ?_
 have F1:=F.aft a1
 have S1:=a1.st
 refine (zdn (zbf O hcall za0).1 (Rm.le (by omega)) pos _ F1 S1 e2 (ks:=[]) (kvs:=[]) (H2:=H2) rfl).use fun τ2 s2 v2 a2 r2=>?_
 obtain ⟨vp,vk⟩:=v2
 obtain ⟨k1,k2⟩:=r2
 rw [List.append_nil] at k1 a2
 cases relK_nil k2
 refine arg1_at (args:=[.obj z]) rfl k1 ?_;rintro v rfl ⟨y,hy,rfl⟩
 have T2:=hT _ _ s2 a2.st
 refine fn_of (K:=KF c.w) (a:=57) T2.X (by kernel_rfl) fun fo cc o vs t h1 h2 h3 h4 h5 h6 h7 h8 h9=>?_
 refine ⟨.inr ⟨57,fo,_,rfl,T2.X _ _ h1,h2⟩,?_⟩
 rw [hpr]
 refine gen_new T2 Rm fun env' G s' M=>?_
 have a12:Aft c σ H2 s τ2 s2:=by
  have:=a1.trans (by rw [List.append_nil];exact a2)
  rwa [List.nil_append] at this
 exact hq τ2 s2 y env' G s' a12 hy M
theorem gen_sfK {w:World} {l:Addr} {s s' s5:Shared} {env:Env} {G:Addr} (M:GMade w l s s' env G) (hk:∀ b o,s'.heap.get? b=some o→s5.heap.get? b=some o) {W:List Addr} (hL:env.locals∈W):SF (gC w s5.heap W) (fnd 7).sc [(key nG,.lit (.ref l))] env [] s5.heap:=by
 have F:=gen_sf M (W:=W) hL
 have F2:=F.keepF (h':=s5.heap) fun b o _ e=>hk b o e
 exact ⟨F2.toFr',F2.scope,F2.inj,F2.outLC,(by show (eras s5.heap W).get? _=none;rw [zbs,if_pos hL]),fun x b _ hx=>(by rw [M.cells] at hx;exact nsf hx),F2.upL⟩
theorem gen_fixK {w:World} {l:Addr} {s s' s5:Shared} {env:Env} {G:Addr} (M:GMade w l s s' env G) (hk:∀ b o,s'.heap.get? b=some o→s5.heap.get? b=some o) (hl:∃ o,s.heap.get? l=some o):GFix s5.heap env l:=by
 have X:=gen_fix M hl
 obtain ⟨o,ho⟩:=X.hL
 obtain ⟨o2,ho2⟩:=X.hl
 exact ⟨⟨o,hk _ _ ho⟩,⟨o2,hk _ _ ho2⟩,X.ne,X.cells,X.co,X.inter⟩
noncomputable def LiI (la:Addr) (xs:List Int) (h:Heap):Prop:=∃ vs:List Value,h.IsList la vs.toArray∧RelL [] (xs.map .int) vs
section
variable {w:World} {s5 s s' s₁:Shared} {envg:Env} {G la:Addr} {gn N k:Nat} {xs:List Int} {Wg:List Addr} {A:Around} {cg:CallT} {gs:GenState}
structure GStart (w:World) (s5:Shared) (envg:Env) (la:Addr) (xs:List Int) (Wg:List Addr) (A:Around):Prop where
 fix:GFix s5.heap envg la
 ok:(gC w s5.heap Wg).Ok
 sf:SF (gC w s5.heap Wg) (fnd 7).sc [(key nG,.lit (.ref la))] envg [] s5.heap
 wl:∀ a∈Wg,∃ o,s5.heap.get? a=some o
 hL:envg.locals∈Wg
 Rm:Room A 4
 h0:∀ r,xs≠0::r
theorem GB.outlast (X:GStart w s5 envg la xs Wg A) {vars:Vars} {I:Addr} {i:Nat} (B:GB w s5.heap Wg envg la xs vars I i s)
  (hk:∀ b o,(b∈Wg→b=envg.locals)→s.heap.get? b=some o→s'.heap.get? b=some o) (ht:∀ b o,s.heap.get? b=some o→∃ o',s'.heap.get? b=some o') (hl:LiI la xs s'.heap):GB w s5.heap Wg envg la xs vars I i s':=by
 refine ⟨B.st.keepOn (fun b o _ e=>?_) (fun a o ha=>nomatch ha) (fun b o e=>?_),B.sf.keepF fun b o hb e=>?_,B.new,?_,hl⟩
 ·refine erask e fun q1 q2=>?_
  exact hk b o (fun q=>absurd q q1) (B.st.base b o (fun q=>nomatch q) e)
 ·obtain ⟨o',e'⟩:=B.st.live b o e
  exact ht b o' e'
 ·rw [fadr_nil X.fix] at hb
  exact hk b o (fun _=>List.mem_singleton.mp hb) e
 ·obtain ⟨o,ho,r⟩:=B.it
  refine ⟨o,hk I o (fun q=>?_) ho,r⟩
  obtain ⟨o',ho'⟩:=X.wl I q
  have:=B.new
  rw [ho'] at this;exact snf this
theorem GAt.outlast (X:GStart w s5 envg la xs Wg A) {g:GSt} {I:Addr} (B:GAt w s5.heap Wg envg la xs g I s)
  (hk:∀ b o,(b∈Wg→b=envg.locals)→s.heap.get? b=some o→s'.heap.get? b=some o) (ht:∀ b o,s.heap.get? b=some o→∃ o',s'.heap.get? b=some o') (hl:LiI la xs s'.heap):GAt w s5.heap Wg envg la xs g I s':=by
 cases g with
 | run r y=>obtain ⟨i,last,h1,B⟩:=B;exact ⟨i,last,h1,B.outlast X hk ht hl⟩
 | loop y=>obtain ⟨i,B⟩:=B;exact ⟨i,B.outlast X hk ht hl⟩
noncomputable def GReady (w:World) (s5:Shared) (envg:Env) (la:Addr) (xs:List Int) (Wg:List Addr) (A:Around) (gn N k:Nat) (gs:GenState) (s:Shared):Prop :=
 gs.bare=true∧∀ s7:Shared,(∀ b o,(b∈Wg→b=envg.locals)→s.heap.get? b=some o→s7.heap.get? b=some o)→(∀ b o,s.heap.get? b=some o→∃ o',s7.heap.get? b=some o')→LiI la xs s7.heap →
  gs.Goes (model PG w) A.in1 (RR s5.heap envg xs N) (YY w s5.heap Wg envg la xs N) (N - k) (.send .none) (s7.setGen gn .running)
theorem GReady.move (R:GReady w s5 envg la xs Wg A gn N k gs s) (hk:∀ b o,(b∈Wg→b=envg.locals)→s.heap.get? b=some o→s'.heap.get? b=some o) (ht:∀ b o,s.heap.get? b=some o→∃ o',s'.heap.get? b=some o'):GReady w s5 envg la xs Wg A gn N k gs s' :=
 ⟨R.1,fun s7 hk7 ht7 hl7=>R.2 s7 (fun b o hb e=>hk7 b o hb (hk b o hb e)) (fun b o e=>let ⟨o',e'⟩:=ht b o e;ht7 b o' e') hl7⟩
theorem gready_start (X:GStart w s5 envg la xs Wg A) (hN:0 < N):GReady w s5 envg la xs Wg A gn N 0 (.fresh (.func (fnd 7).body envg)) s5:=by
 refine ⟨rfl,fun s7 hk ht hl=>?_⟩
 have Sg:St (gC w s5.heap Wg) [] [] (s7.setGen gn .running):=⟨fun b o _ e=>hk b o (fun q=>absurd q (zbq e).1) (zbq e).2,rfl,fun k a o e=>(nomatch e),List.nodup_nil,fun k a e=>(nomatch e),⟨[],rfl⟩,fun k hk=>absurd hk (Nat.not_lt_zero _),fun b o e=>ht b o (zbq e).2,Nat.le_refl _⟩
 have hd:=X.Rm.depth
 have hu:=X.Rm.units
 have hcg:zbx (gC w s5.heap Wg) (zbv G2 [] [] 1) 1:=zb3 (c:=gC w s5.heap Wg) (T:=[]) (TL:=[]) X.ok (noTab _) 1
 rw [Nat.sub_zero]
 refine ⟨rfl,?_⟩
 exact seg_start (N:=N) (A:=A.in1) (s:=s7.setGen gn .running) X.fix X.ok hcg X.Rm.handled (Rm:=⟨X.Rm.handled,by show A.depth + (1 + 1) < recursionLimit;omega,by show A.units + 1 + 8 * (1 + 1) < cLine;omega⟩) hN Sg
  (X.sf.keepF fun b o hb e=>hk b o (fun _=>by rw [fadr_nil X.fix] at hb;exact List.mem_singleton.mp hb) e) hl (fun b o e=>ht b o e) X.h0
theorem nk1 {N k:Nat} (h:k + 1 < N) {Γ:Prop} (κ:∀ m,N - k=m + 1→N - 1 - (m + 1 - 1)=k→N - (k + 1)=m→N - (m + 1)=k→0 < m→Γ):Γ:=by
 obtain ⟨d,rfl⟩:=Nat.exists_eq_add_of_lt h
 rw [Nat.add_right_comm k 1 d] at κ
 exact κ (d + 1) (Nat.add_sub_cancel_left (n:=k) (m:=d + 2)) (Nat.add_sub_cancel (n:=k) (m:=d + 1)) ((Nat.add_sub_add_right (k + d + 1) 1 k).trans (Nat.add_sub_cancel_left (n:=k) (m:=d + 1))) (Nat.add_sub_cancel (n:=k) (m:=d + 2)) (Nat.succ_pos d)
theorem gready_next (X:GStart w s5 envg la xs Wg A) (hk:k + 1 < N) (R:GReady w s5 envg la xs Wg A gn N k gs s) (hnl:s.heap.NoLimit) (hg:s.heap.IsGen G gn) (hgs:s.gens[gn]?=some gs) (hli:LiI la xs s.heap) {Q:Option Value→Shared→Prop} {E:Value→Shared→Prop}
  (hs:∀ g t s₁ gs',gat xs k=some g→Kp s5.heap envg.locals (s.setGen gn .running) s₁→GReady w s5 envg la xs Wg A gn N (k + 1) gs' (s₁.setGen gn gs')→Q (some (.int g.val t)) (s₁.setGen gn gs'))
  (hn:gat xs k=none→∀ s₁ h',Kp s5.heap envg.locals (s.setGen gn .running) s₁→(∀ b o,s₁.heap.get? b=some o→h'.get? b=some o)→Q none { s₁.setGen gn .finished with heap:=h' }):wpAny (model PG w) A (pyNext (.ref G)) Q E s:=by
 refine nk1 hk fun m hm m1 m2 m3 m4=>?_
 have go:=R.2 s (fun _ _ _ e=>e) (fun _ o e=>⟨o,e⟩) hli
 rw [hm] at go
 have hd:=X.Rm.depth
 refine pyNext_genB X.Rm.handled hnl (by omega) hg hgs go (fun v s₁ gs' hb hy=>?_) (fun s₁ hp h' he=>?_)
 ·obtain ⟨I,g,t,hgx,rfl,hkp,hAt,hcont⟩:=hy
  rw [m1] at hgx
  refine hs g t s₁ gs' hgx hkp ⟨hb,fun s7 hk7 ht7 hl7=>?_⟩
  rw [m2]
  exact hcont m4 (s7.setGen gn .running) (hAt.outlast X (s':=s7.setGen gn .running) hk7 ht7 hl7)
 ·obtain ⟨hkp,hend⟩:=hp
  rw [m3] at hend
  exact hn hend s₁ h' hkp he
end
noncomputable section
noncomputable def gnQ (g:GSt):Option GSt:=GSt.rec (motive:=fun _=>Option GSt) (fun r y=>List.rec (motive:=fun _=>Option GSt) none (fun x r' _=>bi (iEq x 127) none (bi (iEq x 0) (some (.loop y)) (some (.run r' x)))) r) (fun y=>some (.loop y)) g
noncomputable def gfQ (xs:List Int):Option GSt:=List.rec (motive:=fun _=>Option GSt) none (fun x r _=>bi (iEq x 127) none (bi (iEq x 0) none (some (.run r x)))) xs
theorem gnQ_eq (g:GSt):gnQ g=gnext g:=by
 cases g with
 | loop y=>rfl
 | run r y =>
  cases r with
  | nil=>rfl
  | cons x r =>
   show bi (iEq x 127) none (bi (iEq x 0) (some (GSt.loop y)) (some (GSt.run r x)))=if x=127 then none else if x=0 then some (.loop y) else some (.run r x)
   rw [zay,zay,iEq_eq,iEq_eq]
   simp -iota only [decide_eq_true_eq]
theorem gfQ_eq (xs:List Int):gfQ xs=gfirst xs:=by
 cases xs with
 | nil=>rfl
 | cons x r =>
  show bi (iEq x 127) none (bi (iEq x 0) none (some (GSt.run r x)))=if x=127 then none else if x=0 then none else some (.run r x)
  rw [zay,zay,iEq_eq,iEq_eq]
  simp -iota only [decide_eq_true_eq]
noncomputable def sameQ (l:List AV):List Int→Bool:=List.rec (motive:=fun _=>List Int→Bool) (fun xs=>List.rec (motive:=fun _=>Bool) true (fun _ _ _=>false) xs)
 (fun a _ ih xs=>List.rec (motive:=fun _=>Bool) false (fun x xs _=>AV.rec (motive:=fun _=>Bool) (fun _=>false) (fun i=>bi (iEq i x) (ih xs) false) (fun _=>false) (fun _=>false) (fun _=>false) a) xs) l
theorem sameQ_ok:∀ {l:List AV} {xs:List Int},sameQ l xs=true→l=xs.map .int
 | [],[],_=>rfl
 | [],x::xs,h=>ftf h
 | a::l,[],h=>ftf h
 | a::l,x::xs,h=>by
  cases a with
  | int i =>
   have h':bi (iEq i x) (sameQ l xs) false=true:=h
   rw [zay] at h'
   by_cases q:iEq i x=true
   ·rw [if_pos q] at h'
    rw [sameQ_ok h',iEq_is q];rfl
   ·rw [if_neg q] at h';exact ftf h'
  | _=>exact ftf h
noncomputable def plQ (H:List AO) (k:Nat):Option (List AV):=o1 (nth H k) fun o=>AO.rec (motive:=fun _=>Option (List AV)) (fun xs=>some xs) (fun _ _ _=>none) (fun _=>none) (fun _ _=>none) (fun _=>none) none o
theorem plQ_is {H:List AO} {k:Nat} {xs:List AV} (h:plQ H k=some xs):H[k]?=some (.list xs):=by
 refine za7 h fun o e h=>?_
 rw [zaw] at e
 rw [e]
 cases o with
 | list l=>obtain rfl:=sj h;rfl
 | _=>exact nsf h
noncomputable def okZ (z n:Nat) (xs:List Int) (H:List AO):Bool:=bi (Nat.beq (lenF H) n) (Option.rec (motive:=fun _=>Bool) false (fun l=>sameQ l xs) (plQ H z)) false
theorem okZ_ok {z n:Nat} {xs:List Int} {H:List AO} (h:okZ z n xs H=true):H.length=n∧H[z]?=some (.list (xs.map .int)):=by
 unfold okZ at h
 rw [zay,zau] at h
 by_cases q:Nat.beq H.length n=true
 ·rw [if_pos q] at h
  refine ⟨Nat.eq_of_beq_eq_true q,?_⟩
  cases e:plQ H z with
  | none=>rw [e] at h;exact ftf h
  | some l =>
   rw [e] at h
   rw [plQ_is e,sameQ_ok h]
 ·rw [if_neg q] at h;exact ftf h
noncomputable def genRun (kx z m:Nat) (xs:List Int) (body:CS) (n:Nat):Option GSt→Vars→List AO→Option (Vars×List AO):=Nat.rec (motive:=fun _=>Option GSt→Vars→List AO→Option (Vars×List AO)) (fun _ _ _=>none)
 (fun _ ih g v H=>Option.rec (motive:=fun _=>Option (Vars×List AO)) (some (v,H)) (fun g=>ox (body (zab kx (.int g.val) v) H) fun fl v2 H2=>bi (okZ z m xs H2) (AFlow.rec (motive:=fun _=>Option (Vars×List AO)) (ih (gnQ g) v2 H2) (some (v2,H2)) (fun _=>none) fl) none) g) n
section
variable {w:World} {hb:Heap} {fx:List Addr} {nf:Nat} {s5 s s' s₁:Shared} {envg env:Env} {L:List Addr} {G la:Addr} {N k z:Nat} {xs:List Int} {Wg σ:List Addr} {A:Around} {gs x:GenState} {g0:Array GenState} {H H':List AO} {sc:Scope} {v v':Vars} {call:CallT} {m:Nat}
structure LoopK (s5:Shared) (g0:Array GenState) (Wg:List Addr) (s:Shared) (gs:GenState):Prop where
 kp:∀ b o,b∉Wg→s5.heap.get? b=some o→s.heap.get? b=some o
 th:∀ b o,s5.heap.get? b=some o→∃ o',s.heap.get? b=some o'
 gn:∃ more,s.gens=g0.push gs++more∧gs.bare=true∧∀ y∈more,y.bare=true
 os:s.os=s5.os
theorem set_push (a:Array GenState) (x y:GenState) (m:Array GenState):(a.push x++m).setIfInBounds a.size y=a.push y++m:=by
 apply Array.ext'
 simp -iota [List.set_append]
theorem get_push (a:Array GenState) (x:GenState) (m:Array GenState):(a.push x++m)[a.size]?=some x:=by
 rw [Array.getElem?_append_left (by simp -iota)];simp -iota
noncomputable abbrev cxP (w:World) (hb:Heap) (fx:List Addr) (nf:Nat):Cx:=⟨PG,w,hb,[],fx,nf,G2⟩
structure GCon (w:World) (hb:Heap) (fx:List Addr) (nf:Nat) (s5:Shared) (envg:Env) (L:List Addr) (G la:Addr) (xs:List Int) (Wg σ:List Addr) (z:Nat) (A:Around) (g0:Array GenState):Prop where
 X:GStart w s5 envg la xs Wg A
 Ok:(cxP w hb fx nf).Ok
 hW:∀ a,a∈σ∨a∈L→a∈Wg
 hne:∀ a,a∈σ∨a∈L→a≠envg.locals
 hbase:∀ b o,hb.get? b=some o→b∉Wg∧∃ o,s5.heap.get? b=some o
 gen:s5.heap.IsGen G g0.size
 hG:G∉Wg
 hz:σ[z]?=some la
theorem LoopK.draw (Cn:GCon w hb fx nf s5 envg L G la xs Wg σ z A g0) {h':Heap} (K:LoopK s5 g0 Wg s gs) (k:Kp s5.heap envg.locals (s.setGen g0.size .running) s₁) (he:∀ b o,s₁.heap.get? b=some o→h'.get? b=some o) (hx:x.bare=true) :
  LoopK s5 g0 Wg { s₁.setGen g0.size x with heap:=h' } x:=by
 obtain ⟨more,gn1,gn2,gn3⟩:=K.gn
 obtain ⟨more2,g1,g2⟩:=k.2.2.1
 refine ⟨fun b o hb e=>he b o (k.1 b o (fun q=>hb (q▸Cn.X.hL)) ⟨o,e⟩ (K.kp b o hb e)),fun b o e=>?_,⟨more++more2,?_,hx,fun y hy=>(Array.mem_append.mp hy).elim (gn3 y) (g2 y)⟩,(show s₁.os=s.os from k.2.2.2).trans K.os⟩
 ·obtain ⟨o',e'⟩:=K.th b o e
  obtain ⟨o2,e2⟩:=k.2.1 b o' ⟨o,e⟩ e'
  exact ⟨o2,he b o2 e2⟩
 ·show s₁.gens.setIfInBounds g0.size x=_
  rw [show s₁.gens=(s.gens.setIfInBounds g0.size .running)++more2 from g1,gn1,set_push,Array.append_assoc,set_push]
theorem cal_draw (Cn:GCon w hb fx nf s5 envg L G la xs Wg σ z A g0) {h':Heap} (S:St (cxP w hb fx nf) σ H s) (k:Kp s5.heap envg.locals (s.setGen g0.size .running) s₁) (he:∀ b o,s₁.heap.get? b=some o→h'.get? b=some o) :
  St (cxP w hb fx nf) σ H { s₁.setGen g0.size x with heap:=h' }∧∀ b o,b∈L→s.heap.get? b=some o→h'.get? b=some o:=by
 have hk:∀ a o,a≠envg.locals→(∃ o',s5.heap.get? a=some o')→s.heap.get? a=some o→h'.get? a=some o:=fun a o h1 h2 e=>he a o (k.1 a o h1 h2 e)
 refine ⟨S.keepOn (fun b o hb e=>?_) (fun a o ha e=>hk a o (Cn.hne a (.inl ha)) (Cn.X.wl a (Cn.hW a (.inl ha))) e) (fun b o e=>?_),fun b o hb e=>hk b o (Cn.hne b (.inr hb)) (Cn.X.wl b (Cn.hW b (.inr hb))) e⟩
 ·obtain ⟨h1,h2⟩:=Cn.hbase b o e
  exact hk b o (fun q=>h1 (q▸Cn.X.hL)) h2 (S.base b o hb e)
 ·obtain ⟨o',e'⟩:=S.live b o e
  obtain ⟨o2,e2⟩:=k.2.1 b o' (Cn.hbase b o e).2 e'
  exact ⟨o2,he b o2 e2⟩
theorem LoopK.moved (Cn:GCon w hb fx nf s5 envg L G la xs Wg σ z A g0) {s7:Shared} (K:LoopK s5 g0 Wg s gs) (kk:∀ b o,b∉σ++L→s.heap.get? b=some o→s7.heap.get? b=some o) (tt:∀ b o,s.heap.get? b=some o→∃ o',s7.heap.get? b=some o') (gg:GMore s.gens s7.gens) (oo:s7.os=s.os) :
  LoopK s5 g0 Wg s7 gs∧(∀ b o,(b∈Wg→b=envg.locals)→s.heap.get? b=some o→s7.heap.get? b=some o):=by
 have nm:∀ b,(b∈Wg→b=envg.locals)→b∉σ++L:=fun b hb q=>by
  rcases List.mem_append.mp q with q | q
  ·exact Cn.hne b (.inl q) (hb (Cn.hW b (.inl q)))
  ·exact Cn.hne b (.inr q) (hb (Cn.hW b (.inr q)))
 refine ⟨⟨fun b o hb e=>kk b o (nm b fun q=>absurd q hb) (K.kp b o hb e),fun b o e=>?_,?_,oo.trans K.os⟩,fun b o hb e=>kk b o (nm b hb) e⟩
 ·obtain ⟨o',e'⟩:=K.th b o e
  exact tt b o' e'
 ·obtain ⟨mo,g1,g2,g3⟩:=K.gn
  obtain ⟨mo2,g4,g5⟩:=gg
  exact ⟨mo++mo2,by rw [g4,g1,Array.append_assoc],g2,fun y hy=>(Array.mem_append.mp hy).elim (g3 y) (g5 y)⟩
theorem LoopK.after (Cn:GCon w hb fx nf s5 envg (fadr env) G la xs Wg σ z A g0) {c:Cx} {s7:Shared} (K:LoopK s5 g0 Wg s gs) (a:AftS c σ H' env s [] s7) :
  LoopK s5 g0 Wg s7 gs∧(∀ b o,(b∈Wg→b=envg.locals)→s.heap.get? b=some o→s7.heap.get? b=some o)∧(∀ b o,s.heap.get? b=some o→∃ o',s7.heap.get? b=some o'):=by
 obtain ⟨h1,h2⟩:=K.moved Cn (fun b o hb e=>a.pres.keep b o hb e) a.pres.there a.pres.gens a.pres.os
 exact ⟨h1,h2,a.pres.there⟩
theorem LoopK.isgen (Cn:GCon w hb fx nf s5 envg L G la xs Wg σ z A g0) (K:LoopK s5 g0 Wg s gs):s.heap.IsGen G g0.size:=by
 obtain ⟨o,nm,qn,ho,r⟩:=Cn.gen
 exact ⟨o,nm,qn,K.kp G o Cn.hG ho,r⟩
theorem cal_li (Cn:GCon w hb fx nf s5 envg L G la xs Wg σ z A g0) (S:St (cxP w hb fx nf) σ H s) (hz:H[z]?=some (.list (xs.map .int))):LiI la xs s.heap:=by
 obtain ⟨vs,n,e,r,_⟩:=S.objs _ la _ Cn.hz hz
 refine ⟨vs,⟨_,e,rfl,n,rfl⟩,zbn (σ:=[]) (τ:=σ) ?_ r⟩
 unfold zb1
 rw [List.all_eq_true]
 intro y hy
 obtain ⟨z,_,rfl⟩:=List.mem_map.mp hy
 rfl
theorem aftS_nil {c:Cx} {H':List AO} {τ:List Addr} {s7:Shared} (a:AftS c σ H' env s τ s7) (hl:H'.length=σ.length):τ=[]:=by
 have:=a.st.len
 rw [List.length_append,hl] at this
 exact List.length_eq_zero_iff.mp (Nat.add_eq_left.mp this)
noncomputable def FoInv (w:World) (hb:Heap) (fx:List Addr) (nf:Nat) (s5:Shared) (envg env:Env) (la:Addr) (xs:List Int) (Wg σ:List Addr) (z:Nat) (A:Around) (g0:Array GenState) (sc:Scope) (kx:Nat) (body:CS) (N:Nat) (v':Vars) (H':List AO) (n:Nat) (s:Shared):Prop :=
 ∃ j v H gs,j + n + 1≤N∧genRun kx z σ.length xs body n (gat xs j) v H=some (v',H')∧St (cxP w hb fx nf) σ H s∧SF (cxP w hb fx nf) sc v env σ s.heap∧LoopK s5 g0 Wg s gs∧GReady w s5 envg la xs Wg A g0.size N j gs s∧H[z]?=some (.list (xs.map .int))
theorem gen_loop (Cn:GCon w hb fx nf s5 envg (fadr env) G la xs Wg σ z A g0) (hcall:zbx (cxP w hb fx nf) call m) (Rm:Room A m) {x:Str} {p:Pos} {kx:Nat} {l:List Stmt} {body:CS} (hst:∀ i v,st1 sc x (.int i) v=some (zab kx (.int i) v)) (hbody:RSs G2 call sc za0 l body)
  {R:Result→Shared→Prop} {n:Nat} (S5:St (cxP w hb fx nf) σ H s5) (F5:SF (cxP w hb fx nf) sc v env σ s5.heap) (hg5:s5.gens=g0.push (.fresh (.func (fnd 7).body envg))) (hz5:H[z]?=some (.list (xs.map .int)))
  (hrun:genRun kx z σ.length xs body n (gfirst xs) v H=some (v',H')) (hR:∀ s' gs,St (cxP w hb fx nf) σ H' s'→SF (cxP w hb fx nf) sc v' env σ s'.heap→LoopK s5 g0 Wg s' gs→R (.ok .next) s') :
  codeAny (model PG w) A (.forLoop (.Name x p) (.ref G) l [] env) R s5:=by
 refine codeAny_forLoop (FoInv w hb fx nf s5 envg env la xs Wg σ z A g0 sc kx body (n + 1) v' H') ?_ n ?_ (fun v=>rfl)
 ·rintro k s ⟨j,v,H,gs,hjN,hrun,S,F,K,Rd,hz⟩
  cases k with
  | zero=>exact nsf hrun
  | succ k =>
   obtain ⟨more,gn1,_⟩:=K.gn
   refine gready_next Cn.X (by omega) Rd (S.nolim Cn.Ok) (K.isgen Cn) (by rw [gn1];exact get_push _ _ _) (cal_li Cn S hz) (fun g t s₁ gs' hgx hkp hrd=>?_) (fun hgx s₁ h' hkp he=>?_)
   ·rw [hgx] at hrun
    refine ox_some (show ox (body (zab kx (.int g.val) v) H) (fun fl v2 H2=>bi (okZ z σ.length xs H2) (AFlow.rec (motive:=fun _=>Option (Vars×List AO)) (genRun kx z σ.length xs body k (gnQ g) v2 H2) (some (v2,H2)) (fun _=>none) fl) none)=some (v',H') from hrun) fun fl v2 H2 e1 h2=>?_
    rw [zay] at h2
    refine ifsk h2 fun q h2=>?_
    obtain ⟨hlen,hz2⟩:=okZ_ok q
    obtain ⟨S1,kL⟩:=cal_draw (x:=gs') Cn S hkp (fun _ _ e=>e)
    have F1:=F.keepF (h':=s₁.heap) kL
    have K1:=K.draw Cn hkp (fun _ _ e=>e) hrd.1
    refine wpAny_assign_Name (zca (s:=s₁.setGen g0.size gs') F1 S1 (av:=.int g.val) ⟨t,rfl⟩ (hst _ _) fun s6 a6 F6=>?_)
    have S6:=a6.st
    rw [List.append_nil] at S6
    refine (zcw (zbz Cn.Ok hcall za0) Rm l F6 S6 (hbody _ _ _ e1)).use fun τ s7 fl' a7 F7 r7=>?_
    cases aftS_nil a7 hlen
    have a67:=a6.trans (by rw [List.append_nil];exact a7)
    rw [List.append_nil] at a67 F7
    obtain ⟨K7,kk,tt⟩:=K1.after Cn a67
    have S7:=a67.st
    rw [List.append_nil] at S7
    cases r7 with
    | next =>
     refine ⟨k,Nat.lt_succ_self k,j + 1,v2,H2,gs',by omega,?_,S7,F7,K7,hrd.move kk tt,hz2⟩
     have:gat xs (j + 1)=gnQ g:=by
      show (gat xs j).bind gnext=_
      rw [hgx,gnQ_eq];rfl
     rw [this]
     exact h2
    | brk =>
     refine opjk h2 ?_;rintro rfl rfl
     exact hR s7 gs' S7 F7 K7
    | ret rr=>exact nsf h2
   ·rw [hgx] at hrun
    refine opjk (show some (v,H)=some (v',H') from hrun) ?_;rintro rfl rfl
    obtain ⟨S1,kL⟩:=cal_draw (x:=.finished) Cn S hkp he
    have F1:=F.keepF (h':=h') kL
    exact wpAny_execs_nil (hR _ .finished S1 F1 (K.draw Cn hkp he rfl))
 ·refine ⟨0,v,H,_,by omega,hrun,S5,F5,⟨fun _ _ _ e=>e,fun _ o e=>⟨o,e⟩,⟨#[],by rw [hg5,Array.append_empty],rfl,fun _ h=>nomatch h⟩,rfl⟩,gready_start Cn.X (Nat.succ_pos n),hz5⟩
end
end
noncomputable def c_marksB (disp:CallT):{ f:CS // ∀ call,zbo call disp→BltOk call→RSs G2 call (fnd 17).sc za0 (ifB (za6 1 (fnd 17).body)) f }:=by
 refine' ⟨_,fun call D B=>?h⟩
 case h =>
  unfold za0
  conv in (fnd 17).sc=>whnf
  conv in ifB (za6 1 (fnd 17).body)=>whnf
  repeat' (first
   | with_reducible exact RSs_nil
   | with_reducible refine' zco ?_
   | with_reducible refine' zce ?_ ?_
   | ((with_reducible refine' RS_as ?k ?a ?_);(case k=>with_reducible first | exact hk_mark | exact hk_marks | exact zd6 | exact zb7);(case a=>decide +kernel))
   | with_reducible refine' RS_expr ?_
   | with_reducible exact RS_brk
   | with_reducible refine' RS_if ?_ ?_ ?_
   | ((with_reducible refine' RB_cmp ?a ?_ ?_);(case a=>rfl))
   | with_reducible exact zd5
   | ((with_reducible refine' zbi ?k ?a ?b);(case k=>with_reducible first | exact hk_mark | exact hk_marks | exact zd6 | exact zb7);(case a=>decide +kernel);(case b=>decide +kernel))
   | with_reducible refine' RE_add ?_ ?_
   | ((with_reducible refine' RE_methQ mApp_ok ?a ?_ ?_);(case a=>decide +kernel))
   | with_reducible exact zb6
   | ((with_reducible refine' zas ?a ?_ ?_);(case a=>rfl))
   | with_reducible refine' zcp ?_)
noncomputable def c_marksT (disp:CallT):{ f:CS // ∀ call,zbo call disp→BltOk call→RSs G2 call (fnd 17).sc za0 ((fnd 17).body.drop 2) f }:=by
 refine' ⟨_,fun call D B=>?h⟩
 case h =>
  unfold za0
  conv in (fnd 17).sc=>whnf
  conv in (fnd 17).body.drop 2=>whnf
  repeat' (first
   | with_reducible refine' zco ?_
   | with_reducible refine' RS_ret ?_
   | ((with_reducible refine' zbi ?k ?a ?b);(case k=>with_reducible first | exact hk_mark | exact hk_marks | exact zd6 | exact zb7);(case a=>decide +kernel);(case b=>decide +kernel))
   | with_reducible refine' zcp ?_)
noncomputable def c_countsH (disp:CallT):{ f:CS // ∀ call,zbo call disp→BltOk call→RSs G2 call (fnd 21).sc za0 ([za6 0 (fnd 21).body]) f }:=by
 refine' ⟨_,fun call D B=>?h⟩
 case h =>
  unfold za0
  conv in (fnd 21).sc=>whnf
  conv in za6 0 (fnd 21).body=>whnf
  repeat' (first
   | with_reducible refine' zco ?_
   | ((with_reducible refine' RS_as ?k ?a ?_);(case k=>with_reducible first | exact hk_below | exact zcn | exact zbc | exact hk_k | exact hk_key | exact zcc | exact zbg | exact zcg | exact hk_turns | exact hk_upto);(case a=>decide +kernel))
   | ((with_reducible refine' zbi ?k ?a ?b);(case k=>with_reducible first | exact hk_below | exact zcn | exact zbc | exact hk_k | exact hk_key | exact zcc | exact zbg | exact zcg | exact hk_turns | exact hk_upto);(case a=>decide +kernel);(case b=>decide +kernel))
   | ((with_reducible refine' zcz ?a ?b ?c);(case a=>decide +kernel);(case b=>decide +kernel);(case c=>with_reducible first | exact zcb | exact zcv | exact g_len | exact g_min | exact zch | exact g_list))
   | ((with_reducible refine' RE_len ?a ?b ?c ?d ?_);(case a=>assumption);(case b=>decide +kernel);(case c=>exact g_len);(case d=>rfl))
   | ((with_reducible refine' RE_range ?a ?b ?c ?d ?_);(case a=>assumption);(case b=>decide +kernel);(case c=>exact zch);(case d=>rfl))
   | ((with_reducible refine' zcr ?a ?_ ?_ ?_);(case a=>assumption))
   | with_reducible exact zb6
   | ((with_reducible refine' zas ?a ?_ ?_);(case a=>rfl))
   | with_reducible exact zcq
   | with_reducible refine' zcp ?_)
noncomputable section
noncomputable def no0 (xs:List Int):Bool:=List.rec (motive:=fun _=>Bool) true (fun x _ _=>bi (iEq x 0) false true) xs
theorem no0_ok {xs:List Int} (h:no0 xs=true):∀ r,xs≠0::r:=fun r q=>by
 subst q;exact ftf h
noncomputable def mkV (z k:Nat):Vars:=[(zcs,.obj z),(zbk,.obj k),(zcy,.int 0)]
noncomputable def avI (l:List Int):List AV:=List.rec (motive:=fun _=>List AV) [] (fun x _ ih=>.int x::ih) l
theorem avI_eq:∀ l:List Int,avI l=l.map .int
 | []=>rfl
 | x::l=>congrArg (AV.int x::·) (avI_eq l)
noncomputable def markGo (n:Nat):Option GSt→Int→List Int→Option (List Int):=Nat.rec (motive:=fun _=>Option GSt→Int→List Int→Option (List Int)) (fun _ _ _=>none)
 (fun _ ih g mark ms=>Option.rec (motive:=fun _=>Option (List Int)) (some ms) (fun g=>bi (iLt 13 (Int.add mark g.val)) (some ms) (ih (gnQ g) (Int.add mark g.val) (appF ms [Int.add mark g.val]))) g) n
noncomputable def mkB:CS:=zcx (cAs zcy (zbh gAdd (za8 zcy) (za8 zdw))) (zcx (cIf (zdv (gOf CmpOp.Gt) (za8 zcy) (za1 (AV.int 13))) cBrk cSkip) (cExpr (cMethQ (za8 zbk) mApp (zaa (za8 zcy) zcd))))
theorem c_marksB_eq:(c_marksB dB).1=mkB:=by unfold c_marksB;rfl
theorem gtI (x y:Int) (H:List AO):gOf .Gt (.int x) (.int y) H=some (iLt y x):=by
 rw [gOf_ok]
 show two (asInt (.int x)) (asInt (.int y)) (fun a b=>decide (b < a))=_
 rw [iLt_eq];rfl
theorem mk_turn {k:Nat} {mark sz:Int} {ms:List Int} {v:Vars} {H:List AO} (hk:k=H.length) (vm:za2 zbk v=some (.obj k)) (vk:za2 zcy v=some (.int mark)) (hl:ms.length < 1000) :
  (iLt 13 (mark + sz)=true→∃ v',mkB (zab zdw (.int sz) v) (H++[.list (ms.map .int)])=some (.brk,v',H++[.list (ms.map .int)])∧za2 zbk v'=some (.obj k)) ∧
  (iLt 13 (mark + sz)=false→∃ v',mkB (zab zdw (.int sz) v) (H++[.list (ms.map .int)])=some (.next,v',H++[.list ((ms++[mark + sz]).map .int)])∧za2 zbk v'=some (.obj k)∧za2 zcy v'=some (.int (mark + sz))):=by
 subst hk
 generalize hv:zab zdw (.int sz) v=v1
 have m1:za2 zbk v1=some (.obj H.length):=by rw [← hv];exact zac (by decide +kernel) vm
 have k1:za2 zcy v1=some (.int mark):=by rw [← hv];exact zac (by decide +kernel) vk
 have s1:za2 zdw v1=some (.int sz):=by rw [← hv];exact zaz
 generalize hHH:H++[AO.list (ms.map .int)]=HH
 have e1:cAs zcy (zbh gAdd (za8 zcy) (za8 zdw)) v1 HH=some (.next,zab zcy (.int (mark + sz)) v1,HH):=as_s (zb2 (za5 k1 HH) (za5 s1 HH) rfl)
 generalize hv2:zab zcy (.int (mark + sz)) v1=v2 at e1
 have m2:za2 zbk v2=some (.obj H.length):=by rw [← hv2];exact zac (by decide +kernel) m1
 have k2:za2 zcy v2=some (.int (mark + sz)):=by rw [← hv2];exact zaz
 have t:=zdj (za5 k2 HH) (za9 (.int 13) v2 HH) (gtI _ _ HH)
 have hl0:lof HH H.length=some (ms.map .int):=by rw [← hHH];exact zdz _ _
 refine ⟨fun q=>?_,fun q=>?_⟩
 ·rw [q] at t
  refine ⟨v2,?_,m2⟩
  unfold mkB
  rw [zb5 e1]
  have:cIf (zdv (gOf CmpOp.Gt) (za8 zcy) (za1 (AV.int 13))) cBrk cSkip v2 HH=some (.brk,v2,HH):=(if_s t).trans rfl
  unfold zcx
  rw [this]
  show force HH _=_
  rw [zbl]
 ·rw [q] at t
  refine ⟨v2,?_,m2,k2⟩
  unfold mkB
  have e2:cIf (zdv (gOf CmpOp.Gt) (za8 zcy) (za1 (AV.int 13))) cBrk cSkip v2 HH=some (.next,v2,HH):=(if_s t).trans rfl
  rw [zb5 e1,zb5 e2]
  have m:cMethQ (za8 zbk) mApp (zaa (za8 zcy) zcd) v2 HH=some (.lit .none,setF HH (.list (appF (ms.map .int) [.int (mark + sz)])) H.length):=by
   unfold cMethQ
   rw [za5 m2 HH,zdg]
   have hs:selfF (.obj H.length) HH=true:=by
    show Option.rec (motive:=fun _=>Bool) false (fun _=>true) (lof HH H.length)=true
    rw [hl0]
   rw [hs,bi_t,zad (za5 k2 HH) (zc8 _ _),zdg]
   show o1 (lof HH H.length) (fun l=>bi (Nat.ble (Nat.succ (lenF l)) 1048576) (some (AV.lit Value.none,setF HH (.list (appF l [.int (mark + sz)])) H.length)) none)=_
   rw [hl0,ze7,zau,Nat.ble_eq.mpr (by rw [List.length_map];omega),bi_t]
  unfold cExpr
  rw [m,zdg]
  show forceH _ _=_
  rw [forceH_eq,zc3,setF_eq,← hHH,List.set_append_right _ _ (Nat.le_refl _),Nat.sub_self]
  show some (AFlow.next,v2,H++[AO.list (ms.map .int++[.int (mark + sz)])])=_
  rw [List.map_append];rfl
theorem sameQ_self:∀ xs:List Int,sameQ (xs.map .int) xs=true
 | []=>rfl
 | x::xs=>by
  show bi (iEq x x) (sameQ (xs.map .int) xs) false=true
  rw [iEq_self,bi_t,sameQ_self xs]
theorem okZ_s {z n:Nat} {xs:List Int} {H:List AO} (h1:H.length=n) (h2:H[z]?=some (.list (xs.map .int))):okZ z n xs H=true:=by
 unfold okZ
 rw [zau,h1,Nat.beq_refl,bi_t]
 have:plQ H z=some (xs.map .int):=by
  unfold plQ
  rw [zaw,h2];rfl
 rw [this];exact sameQ_self xs
theorem mark_run {z:Nat} {xs:List Int} {H:List AO} (hz:H[z]?=some (.list (xs.map .int))):∀ (n:Nat) (g:Option GSt) (mark:Int) (ms ms':List Int) (v:Vars),markGo n g mark ms=some ms'→za2 zbk v=some (.obj H.length)→za2 zcy v=some (.int mark)→ms.length + n < 1000 →
  ∃ v',genRun zdw z (H.length + 1) xs (c_marksB dB).1 n g v (H++[.list (ms.map .int)])=some (v',H++[.list (ms'.map .int)])∧za2 zbk v'=some (.obj H.length):=by
 intro n
 induction n with
 | zero=>intro g mark ms ms' v h;exact nsf h
 | succ n ih =>
  intro g mark ms ms' v h vm vk hl
  cases g with
  | none =>
   obtain rfl:=sj (show some ms=some ms' from h)
   exact ⟨v,rfl,vm⟩
  | some g =>
   have h':bi (iLt 13 (mark + g.val)) (some ms) (markGo n (gnQ g) (mark + g.val) (appF ms [mark + g.val]))=some ms':=h
   obtain ⟨hb,hn⟩:=mk_turn (k:=H.length) (mark:=mark) (sz:=g.val) (ms:=ms) rfl vm vk (by omega)
   have hzl:z < H.length:=(List.getElem?_eq_some_iff.mp hz).1
   have hz':∀ l:List AV,(H++[AO.list l])[z]?=some (.list (xs.map .int)):=fun l=>by rw [List.getElem?_append_left hzl];exact hz
   have hl':∀ l:List AV,(H++[AO.list l]).length=H.length + 1:=fun l=>by rw [List.length_append];rfl
   show ∃ v',ox ((c_marksB dB).1 (zab zdw (.int g.val) v) (H++[.list (ms.map .int)])) (fun fl v2 H2=>bi (okZ z (H.length + 1) xs H2) (AFlow.rec (motive:=fun _=>Option (Vars×List AO)) (genRun zdw z (H.length + 1) xs (c_marksB dB).1 n (gnQ g) v2 H2) (some (v2,H2)) (fun _=>none) fl) none)=_∧_
   rw [c_marksB_eq] at ih ⊢
   cases q:iLt 13 (mark + g.val) with
   | true =>
    rw [q,bi_t] at h'
    obtain rfl:=sj h'
    obtain ⟨v',e,e2⟩:=hb q
    refine ⟨v',?_,e2⟩
    rw [e,ox_s,okZ_s (hl' _) (hz' _),bi_t]
   | false =>
    rw [q,bi_f,zc3] at h'
    obtain ⟨v2,e,e2,e3⟩:=hn q
    obtain ⟨v',f1,f2⟩:=ih (gnQ g) (mark + g.val) (ms++[mark + g.val]) ms' v2 h' e2 e3 (by rw [List.length_append];simp -iota;omega)
    refine ⟨v',?_,f2⟩
    rw [e,ox_s,okZ_s (hl' _) (hz' _),bi_t]
    exact f1
theorem c_marksT_eq:(c_marksT dB).1=cRet (za8 zbk):=by unfold c_marksT;rfl
noncomputable def marksV (z:Nat) (H:List AO):Option (AV×List AO):=o1 (plQ H z) fun l=>o1 (natsQ l) fun xs=>bi (no0 xs) (o1 (markGo 16 (gfQ xs) 0 []) fun ms=>some (.obj (lenF H),appF H [.list (avI ms)])) none
noncomputable def marksF (args:List AV) (H:List AO):Option (AV×List AO):=cO args fun z l=>onNil l (marksV z H)
theorem marksF_ok {args:List AV} {H H':List AO} {r:AV} (h:marksF args H=some (r,H')) {Γ:Prop} (κ:∀ z xs v1 H1 v2,args=[.obj z]→H[z]?=some (.list (xs.map .int))→((∀ r,xs≠0::r))→genRun zdw z (H.length + 1) xs (c_marksB dB).1 16 (gfirst xs) (mkV z H.length) (H++[.list []])=some (v1,H1)→(c_marksT dB).1 v1 H1=some (.ret r,v2,H')→Γ):Γ:=by
 refine cO_some h ?_;rintro z _ rfl h1
 refine zdf h1 ?_;rintro rfl h2
 replace h:=h2
 refine za7 h fun l e1 h=>?_
 refine za7 h fun xs e2 h=>?_
 rw [zay] at h
 refine ifsk h fun q h=>?_
 refine za7 h fun ms e3 h=>?_
 rw [zau,zc3,avI_eq] at h
 refine opjk h ?_;rintro rfl rfl
 have hz:H[z]?=some (.list (xs.map .int)):=by rw [plQ_is e1,natsQ_is e2]
 obtain ⟨v1,f1,f2⟩:=mark_run hz 16 (gfQ xs) 0 [] ms (mkV z H.length) e3 (by kernel_rfl) (by kernel_rfl) (by decide)
 rw [gfQ_eq] at f1
 exact κ z xs v1 _ _ rfl hz (no0_ok q) f1 (by rw [c_marksT_eq];exact ret_s (za5 f2 _))
theorem gmore_push {a:Array GenState} {gs:GenState} {more:Array GenState} (h1:gs.bare=true) (h2:∀ y∈more,y.bare=true):GMore a (a.push gs++more):=by
 refine ⟨#[gs]++more,by simp -iota,fun y hy=>?_⟩
 rcases Array.mem_append.mp hy with q | q
 ·simp -iota at q;subst q;exact h1
 ·exact h2 y q
noncomputable def mkS (k:Nat):Stmt:=za6 k (fnd 17).body
noncomputable def nSize:Str:="size"
noncomputable def nGI:Str:="_grouping_intervals"
theorem marks_body:(fnd 17).body=[mkS 0,.For (.Name nSize (nmP (forT (mkS 1)))) (.Call (.Name nGI (cP (forI (mkS 1)))) (cA (forI (mkS 1))) [] (cQ (forI (mkS 1)))) (ifB (mkS 1)) [] (stQ (mkS 1)),mkS 2]:=by kernel_rfl
noncomputable def cM:CallT:=zbv G2 [] [] 1
theorem marks_pre (z:Nat) (H:List AO):exLGo (exS G2 cM za0 (fnd 17).sc) [mkS 0] [(key "sizes",.obj z)] H=some (.next,[(key "sizes",.obj z),(key "marks",.obj H.length),(key "mark",.int 0)],H++[.list []]):=by kernel_rfl
theorem marks_callee {v:Vars} {H:List AO}:ev G2 cM za0 (fnd 17).sc v (.Name nGI (cP (forI (mkS 1)))) H=some (.lit (.ref 57),H):=by kernel_rfl
theorem marks_args {z k:Nat} {H:List AO}:evs (ev G2 cM za0 (fnd 17).sc [(key "sizes",.obj z),(key "marks",.obj k),(key "mark",.int 0)]) (cA (forI (mkS 1))) H=some ([.obj z],H):=by kernel_rfl
theorem marks_binds (z:Nat):(fnd 17).binds [.obj z] []=some [(key "sizes",.obj z)]:=by kernel_rfl
theorem marks_st (i:Int) (v:Vars):st1 (fnd 17).sc nSize (.int i) v=some (zab zdw (.int i) v):=by
 have h:stOk (fnd 17).sc nSize=true:=by decide +kernel
 have hk:key nSize=zdw:=zd6
 obtain ⟨h1,h2⟩:=stOk_st h
 unfold st1
 rw [if_neg h1,setV2_eq,← hk]
 rcases h2 with q | q<;>rw [q]
theorem marks_nat {w:World} {h:Heap} {mg mb:Str→Option Value} {fx:List Addr} (T:TopAt w h mg mb):NatOk (cxP w h fx 0) 90 6 marksF:=by
 have O':TopOut w mg []:=zam
 have Ok:(cxP w h fx 0).Ok:=cx_ok T.X T.Ng T.Nb T.hb T.nl O'.g O'.b O'.s
 have U:UPlain (cxP w h fx 0) (fnd 17) 90 (zdi (KF w) 90):=u_marks (c:=cxP w h fx 0) T.X O'.K
 obtain ⟨fo0,hob1,hob2⟩:=U.obj
 refine ⟨⟨fo0,_,hob1,U.out,hob2⟩,?_⟩
 intro A σ H s args vvs r H' Rm S ra e
 refine marksF_ok e ?_;rintro z xs v1 H1 v2 rfl hz hx0 hrun hret
 obtain ⟨avs,vs,hb,hvars,rv,hlv⟩:=U.binds s σ _ [] _ vvs [] S.base ra trivial (marks_binds z)
 refine U.toUBase.rec_ S fun fo ho hd hcd=>?_
 have hlen:=rv.length
 have hnod:=ze4 U.nd (vs:=vs) (by omega)
 intro Q E hq
 refine wpAny_call (codeAny_call_def (by have:=Rm.depth;omega) ho hd (S.nolim Ok) hcd U.body hb (by rw [U.scope];exact U.nocell) (fun x hx=>by rw [U.scope];exact U.loc x.1 (List.of_mem_zip hx).1) (fun h₀ hns hk=>?_) (by rw [U.scope];exact U.co) (by rw [U.scope];exact U.gen) (by rw [U.scope];exact U.kind))
 generalize hL:s.heap.objs.size=L at hns
 have hLn:s.heap.get? L=none:=by rw [← hL];exact get?_size _
 have hsc:(callEnv (zdi (KF w) 90) L 90).scope=(fnd 17).sc:=U.scope
 have hcells:(callEnv (zdi (KF w) 90) L 90).cells=[]:=U.clo
 have hloc:(callEnv (zdi (KF w) 90) L 90).locals=L:=rfl
 have hks:∀ x,(callEnv (zdi (KF w) 90) L 90).kindOf x=(fnd 17).sc.names.lookup x:=fun x=>by unfold Env.kindOf;rw [hsc]
 obtain ⟨hL1,hL2⟩:=fresh_of S hLn
 have S1:St (cxP w h fx 0) σ H { s with heap:=h₀,toks:=s.toks + ((fnd 17).names.zip vs).length }:=S.keep hk
 have Fr:SF (cxP w h fx 0) (fnd 17).sc [(key "sizes",.obj z)] (callEnv (zdi (KF w) 90) L 90) σ h₀:=by
  rw [hvars]
  refine ⟨⟨⟨by rw [hsc];exact U.kind,U.glob,U.blt,fun x hx=>(hks x).trans hx,fun x av hx hv=>?_,⟨_,hns⟩,hL2,fun x b hx=>(by rw [hcells] at hx;exact nsf hx),?_⟩,fun x b hx=>(by rw [hcells] at hx;exact nsf hx),fun x hx=>?_,fun x hx=>by rw [hks];exact hx⟩,
   ScR.rfl' hsc,fun x y b hx=>(by rw [hcells] at hx;exact nsf hx),fun x b hx=>(by rw [hcells] at hx;exact nsf hx),hL1,fun x b _ hx=>(by rw [hcells] at hx;exact nsf hx),fun b hb=>(by unfold fcells at hb;rw [hcells] at hb;cases hb)⟩
  ·obtain ⟨v,h1,h2,h3⟩:=zdy hx rv
   exact .inl ⟨(hks x).trans (U.loc x h3),_,v,hns,by rw [ze5 hnod];exact h1,h2⟩
  ·cases q:look (key ".0") (((fnd 17).names.map key).zip avs) with
   | none=>rfl
   | some w=>obtain ⟨_,_,_,h3⟩:=zdy q rv;exact absurd h3 U.nodot
  ·rcases hx with q | q
   ·exact absurd rfl (U.nocell _ (zag q))
   ·exact absurd rfl (U.nofree _ (zag q))
 have hfr:∀ b∈fadr (callEnv (zdi (KF w) 90) L 90),s.heap.get? b=none:=fun b hb=>by
  rcases List.mem_cons.mp hb with q | q
  ·rw [q];exact hLn
  ·unfold fcells at q;rw [hcells] at q;cases q
 generalize callEnv (zdi (KF w) 90) L 90=env at *
 generalize hs1:({ s with heap:=h₀,toks:=s.toks + ((fnd 17).names.zip vs).length }:Shared)=s1 at S1
 have hs1h:s1.heap=h₀:=by rw [← hs1]
 rw [← hs1h] at Fr
 have hcd':zbx (cxP w h fx 0) cM 1:=zb3 (c:=cxP w h fx 0) (T:=[]) (TL:=[]) Ok (noTab _) 1
 have Rm1:Room (A.deeper env) 5:=Rm.deeper env
 rw [marks_body]
 refine zdt (c:=cxP w h fx 0) (l2:=[.For (.Name nSize (nmP (forT (mkS 1)))) (.Call (.Name nGI (cP (forI (mkS 1)))) (cA (forI (mkS 1))) [] (cQ (forI (mkS 1)))) (ifB (mkS 1)) [] (stQ (mkS 1)),mkS 2])
  (zbz Ok hcd' za0) (Rm1.le (by decide)) [mkS 0] Fr S1 (marks_pre z H) fun τ s2 a2 F2=>?_
 have S2:=a2.st
 have topd:∀ (σ':List Addr) (H':List AO) (s':Shared),St (cxP w h fx 0) σ' H' s'→TopAt w s'.heap mg mb:=fun σ' H' s' S'=>T.keep O' S'.base
 refine wpAny_execs_cons (wpAny_For (gen_call (c:=cxP w h fx 0) (mg:=mg) (mb:=mb) rfl Ok hcd' (Rm1.le (by decide)) F2.toFr' S2 topd marks_callee marks_args fun τ3 s3 la envg G s4 a3 hla M=>?_) (fun x=>rfl))
 have hτ3:τ3=[]:=by
  have:=a3.st.len
  rw [List.length_append,S2.len] at this
  exact List.length_eq_zero_iff.mp (by omega)
 subst hτ3
 rw [List.append_nil] at hla
 have S3:St (cxP w h fx 0) (σ++τ) (H++[.list []]) s3:=by have:=a3.st;rwa [List.append_nil] at this
 have F3:SF (cxP w h fx 0) (fnd 17).sc [(key "sizes",.obj z),(key "marks",.obj H.length),(key "mark",.int 0)] env (σ++τ) s3.heap:=by have:=F2.aft a3;rwa [List.append_nil] at this
 have S4:St (cxP w h fx 0) (σ++τ) (H++[.list []]) s4:=S3.keep M.keep
 have F4:SF (cxP w h fx 0) (fnd 17).sc [(key "sizes",.obj z),(key "marks",.obj H.length),(key "mark",.int 0)] env (σ++τ) s4.heap:=F3.keepF fun b o _ e=>M.keep b o e
 have there3:∀ a,a∈σ++τ∨a∈fadr env→∃ o,s3.heap.get? a=some o:=fun a ha=>ha.elim (fun q=>S3.there q) (fun q=>F3.there q)
 have Lg:∀ {a:Addr},(∃ o,s3.heap.get? a=some o)→a≠envg.locals:=fun {a} ⟨o,ho⟩ q=>by
  have:=M.newL
  rw [← q,ho] at this;exact snf this
 generalize hWg:(σ++τ)++fadr env++[envg.locals]=Wg
 have mWg:∀ a,a∈Wg ↔ (a∈σ++τ∨a∈fadr env)∨a=envg.locals:=fun a=>by rw [← hWg,List.mem_append,List.mem_append,List.mem_singleton]
 have hcb:∀ {b:Addr} {o:Obj},h.get? b=some o→b∉Wg:=fun {b o} e q=>by
  rcases (mWg b).mp q with (q | q) | q
  ·obtain ⟨k,hk⟩:=List.mem_iff_getElem?.mp q
   rcases S3.fresh k b hk (Nat.zero_le _) with z | z
   ·rw [show (cxP w h fx 0).hb.get? b=some o from e] at z;exact snf z
   ·exact (nomatch z)
  ·rcases List.mem_cons.mp q with q | q
   ·have:=F3.newL
    rw [← q] at this
    rw [show (cxP w h fx 0).hb.get? b=some o from e] at this;exact snf this
   ·unfold fcells at q;rw [hcells] at q;cases q
  ·exact Lg ⟨o,S3.base b o (fun z=>nomatch z) e⟩ q
 have OWg:TopOut w mg Wg:=TopOut.fresh T O' fun a ha=>.inl (by
  cases q:h.get? a with
  | none=>rfl
  | some o=>exact absurd ha (hcb q))
 have Tg:TopAt w (eras s4.heap Wg) mg mb:=(topd _ _ _ S4).keep OWg fun b o hb e=>zd7 hb e
 have Okg:(gC w s4.heap Wg).Ok:=cx_ok Tg.X Tg.Ng Tg.Nb Tg.hb Tg.nl O'.g O'.b O'.s
 have X:GStart w s4 envg la xs Wg (A.deeper env):=⟨gen_fixK M (fun _ _ e=>e) (there3 la (.inl (List.mem_of_getElem? hla))),Okg,gen_sfK M (fun _ _ e=>e) ((mWg _).mpr (.inr rfl)),fun a ha=>by
   rcases (mWg a).mp ha with q | q
   ·obtain ⟨o,e⟩:=there3 a q
    exact ⟨o,M.keep a o e⟩
   ·subst q
    obtain ⟨o,es,ep,ho,_⟩:=M.ns
    exact ⟨o,ho⟩,(mWg _).mpr (.inr rfl),Rm1.le (by decide),hx0⟩
 have hGn:∀ {a:Addr},(∃ o,s3.heap.get? a=some o)→G≠a:=fun {a} ⟨o,ho⟩ q=>by
  have:=M.newG
  rw [q,ho] at this;exact snf this
 have hGg:G≠envg.locals:=fun q=>by
  obtain ⟨o,nm,qn,ho,hc,hd,hs⟩:=M.gen
  obtain ⟨o2,es,ep,ho2,hd2,_⟩:=M.ns
  rw [← q,ho] at ho2
  obtain rfl:=sj ho2
  rw [hd] at hd2;cases hd2
 have Cn:GCon w h fx 0 s4 envg (fadr env) G la xs Wg (σ++τ) z (A.deeper env) s3.gens:=⟨X,Ok,fun a ha=>(mWg a).mpr (.inl ha),fun a ha=>Lg (there3 a ha),fun b o e=>⟨hcb e,o,S4.base b o (fun q=>nomatch q) e⟩,M.gen,fun q=>by
   rcases (mWg G).mp q with q | q
   ·exact hGn (there3 G q) rfl
   ·exact hGg q,hla⟩
 have hlz:(H++[AO.list []])[z]?=some (.list (xs.map .int)):=by
  rw [List.getElem?_append_left (List.getElem?_eq_some_iff.mp hz).1];exact hz
 refine wpAny_pyIter_gen M.gen (gen_loop Cn hcd' (Rm1.le (by decide)) (kx:=zdw) (body:=(c_marksB dB).1) (n:=16) (v':=v1) (H':=H1) marks_st ((c_marksB dB).2 _ dB_ok zb0) S4 F4 M.gens hlz (by
  rw [S2.len,List.length_append,zb7,hk_marks,hk_mark];exact hrun) fun s7 gs S7 F7 K7=>?_)
 refine (zcw (c:=cxP w h fx 0) (zbz Ok hcd' za0) (Rm1.le (by decide)) [mkS 2] F7 S7 ((c_marksT dB).2 _ dB_ok zb0 _ _ _ hret)).use fun τ8 s8 fl a8 F8 r8=>?_
 have new2:∀ {b:Addr} {o:Obj},s1.heap.get? b=some o→b∉τ:=fun e q=>by
  have:=a2.new _ q
  rw [e] at this;exact snf this
 have kk:∀ b o,s.heap.get? b=some o→s1.heap.get? b=some o:=fun b o e=>by rw [hs1h];exact hk b o e
 have nf':∀ {b:Addr} {o:Obj},s.heap.get? b=some o→b∉fadr env:=fun e q=>by
  rw [hfr _ q] at e;exact nsf e
 have fin:Aft (cxP w h fx 0) σ H' s (τ++τ8) s8:=by
  refine ⟨by rw [← List.append_assoc];exact a8.st,⟨fun b o hb e=>?_,fun b o e=>?_,?_,?_⟩,fun a ha=>?_⟩
  ·have e1:=kk b o e
   have nσ:b∉σ++fadr env:=fun q=>(List.mem_append.mp q).elim hb (nf' e)
   have e2:=a2.pres.keep b o nσ e1
   have nστ:b∉σ++τ:=fun q=>(List.mem_append.mp q).elim hb (new2 e1)
   have e3:=a3.pres.keep b o nστ e2
   have e7:=K7.kp b o (fun q=>by
    rcases (mWg b).mp q with (q | q) | q
    ·exact nστ q
    ·exact nf' e q
    ·exact Lg ⟨o,e3⟩ q) (M.keep b o e3)
   exact a8.pres.keep b o (fun q=>(List.mem_append.mp q).elim nστ (nf' e)) e7
  ·obtain ⟨o2,e2⟩:=a2.pres.there b o (kk b o e)
   obtain ⟨o3,e3⟩:=a3.pres.there b o2 e2
   obtain ⟨o7,e7⟩:=K7.th b o3 (M.keep b o3 e3)
   exact a8.pres.there b o7 e7
  ·have g0:s1.gens=s.gens:=by rw [← hs1]
   obtain ⟨more,g1,g2,g3⟩:=K7.gn
   have:=gmore_push (a:=s3.gens) g2 g3
   rw [← g1] at this
   have g4:=((a2.pres.gens.trans a3.pres.gens).trans this).trans a8.pres.gens
   rwa [g0] at g4
  ·have g0:s1.os=s.os:=by rw [← hs1]
   exact (a8.pres.os.trans (K7.os.trans (M.os.trans (a3.pres.os.trans a2.pres.os)))).trans g0
  ·cases q:s.heap.get? a with
   | none=>rfl
   | some o =>
    rcases List.mem_append.mp ha with hm | hm
    ·exact absurd hm (new2 (kk a o q))
    ·obtain ⟨o2,e2⟩:=a2.pres.there a o (kk a o q)
     obtain ⟨o3,e3⟩:=a3.pres.there a o2 e2
     obtain ⟨o7,e7⟩:=K7.th a o3 (M.keep a o3 e3)
     have:=a8.new a hm
     rw [e7] at this;exact snf this
 cases r8 with
 | ret rr=>exact hq _ s8 _ fin (by rw [← List.append_assoc];exact rr)
end
noncomputable section
noncomputable def gvals (n:Nat):Option GSt→Option (List Int):=Nat.rec (motive:=fun _=>Option GSt→Option (List Int)) (fun _=>none)
 (fun _ ih g=>Option.rec (motive:=fun _=>Option (List Int)) (some []) (fun g=>o1 (ih (gnQ g)) fun l=>some (g.val::l)) g) n
section
variable {w:World} {h:Heap} {fx:List Addr} {s s3 s5:Shared} {envg env:Env} {L Wg σ τ:List Addr} {G la:Addr} {xs:List Int} {z:Nat} {A:Around} {gs:GenState} {H H1:List AO} {sc sc':Scope} {vars:Vars} {call:CallT} {m:Nat}
theorem aft_of (S:St (cxP w h fx 0) (σ++τ) H s) (K:LoopK s5 s3.gens Wg s gs) (h35:∀ b o,s3.heap.get? b=some o→s5.heap.get? b=some o) (hW:∀ b o,b∉σ→s3.heap.get? b=some o→b∉Wg) (hn:∀ a∈τ,s3.heap.get? a=none) (ho:s5.os=s3.os):Aft (cxP w h fx 0) σ H s3 τ s:=by
 refine ⟨S,⟨fun b o hb e=>K.kp b o (hW b o hb e) (h35 b o e),fun b o e=>K.th b o (h35 b o e),?_,K.os.trans ho⟩,hn⟩
 obtain ⟨more,g1,g2,g3⟩:=K.gn
 have:=gmore_push (a:=s3.gens) g2 g3
 rwa [← g1] at this
noncomputable def GcInv (w:World) (h:Heap) (fx:List Addr) (s5:Shared) (envg:Env) (la:Addr) (xs vals:List Int) (Wg σ:List Addr) (D C:Addr) (A:Around) (g0:Array GenState) (H1:List AO) (n:Nat) (s:Shared):Prop :=
 ∃ j acc rest gs mm,j + n + 1≤17∧acc.length=j∧gvals n (gat xs j)=some rest∧acc++rest=vals∧St (cxP w h fx 0) (σ++[D]) (H1++[.list (acc.map .int)]) s∧LoopK s5 g0 Wg s gs∧GReady w s5 envg la xs Wg A g0.size 17 j gs s∧s.heap.Ns C mm
theorem gcomp_sound {mg mb:Str→Option Value} (T:TopAt w h mg mb) {x gi:Str} {px pe p pos pos2:Pos} {args:List Expr} {vals:List Int} (hcall:zbx (cxP w h fx 0) call m) (Rm:Room A (m + 1)) (Rm4:Room A 4) (hm:0 < m) (F:Fr' sc vars env σ s.heap) (S:St (cxP w h fx 0) σ H s) (hok:compOk sc sc' x=true)
  (hdb:(x == ("__debug__":Str))=false)
  (e1:ev G2 call za0 sc vars (.Name gi p) H=some (.lit (.ref 57),H)) (e2:evs (ev G2 call za0 sc vars) args H=some ([.obj z],H1)) (hz:H1[z]?=some (.list (xs.map .int))) (h0:∀ r,xs≠0::r) (hv:gvals 16 (gfirst xs)=some vals) :
  WP (cxP w h fx 0) A (eval (.ListComp (.Name x pe) [⟨.Name x px,.Call (.Name gi p) args [] pos2,[],0⟩] sc' pos) env) σ (H1++[.list (vals.map .int)]) s fun τ v=>(AV.obj H1.length).Rel τ v:=by
 intro Q E hq
 have O':TopOut w mg []:=zam
 have Ok:(cxP w h fx 0).Ok:=cx_ok T.X T.Ng T.Nb T.hb T.nl O'.g O'.b O'.s
 have topd:∀ (σ':List Addr) (H':List AO) (s':Shared),St (cxP w h fx 0) σ' H' s'→TopAt w s'.heap mg mb:=fun σ' H' s' S'=>T.keep O' S'.base
 have K:=compOk_iff hok
 refine closure_pure (env:=env) (scope:=sc') (fun y hy=>F.all y (K.free y hy).1) fun cl hcl hcl1 hcl2=>?_
 rw [eval_ListComp]
 refine wpAny_comprehension_free (g:=⟨.Name x px,.Call (.Name gi p) args [] pos2,[],0⟩) (gs:=[]) rfl (folded_pure rfl) hcl K.kind (fun y hy e=>K.locals y hy e) ?_
 refine gen_call (c:=cxP w h fx 0) (mg:=mg) (mb:=mb) rfl Ok hcall Rm F S topd e1 e2 fun τ s3 la envg G s4 a3 hla M=>?_
 have S3:=a3.st
 have F3:=F.aft a3
 generalize hσ1:σ++τ=σ1 at *
 refine wpAny_pyIter_gen M.gen ?_
 have S4:St (cxP w h fx 0) σ1 H1 s4:=S3.keep M.keep
 have hlen:H1.length=σ1.length:=S3.len.symm
 refine wpAny_newList (items:=[]) ?_ (by simp [zbe])
 generalize hD:s4.heap.objs.size=D
 generalize hh3:s4.heap.push { cls:=.type "list",data:=.seq ([]:List Value).toArray }=h3
 have hk3:∀ b o,s4.heap.get? b=some o→h3.get? b=some o:=fun b o e=>by rw [← hh3];exact Heap.get?_push_of_some _ e
 have hDn:s4.heap.get? D=none:=by rw [← hD];exact get?_size _
 have aD:∀ tk,Aft (cxP w h fx 0) σ1 (H1++[.list []]) s4 [D] { s4 with heap:=h3,toks:=tk }:=fun tk =>
  Aft.list S4 tk hk3 hDn (by rw [← hh3,← hD];exact Heap.get?_push_size _ rfl) (vs:=[]) trivial (by simp)
 refine wpAny_newFunctionEnv K.nocell (by intro y hy;simp at hy) (fun h4 hn4 hs4=>?_) K.kind
 dsimp only at hn4 hs4 ⊢
 generalize hC:h3.objs.size=C at hn4 hs4 ⊢
 have hk4:∀ b o,h3.get? b=some o→h4.get? b=some o:=fun b o e=>hs4.extBut b o (by rw [← hC];exact Nat.ne_of_lt (Heap.lt_size e)) (Heap.get?_push_of_some _ e)
 have hCn3:h3.get? C=none:=by rw [← hC];exact get?_size _
 have k45:∀ b o,s4.heap.get? b=some o→h4.get? b=some o:=fun b o e=>hk4 b o (hk3 b o e)
 have k35:∀ b o,s3.heap.get? b=some o→h4.get? b=some o:=fun b o e=>k45 b o (M.keep b o e)
 have hCn4:s4.heap.get? C=none:=by
  cases q:s4.heap.get? C with
  | none=>rfl
  | some o=>have:=hk3 C o q;rw [hCn3] at this;exact nsf this
 have n3:∀ {a:Addr},s4.heap.get? a=none→s3.heap.get? a=none:=fun {a} e=>by
  cases q:s3.heap.get? a with
  | none=>rfl
  | some o=>rw [M.keep a o q] at e;exact snf e
 have hDC:D≠C:=fun q=>by
  have:=(aD s4.toks).st.there (List.mem_append_right _ (List.mem_singleton.mpr rfl))
  obtain ⟨o,ho⟩:=this
  rw [q] at ho
  rw [show ({ s4 with heap:=h3,toks:=s4.toks }:Shared).heap=h3 from rfl,hCn3] at ho;exact nsf ho
 have a5:∀ tk,Aft (cxP w h fx 0) σ1 (H1++[.list []]) s4 [D] { s4 with heap:=h4,toks:=tk }:=fun tk =>
  (aD tk).move (s:={ s4 with heap:=h3,toks:=tk }) S4 hCn4 (fun q=>by
   rcases List.mem_append.mp q with q | q
   ·obtain ⟨o,ho⟩:=S4.there q
    rw [hCn4] at ho;exact nsf ho
   ·exact hDC (List.mem_singleton.mp q).symm) (fun b o _ e=>hk4 b o e) tk
 have gen5:h4.IsGen G s3.gens.size:=by
  obtain ⟨o,nm,qn,ho,r⟩:=M.gen
  exact ⟨o,nm,qn,k45 G o ho,r⟩
 have hLe:∃ o,s4.heap.get? envg.locals=some o:=by obtain ⟨o,es,ep,ho,_⟩:=M.ns;exact ⟨o,ho⟩
 have hGe:∃ o,s4.heap.get? G=some o:=by obtain ⟨o,nm,qn,ho,_⟩:=M.gen;exact ⟨o,ho⟩
 have ne4:∀ {a b:Addr},(∃ o,s4.heap.get? a=some o)→s4.heap.get? b=none→a≠b:=fun {a b} ⟨o,ho⟩ hb q=>by
  rw [q,hb] at ho;exact nsf ho
 have ne3:∀ {a b:Addr},(∃ o,s3.heap.get? a=some o)→s3.heap.get? b=none→a≠b:=fun {a b} ⟨o,ho⟩ hb q=>by
  rw [q,hb] at ho;exact nsf ho
 have hGg:G≠envg.locals:=fun q=>by
  obtain ⟨o,nm,qn,ho,hc,hd,hs⟩:=M.gen
  obtain ⟨o2,es,ep,ho2,hd2,_⟩:=M.ns
  rw [← q,ho] at ho2
  obtain rfl:=sj ho2
  rw [hd] at hd2;cases hd2
 generalize hWg:(σ1++[D])++[C,envg.locals]=Wg
 have mWg:∀ a,a∈Wg ↔ (a∈σ1++[D]∨a∈[C])∨a=envg.locals:=fun a=>by rw [← hWg];simp [or_assoc]
 have S5:∀ tk,St (cxP w h fx 0) (σ1++[D]) (H1++[.list []]) { s4 with heap:=h4,toks:=tk }:=fun tk=>(a5 tk).st
 have notWg:∀ b o,b∉σ1→s3.heap.get? b=some o→b∉Wg:=fun b o hb e q=>by
  rcases (mWg b).mp q with (q | q) | q
  ·rcases List.mem_append.mp q with q | q
   ·exact hb q
   ·exact ne3 ⟨o,e⟩ (n3 hDn) (List.mem_singleton.mp q)
  ·exact ne3 ⟨o,e⟩ (n3 hCn4) (List.mem_singleton.mp q)
  ·exact ne3 ⟨o,e⟩ M.newL q
 have σh:∀ {b:Addr} {o:Obj},h.get? b=some o→b∉σ1:=fun {b o} e q=>by
  obtain ⟨k,hk⟩:=List.mem_iff_getElem?.mp q
  rcases S3.fresh k b hk (Nat.zero_le _) with z | z
  ·rw [show (cxP w h fx 0).hb.get? b=some o from e] at z;exact snf z
  ·exact (nomatch z)
 have hcb:∀ {b:Addr} {o:Obj},h.get? b=some o→b∉Wg:=fun {b o} e=>notWg b o (σh e) (S3.base b o (fun z=>nomatch z) e)
 have OWg:TopOut w mg Wg:=TopOut.fresh T O' fun a ha=>.inl (by
  cases q:h.get? a with
  | none=>rfl
  | some o=>exact absurd ha (hcb q))
 have Tg:TopAt w (eras h4 Wg) mg mb:=(topd _ _ _ (S5 0)).keep OWg fun b o hb e=>zd7 hb e
 have Okg:(gC w h4 Wg).Ok:=cx_ok Tg.X Tg.Ng Tg.Nb Tg.hb Tg.nl O'.g O'.b O'.s
 have loop:∀ tk,codeAny (model PG w) A (.compLoop (.ListComp (.Name x pe) [⟨.Name x px,.Call (.Name gi p) args [] pos2,[],0⟩] sc' pos) 0 (.ref G) (.ref D) (compEnvC sc' cl C env)) (compPost (model PG w) A E none Q (.ref D) C) { s4 with heap:=h4,toks:=tk }:=by
  intro tk
  generalize hs5:({ s4 with heap:=h4,toks:=tk }:Shared)=s5
  have hh5:s5.heap=h4:=by rw [← hs5]
  have S5':St (cxP w h fx 0) (σ1++[D]) (H1++[.list []]) s5:=by rw [← hs5];exact S5 tk
  have hg5:s5.gens=s3.gens.push (.fresh (.func (fnd 7).body envg)):=by rw [← hs5];exact M.gens
  have ho5:s5.os=s3.os:=by rw [← hs5];exact M.os
  rw [← hh5] at k45 k35 gen5 Tg Okg hn4
  have X:GStart w s5 envg la xs Wg A:=⟨gen_fixK M k45 (S3.there (List.mem_of_getElem? hla)),Okg,gen_sfK M k45 ((mWg _).mpr (.inr rfl)),fun a ha=>by
    rcases (mWg a).mp ha with (q | q) | q
    ·exact S5'.there q
    ·rw [List.mem_singleton.mp q]
     obtain ⟨o,_,_,ho,_⟩:=hn4
     exact ⟨o,ho⟩
    ·obtain ⟨o,ho⟩:=hLe
     exact ⟨o,q▸k45 _ o ho⟩,(mWg _).mpr (.inr rfl),Rm4,h0⟩
  have Cn:GCon w h fx 0 s5 envg [C] G la xs Wg (σ1++[D]) z A s3.gens:=⟨X,Ok,fun a ha=>(mWg a).mpr (.inl ha),fun a ha q=>by
    subst q
    rcases ha with ha | ha
    ·rcases List.mem_append.mp ha with ha | ha
     ·obtain ⟨o,ho⟩:=S3.there ha
      rw [M.newL] at ho;exact nsf ho
     ·exact ne4 hLe hDn (List.mem_singleton.mp ha)
    ·exact ne4 hLe hCn4 (List.mem_singleton.mp ha),fun b o e=>⟨hcb e,o,S5'.base b o (fun q=>nomatch q) e⟩,gen5,fun q=>by
    rcases (mWg G).mp q with (q | q) | q
    ·rcases List.mem_append.mp q with q | q
     ·obtain ⟨o,ho⟩:=S3.there q
      rw [M.newG] at ho;exact nsf ho
     ·exact ne4 hGe hDn (List.mem_singleton.mp q)
    ·exact ne4 hGe hCn4 (List.mem_singleton.mp q)
    ·exact hGg q,by rw [List.getElem?_append_left (List.getElem?_eq_some_iff.mp hla).1];exact hla⟩
  have newτ:∀ a∈[D],s3.heap.get? a=none:=fun a ha=>by rw [List.mem_singleton.mp ha];exact n3 hDn
  have hCσ:C∉σ1++[D]:=fun q=>by
   rcases List.mem_append.mp q with q | q
   ·exact ne4 (S4.there q) hCn4 rfl
   ·exact hDC (List.mem_singleton.mp q).symm
  have hlz:∀ l:List AV,(H1++[AO.list l])[z]?=some (.list (xs.map .int)):=fun l=>by
   rw [List.getElem?_append_left (List.getElem?_eq_some_iff.mp hz).1];exact hz
  refine codeAny_compLoop_tests (GcInv w h fx s5 envg la xs vals Wg σ1 D C A s3.gens H1) ?_ 16 ⟨0,[],vals,_,_,by decide,rfl,hv,rfl,S5',⟨fun _ _ _ e=>e,fun _ o e=>⟨o,e⟩,⟨#[],by rw [hg5,Array.append_empty],rfl,fun _ h=>nomatch h⟩,rfl⟩,gready_start X (by decide),hn4⟩
  rintro n sn ⟨j,acc,rest,gs,mm,hjn,hacc,hgv,happ,Sn,Kn,Rn,hns⟩
  cases n with
  | zero=>exact nsf hgv
  | succ n =>
   obtain ⟨more,gn1,_⟩:=Kn.gn
   refine gready_next X (by omega) Rn (Sn.nolim Ok) (Kn.isgen Cn) (by rw [gn1];exact get_push _ _ _) (cal_li Cn Sn (hlz _)) (fun g t s₁ gs' hgx hkp hrd=>?_) (fun hgx s₁ h' hkp he=>?_)
   ·rw [hgx] at hgv
    refine za7 (show (o1 (gvals n (gnQ g)) fun l=>some (g.val::l))=some rest from hgv) fun l eg hgv=>?_
    obtain rfl:=sj hgv
    obtain ⟨S1,kC⟩:=cal_draw (x:=gs') Cn Sn hkp (fun _ _ e=>e)
    have K1:=Kn.draw Cn hkp (fun _ _ e=>e) hrd.1
    have hns1:(s₁.setGen s3.gens.size gs').heap.Ns C mm:=zc2 hns fun o e=>kC C o (List.mem_singleton.mpr rfl) e
    have hHl:∀ l:List AV,(H1++[AO.list l]).length=(σ1++[D]).length:=fun l=>by rw [List.length_append,List.length_append,hlen];rfl
    generalize hsy:s₁.setGen s3.gens.size gs'=sy at hns1 hrd
    have S1':St (cxP w h fx 0) (σ1++[D]) (H1++[.list (acc.map .int)]) sy:=by rw [← hsy];exact S1
    have K1':LoopK s5 s3.gens Wg sy gs':=by rw [← hsy];exact K1
    clear S1 K1 hkp kC
    refine wpAny_assign_Name (wpAny_storeName_local (by rw [kind_inner,K.loc];rfl) hns1 (fun h2 hn2 hs2=>?_) (by show (sc'.kind == .class || (sc'.kind == .module && _))=false;rw [K.kind];rfl))
    generalize hs2e:({ sy with heap:=h2,toks:=sy.toks + 1 }:Shared)=s2
    have hh2:s2.heap=h2:=by rw [← hs2e]
    rw [← hh2] at hn2 hs2
    have kk2:∀ b o,b≠C→sy.heap.get? b=some o→s2.heap.get? b=some o:=fun b o hb e=>(hs2.2 b hb).trans e
    have hCh:∀ {o:Obj},h.get? C≠some o:=fun {o} e=>hcb e ((mWg C).mpr (.inl (.inr (List.mem_singleton.mpr rfl))))
    have tt2:∀ b o,sy.heap.get? b=some o→∃ o',s2.heap.get? b=some o':=fun b o e=>by
     by_cases q:b=C
     ·subst q
      obtain ⟨o',_,_,ho',_⟩:=hn2
      exact ⟨o',ho'⟩
     ·exact ⟨o,kk2 b o q e⟩
    obtain ⟨K2,kk2'⟩:=K1'.moved Cn (s7:=s2) (fun b o hb e=>kk2 b o (fun q=>hb (List.mem_append_right _ (List.mem_singleton.mpr q))) e) tt2 (by rw [← hs2e];exact .refl _) (by rw [← hs2e])
    have S2:St (cxP w h fx 0) (σ1++[D]) (H1++[.list (acc.map .int)]) s2:=S1'.keepOn (fun b o hb e=>kk2 b o (fun q=>hCh (q▸e)) (S1'.base b o hb e)) (fun a o ha e=>kk2 a o (fun q=>hCσ (q▸ha)) e) (fun b o e=>by
     obtain ⟨o',e'⟩:=S1'.live b o e
     exact tt2 b o' e')
    have R2:=hrd.move kk2' tt2
    have F2:Fr' sc' ((key x,.int g.val)::vars) (compEnvC sc' cl C env) (σ1++[D]) s2.heap:=inner_frame (av:=.int g.val) F3 K hcl1 hcl2 (aft_of S2 K2 k35 notWg newτ ho5) hCσ hn2 (if_pos rfl) ⟨t,rfl⟩
    have eN:ev G2 call za0 sc' ((key x,.int g.val)::vars) (.Name x pe) (H1++[.list (acc.map .int)])=some (.int g.val,H1++[.list (acc.map .int)]):=by
     unfold za0
     refine zbi rfl hdb (by rw [K.loc];rfl) _ _ _ (za5 ?_ _)
     rw [zbj,zan,if_pos rfl]
    show wpAny (model PG w) A (pure true) _ _ s2
    refine wpAny_pure ?_
    rw [if_pos rfl]
    refine ((zbf Ok hcall za0).1 A sc' _ _ (.Name x pe) _ _ _ _ s2 (Rm.le (by omega)) F2 S2 eN).use fun τ4 s6 v6 a6 r6=>?_
    have hτ4:τ4=[]:=by
     have:=a6.st.len
     rw [List.length_append,hHl] at this
     exact List.length_eq_zero_iff.mp (by omega)
    subst hτ4
    rw [List.append_nil] at r6
    have S6:St (cxP w h fx 0) (σ1++[D]) (H1++[.list (acc.map .int)]) s6:=by have:=a6.st;rwa [List.append_nil] at this
    obtain ⟨K6,kk6⟩:=K2.moved Cn (s7:=s6) (fun b o hb e=>a6.pres.keep b o (fun q=>hb (List.mem_append_left _ q)) e) a6.pres.there a6.pres.gens a6.pres.os
    have R6:=R2.move kk6 a6.pres.there
    have hn6:s6.heap.Ns C _:=zc2 hn2 fun o e=>a6.pres.keep C o hCσ e
    have hDx:(σ1++[D])[H1.length]?=some D:=by rw [hlen];exact zav rfl
    have e4:zah (H1++[.list (acc.map .int)]) (.obj H1.length)=some (acc.map .int):=by simp only [zah,zaw,zav rfl]
    refine zd9 S6 (v:=.ref D) ⟨D,hDx,rfl⟩ e4 fun d ws nn ed k1 k2 k3 k4=>?_
    cases ed
    have hwl:=k3.length
    have hal:(acc.map AV.int).length < 1000:=by rw [List.length_map];omega
    have Ty:s6.TypeIs (.ref D) "list":=⟨_,k2,rfl⟩
    refine call_meets PySem.F.slot_list_append Ty PySem.F.entry_list_append (PySem.F.args_list_append_2 _ _) (list_append D ws.toArray nn v6 (by rw [List.size_toArray,hwl,zbe];omega)) ⟨k2,?_⟩
    have a7:=upd_list (tk:=s6.toks) S6 e4 hDx k2 (f:=fun x_1=>x_1.push v6) (xs':=acc.map .int++[.int g.val]) (by rw [List.push_toArray];exact k3.append (ys:=[.int g.val]) (us:=[v6]) ⟨r6,trivial⟩) (by rw [List.length_append];show _ + 1≤_;omega)
    have hset:(H1++[AO.list (acc.map .int)]).set H1.length (.list (acc.map .int++[.int g.val]))=H1++[.list ((acc++[g.val]).map .int)]:=by
     rw [List.set_append_right _ _ (Nat.le_refl _),Nat.sub_self,List.map_append];rfl
    rw [hset] at a7
    have S7:=a7.st
    rw [List.append_nil] at S7
    obtain ⟨K7,kk7⟩:=K6.moved Cn (fun b o hb e=>a7.pres.keep b o (fun q=>hb (List.mem_append_left _ q)) e) a7.pres.there a7.pres.gens a7.pres.os
    refine ⟨n,Nat.lt_succ_self n,j + 1,acc++[g.val],l,gs',_,by omega,by rw [List.length_append,hacc];rfl,?_,by rw [List.append_assoc];exact happ,S7,K7,R6.move kk7 a7.pres.there,zc2 hn6 fun o e=>a7.pres.keep C o hCσ e⟩
    have:gat xs (j + 1)=gnQ g:=by
     show (gat xs j).bind gnext=_
     rw [hgx,gnQ_eq];rfl
    rw [this];exact eg
   ·rw [hgx] at hgv
    obtain rfl:=sj (show some ([]:List Int)=some rest from hgv)
    rw [List.append_nil] at happ
    subst happ
    obtain ⟨S1,kC⟩:=cal_draw (x:=.finished) Cn Sn hkp he
    have K1:=Kn.draw Cn hkp he (x:=.finished) rfl
    have hns1:h'.Ns C mm:=zc2 hns fun o e=>kC C o (List.mem_singleton.mpr rfl) e
    have aF:=a3.trans (by rw [hσ1];exact aft_of S1 K1 k35 notWg newτ ho5)
    refine ⟨mm,hns1,fun h'' hs=>?_⟩
    have hCs:s.heap.get? C=none:=by
     cases q:s.heap.get? C with
     | none=>rfl
     | some o =>
      obtain ⟨o',q'⟩:=a3.pres.there C o q
      rw [n3 hCn4] at q';exact nsf q'
    have hCσ':C∉σ++(τ++[D]):=by rw [← List.append_assoc,hσ1];exact hCσ
    exact hq (τ++[D]) _ _ (aF.move S hCs hCσ' (fun b o hb e=>(hs.2 b hb).trans e) _) ⟨D,by rw [← List.append_assoc,hσ1,hlen];exact zav rfl,rfl⟩
 exact codeAny_compStart_list (loop _) (wpAny_pyIter_gen gen5 (loop _))
end
end
noncomputable def aN (s:Stmt):Str:=nmS (stV s).2.1
noncomputable def aP (s:Stmt):Pos:=(stV s).2.1.pos
noncomputable def aE (s:Stmt):Expr:=(stV s).1
noncomputable def aQ (s:Stmt):Pos:=stQ s
noncomputable def lP:Expr→Arguments
 | .Lambda p _ _ _=>p
 | _=>{ posonlyargs:=[],args:=[],vararg:=none,kwonlyargs:=[],kw_defaults:=[],kwarg:=none,defaults:=[] }
noncomputable def lB (e:Expr):Expr:=kid 0 e
noncomputable def lS (e:Expr):Scope:=scOf e
noncomputable def lQ (e:Expr):Pos:=e.pos
noncomputable def cE:Expr:=aE (za6 1 (fnd 21).body)
noncomputable def nK:Str:="k"
noncomputable def nRow:Str:="row"
theorem counts_body:(fnd 21).body=za6 0 (fnd 21).body::.Assign [.Name (aN (za6 1 (fnd 21).body)) (aP (za6 1 (fnd 21).body))] (.Lambda (lP cE) (lB cE) (lS cE) (lQ cE)) (aQ (za6 1 (fnd 21).body))::(fnd 21).body.drop 2:=by kernel_rfl
theorem counts_dflt {env:Env}:defaultsOf (lP cE) env=([],[]):=by kernel_rfl
theorem closure_row {env:Env} {b:Addr} (hb:env.cells.lookup nRow=some b):closureFor (lS cE) env=pure [(nRow,b)]:=by
 have hn:(lS cE).names=[(nK,.local),(nRow,.free)]:=by kernel_rfl
 unfold closureFor
 rw [hn]
 simp [cellOf,hb]
theorem lam_names:(lS cE).names=[(nK,.local),(nRow,.free)]:=by kernel_rfl
theorem lam_bind (q:Str) (cl:List (Str×Addr)) (pm cdv ct v:Value):bindArgs (kla_fn "<lambda>" q (lP cE) (lB cE) (lS cE) cl pm cdv ct) ⟨[v],[]⟩=pure [(nK,v)]:=by kernel_rfl
theorem ulam_of {c:Cx} {h:Heap} {W fx:List Addr} {nf pl:Nat} {mg:Str→Option Value} {env:Env} {f c1 b pa:Addr} {ctv:Value} (h1:h.get? f=some (kla_obj "<lambda>" (env.qual++"<lambda>") (lP cE) (lB cE) (lS cE) [(nRow,b)] ((mg "__name__").getD .none) c1 ctv)) (hrec:h.CodeRec (.ref c1) (env.qual++"<lambda>")) (hc1:c1∉W) (hfW:f∉W) (hbW:b∉W) (hbf:b∉fx)
  (hc:h.IsCell b (some (.ref pa))) (hpl:fx[pl]?=some pa):∃ fd,ULam (reC c h W fx nf) [nK] (lB cE) (lS cE) [(key nRow,.obj pl)] f fd:=by
 obtain ⟨cq,o2,vs2,t2,e1,e2,e3,e4⟩:=hrec
 cases e1
 obtain ⟨ob,hb1,hb2⟩:=hc
 refine ⟨_,⟨⟨_,zd7 hfW h1,rfl⟩,fun q=>(nomatch q),⟨c1,o2,vs2,t2,rfl,fun q=>(nomatch q),zd7 hc1 e2,e3,e4⟩,rfl,rfl,rfl,rfl,by kernel_rfl,by kernel_rfl,by kernel_rfl,by decide +kernel,by decide +kernel,fun x hx=>?_,fun x hx=>?_,fun vvs hv=>?_,fun x b' hx=>?_,fun x hx=>?_,?_⟩⟩
 ·rw [lam_names] at hx
  rcases List.mem_cons.mp hx with q | q
  ·subst q;decide
  ·simp at q;subst q;decide
 ·simp at hx;subst hx;rw [lam_names];simp
 ·obtain ⟨v,rfl⟩:=List.length_eq_one_iff.mp hv
  exact lam_bind _ _ _ _ _ v
 ·have hx':[(nRow,b)].lookup x=some b':=hx
  simp only [List.lookup] at hx'
  split at hx'
  ·obtain rfl:=sj hx';exact ⟨fun q=>(nomatch q),hbf,ob,_,zd7 hbW hb1,hb2⟩
  ·exact nsf hx'
 ·rw [lam_names] at hx
  simp only [List.lookup] at hx
  split at hx
  ·cases hx
  ·split at hx
   ·rename_i q
    exact ⟨b,by show [(nRow,b)].lookup x=_;simp only [List.lookup,q]⟩
   ·exact nsf hx
 ·refine ⟨[(nRow,.obj pl)],rfl,fun p hp=>?_⟩
  simp at hp
  subst hp
  refine ⟨show nRow≠(".0":Str) by decide +kernel,show ¬ nRow∈[nK] by decide +kernel,?_,show (nRow == ("__classdict__":Str))=false by decide +kernel,b,.ref pa,ob,?_,zd7 hbW hb1,hb2,⟨pa,hpl,rfl⟩⟩
  ·rw [lam_names];show [(nK,NameKind.local),(nRow,NameKind.free)].lookup nRow=some .free;decide +kernel
  ·show [(nRow,b)].lookup nRow=_
   simp
noncomputable section
noncomputable def TBs:List (Nat×UF):=[(32,.code (fnd 2)),(50,.code (fnd 4))]
noncomputable def TLk:List UF:=[.lam [nK] (lB cE) (lS cE) [(key nRow,.obj 1)]]
noncomputable def cKey:CE:=zbh gAdd (zbh gAdd (za8 kk_k) (za1 (AV.int 1))) (zcj (za8 zaj) (za8 kk_k))
theorem lam_key {call:CallT}:RE G2 call (lS cE) za0 (lB cE) cKey:=by
 conv in lB cE=>whnf
 unfold za0 cKey
 refine RE_add (RE_add (zbi hk_k (by decide +kernel) (by decide +kernel)) zd5) (zdx (by rfl) ?_ ?_)
 ·exact zbi zbg (by decide +kernel) (by decide +kernel)
 ·exact zbi hk_k (by decide +kernel) (by decide +kernel)
noncomputable def kLam:CF:=fun args kws H=>List.rec (motive:=fun _=>Option (AV×List AO)) (cLam [kk_k] [(zaj,.obj 1)] cKey args kws H) (fun _ _ _=>none) kws
theorem cf_lam {d:Nat}:CFOk G2 TBs TLk d (.lam [nK] (lB cE) (lS cE) [(key nRow,.obj 1)]) kLam:=by
 intro args kws H r h
 cases kws with
 | cons=>exact nsf h
 | nil =>
  show (if ([]:List (Str×AV))=[] then callLam G2 (zbv G2 TBs TLk d) [nK] (lB cE) (lS cE) [(key nRow,.obj 1)] args H else none)=some r
  rw [if_pos rfl]
  have hk:[nK].map key=[kk_k]:=by simp -iota only [List.map_cons,List.map_nil];exact congrArg (·::[]) hk_k
  have hp:key nRow=zaj:=zbg
  rw [hp]
  refine cLam_ok (ps:=[nK]) lam_key (f:=cKey) ?_ (kws:=[])
  rw [hk];exact h
noncomputable def dK1:CallT:=cDisp [] [kLam]
theorem dK1_ok {d:Nat}:zbo (zbv G2 TBs TLk (d + 1)) dK1:=cDisp_ok ⟨fun a f e=>by have:=ze2 e;simp -iota at this,fun k f e=>by
 match k with
 | 0=>obtain rfl:=sj e;exact ⟨_,rfl,cf_lam⟩
 | k + 1=>exact nsf e⟩
noncomputable def kfC (j:Nat) (H:List AO) (y:AV):Option Int:=Nat.rec (motive:=fun _=>Option Int) (onInt y fun i=>o1 (natI i) fun n=>o1 (lof H 1) fun xs=>o1 (nth xs n) fun x=>onInt x fun r=>some (Int.add r (Int.add i 1))) (fun _ _=>none) j
theorem kfC_ok:KfOk dK1 kfC:=by
 intro j H y z h
 cases j with
 | succ j=>exact nsf h
 | zero =>
  refine zao (a:=y) h ?_;rintro i rfl h
  refine za7 h fun n e1 h=>?_
  refine za7 h fun xs e2 h=>?_
  refine za7 h fun x e3 h=>?_
  refine zao h ?_;rintro r rfl h
  obtain rfl:=sj h
  obtain rfl:=natI_is e1
  rw [show Int.add r (Int.add (n:Int) 1)=Int.add (Int.add (n:Int) 1) r from Int.add_comm ..]
  show cLam [kk_k] [(zaj,.obj 1)] cKey [.int (n:Int)] [] H=_
  have e:cKey [(kk_k,.int (n:Int)),(zaj,.obj 1)] H=some (.int (Int.add (Int.add (n:Int) 1) r),H) :=
   zb2 (zb2 (za5 (x:=.int (n:Int)) (by kernel_rfl) H) (za9 _ _ _) (x:=.int (Int.add (n:Int) 1)) (H3:=H) rfl) (zd4 (za5 (x:=.obj 1) (by kernel_rfl) H) (za5 (x:=.int (n:Int)) (by kernel_rfl) H) (itemL e2 e3)) rfl
  exact e
noncomputable def dK2:CallT:=cDisp [(32,bisCF false kfC),(50,bisCF true kfC)] [kLam]
theorem dK2_ok {d:Nat}:zbo (zbv G2 TBs TLk (d + 3)) dK2:=by
 refine cDisp_ok ⟨fun a f e=>?_,fun k f e=>?_⟩
 ·have hm:=ze2 e
  simp -iota only [List.mem_cons,Prod.mk.injEq,List.not_mem_nil,or_false] at hm
  rcases hm with ⟨rfl,rfl⟩ | ⟨rfl,rfl⟩
  ·exact ⟨_,rfl,bisr_cf (D:=dK1) kfC_ok (cGc_ok fun _ _ _ _ h=>cFunQ_ok (by kernel_rfl) (by decide +kernel) (.inr ⟨nmKey,.lit .none,by kernel_rfl,by kernel_rfl⟩) ((c_bisr dK1).2 _ dK1_ok zb0) h)⟩
  ·exact ⟨_,rfl,bisl_cf (D:=dK1) kfC_ok (cGc_ok fun _ _ _ _ h=>cFunQ_ok (by kernel_rfl) (by decide +kernel) (.inr ⟨nmKey,.lit .none,by kernel_rfl,by kernel_rfl⟩) ((c_bisl dK1).2 _ dK1_ok zb0) h)⟩
 ·match k with
  | 0=>obtain rfl:=sj e;exact ⟨_,rfl,cf_lam⟩
  | k + 1=>exact nsf e
end
section
variable {c:Cx} {s:Shared}
theorem rebase_back2 {σ0 τc τx τy τ' W σ' fx:List Addr} {nf:Nat} {H0 H3 H'' Hf:List AO} {s0 s'':Shared} {env:Env} (S0:St c σ0 H0 s0) (A3:Aft c σ0 H3 s0 (τc++τx) s) (a':AftS (reC c s.heap W fx nf) σ' H'' env s τ' s'')
  (hW:∀ a∈W,(a∈σ0∨s0.heap.get? a=none)∧(c.hb.get? a=none∨a∈c.Wb)) (hl:(σ0++(τc++τy)).length=Hf.length) (hf0:∀ k,k < c.nfx→∃ P,Hf[k]?=some (.opq P)) (nd:(τc++τy).Nodup) (hτ:∀ a∈τc++τy,s0.heap.get? a=none)
  (src:∀ (k:Nat) (a:Addr) (o:AO),(σ0++(τc++τy))[k]?=some a→Hf[k]?=some o→(a∉W∧cleanO (σ0++τc).length o=true∧∃ (i:Nat) (o1:AO),(σ0++(τc++τx))[i]?=some a∧H3[i]?=some o1∧opqLe o1 o)∨(cleanO 0 o=true∧∃ (j:Nat) (o1:AO),(σ'++τ')[j]?=some a∧H''[j]?=some o1∧opqLe o1 o)) :
  Aft c σ0 Hf s0 (τc++τy) s'':=by
 have kp:∀ b o,b∉W→s.heap.get? b=some o→s''.heap.get? b=some o:=fun b o hb e=>a'.st.base b o (fun q=>nomatch q) (zd7 hb e)
 have hdis:∀ a,a∈σ0→a∉τc++τy:=fun a h1 h2=>by
  obtain ⟨o,ho⟩:=S0.there h1
  rw [hτ a h2] at ho;exact nsf ho
 have hcb:∀ b o,b∉c.Wb→c.hb.get? b=some o→b∉W:=fun b o hb e q=>by
  rcases (hW b q).2 with z | z
  ·rw [e] at z;exact snf z
  ·exact hb z
 refine ⟨⟨fun b o hb e=>kp b o (hcb b o hb e) (A3.st.base b o hb e),hl,fun k a o e e'=>?_,?_,fun k a e hk=>?_,?_,hf0,fun b o e=>?_,S0.nle⟩,⟨fun b o hb e=>?_,fun b o e=>?_,A3.pres.gens.trans a'.pres.gens,a'.pres.os.trans A3.pres.os⟩,hτ⟩
 ·rcases src k a o e e' with ⟨h1,h2,i,o1,g1,g2,g3⟩ | ⟨h1,j,o1,g1,g2,g3⟩
  ·have x:=at_le g3 (A3.st.objs i a o1 g1 g2)
   rw [← List.append_assoc] at x
   rw [← List.append_assoc]
   exact at_clean (x.keep fun ob q=>kp a ob h1 q) h2
  ·exact at_clean0 (at_le g3 (a'.st.objs j a o1 g1 g2)) h1
 ·rw [List.nodup_append]
  exact ⟨S0.nodup,nd,fun x hx y hy q=>hdis x hx (q▸hy)⟩
 ·by_cases hj:k < σ0.length
  ·rw [List.getElem?_append_left hj] at e
   exact S0.fresh k a e hk
  ·rw [List.getElem?_append_right (by omega)] at e
   exact .inl (fresh_of S0 (hτ a (List.mem_of_getElem? e))).1
 ·obtain ⟨t,et⟩:=S0.fix
  exact ⟨t++(τc++τy),by rw [et,List.append_assoc]⟩
 ·obtain ⟨o1,e1⟩:=A3.st.live b o e
  exact a'.pres.there b o1 e1
 ·refine kp b o (fun q=>?_) (A3.pres.keep b o hb e)
  rcases (hW b q).1 with z | z
  ·exact hb z
  ·rw [z] at e;exact nsf e
 ·obtain ⟨o1,e1⟩:=A3.pres.there b o e
  exact a'.pres.there b o1 e1
end
theorem cleanO_mono {n m:Nat} (h:n≤m) {o:AO} (hx:cleanO n o=true):cleanO m o=true:=by
 cases o<;>first | exact clean_mono h hx | rfl
theorem tabStep_clean {l d:Int} {H H1:List AO} (h:tabStep l d H=some H1) (hc:cleanH H.length H=true):H.length≤H1.length∧∀ (k:Nat) (o:AO),H1[k]?=some o→cleanO H1.length o=true:=by
 rcases tabStep_is h with ⟨_,rfl⟩ | ⟨_,_,_,rfl⟩
 ·refine ⟨by simp,fun k o e=>?_⟩
  rw [List.length_append,List.length_set]
  by_cases hk:k < H.length
  ·rw [List.getElem?_append_left (by rw [List.length_set];exact hk)] at e
   by_cases h0:k=0
   ·subst h0
    rw [List.getElem?_set_self hk] at e
    obtain rfl:=sj e
    show zb1 _ _=true
    unfold zb1
    simp
   ·rw [List.getElem?_set_ne (Ne.symm h0)] at e
    exact cleanO_mono (Nat.le_add_right _ _) (cleanH_get hc e)
  ·rw [List.getElem?_append_right (by rw [List.length_set];omega)] at e
   have:o=.code:=by
    cases q:k - (H.set 0 (AO.tab [.int l,.int d,.obj H.length])).length with
    | zero=>rw [q] at e;exact (sj e).symm
    | succ n=>rw [q] at e;exact nsf e
   subst this;rfl
 ·exact ⟨Nat.le_refl _,fun k o e=>cleanH_get hc e⟩
theorem tabStep_get {l d:Int} {H H1:List AO} (h:tabStep l d H=some H1) {k:Nat} {xs:List AV} (e:H[k]?=some (.list xs)):H1[k]?=some (.list xs):=by
 rcases tabStep_is h with ⟨h0,rfl⟩ | ⟨_,_,_,rfl⟩
 ·have hk:=(List.getElem?_eq_some_iff.mp e).1
  rw [List.getElem?_append_left (by rw [List.length_set];exact hk),List.getElem?_set_ne (fun q=>by subst q;rw [h0] at e;cases e)]
  exact e
 ·exact e
theorem only_row {x:Str} (h:(fnd 21).sc.names.lookup x=some .cell):x=nRow:=by
 have hall:((fnd 21).sc.names.all fun q=>q.2 != .cell || q.1 == nRow)=true:=by kernel_rfl
 have:=List.all_eq_true.mp hall _ (zcl h)
 simpa -iota using this
theorem cell_row {c:Cx} {sc:Scope} {vars:Vars} {env:Env} {σ:List Addr} {h:Heap} {p:Nat} (F:SF c sc vars env σ h) (hs:sc.names.lookup nRow=some .cell) (hl:look (key nRow) vars=some (.obj p)) {Γ:Prop} (κ:∀ b pa,env.cells.lookup nRow=some b→h.IsCell b (some (.ref pa))→σ[p]?=some pa→Γ):Γ:=by
 rcases F.vk nRow (.obj p) hl (by rw [hs];rfl) with ⟨k,_⟩ | ⟨_,b,v,n1,n2,pa,n3,rfl⟩
 ·have:env.scope.names.lookup nRow=some .local:=k
  have:=(F.scope.loc nRow).mp this
  rw [hs] at this;cases this
 ·exact κ b pa n1 n2 n3
noncomputable section
theorem cpos_ok:tabStep ((lQ cE).line:Int) ((lQ cE).col:Int)=tabStep 165 10:=by kernel_rfl
noncomputable def cnV0 (r t e:Nat) (low high:Int):Vars:=[(zaj,.obj r),(kk_told,.obj t),(zc9,.obj e),(zd1,.int low),(zbr,.int high)]
noncomputable def cnV2 (low high:Int):Vars:=[(zaj,.obj 1),(kk_told,.obj 3),(zc9,.obj 4),(zd1,.int low),(zbr,.int high),(zd2,.obj 2),(zbw,.obj 0)]
noncomputable def ne4 (a b c d:Nat):Bool:=bi (Nat.beq a b) false (bi (Nat.beq a c) false (bi (Nat.beq a d) false (bi (Nat.beq b c) false (bi (Nat.beq b d) false (bi (Nat.beq c d) false true)))))
theorem ifb {p q:Bool} (h:(if p=true then q else false)=true):p=true∧q=true:=by
 cases p with
 | true=>exact ⟨rfl,h⟩
 | false=>exact ftf h
theorem ifbk {p q:Bool} (h:(if p=true then q else false)=true) {Γ:Prop} (κ:p=true→q=true→Γ):Γ:=by
 cases p with
 | true=>exact κ rfl h
 | false=>exact ftf h
noncomputable def cl0 (xs:List AV):Bool:=List.rec (motive:=fun _=>Bool) true (fun a _ ih=>AV.rec (motive:=fun _=>Bool) (fun _=>ih) (fun _=>ih) (fun _=>ih) (fun _=>false) (fun _=>ih) a) xs
theorem cl0_ok:∀ {xs:List AV},cl0 xs=true→zb1 0 xs=true
 | [],_=>rfl
 | a::xs,h=>by
  unfold zb1
  rw [List.all_cons,Bool.and_eq_true]
  cases a with
  | obj k=>exact ftf h
  | _=>exact ⟨rfl,cl0_ok (xs:=xs) h⟩
noncomputable def cTurns (D:CallT):CE:=zc1 D (za1 (AV.lit (Value.type "list"))) (zaa (cRange (cLen (za8 zaj))) zcd) kNil
theorem c_countsH_eq (D:CallT):(c_countsH D).1=cAs zd2 (cTurns D):=by unfold c_countsH;rfl
noncomputable def cN0:CE:=zcj (za8 zc9) (za1 (AV.int 0))
noncomputable def cN1:CE:=zcj (za8 zc9) (za1 (AV.int 1))
noncomputable def kK:Vars→List AO→Option (List (Str×AV)×List AO):=kCons nmKey (za8 zbw) kNil
noncomputable def cnA (D:CallT):CE:=zc1 D (za1 (AV.lit (Value.ref 50))) (zaa (za8 zd2) (zaa (za8 zbr) (zaa cN0 (zaa cN1 zcd)))) kK
noncomputable def cnB (D:CallT):CE:=zc1 D (za1 (AV.lit (Value.ref 32))) (zaa (za8 zd2) (zaa (zbh gSub (za8 zbr) (za1 (AV.int 1))) (zaa cN0 (zaa cN1 zcd)))) kK
noncomputable def cnM (D:CallT):CE:=zc1 D (za1 (AV.lit (Value.builtin "min"))) (zaa cN0 (zaa (za8 zd1) zcd)) kNil
noncomputable def cnC (D:CallT):CE:=zc1 D (za1 (AV.lit (Value.ref 32))) (zaa (za8 zd2) (zaa (za8 zd1) (zaa (cnM D) (zaa cN1 zcd)))) kK
noncomputable def cnD (D:CallT):CE:=zc1 D (za1 (AV.lit (Value.ref 50))) (zaa (za8 kk_told) (zaa (za8 zbr) zcd)) kNil
noncomputable def cnE (D:CallT):CE:=zc1 D (za1 (AV.lit (Value.ref 32))) (zaa (za8 kk_told) (zaa (za8 zd1) zcd)) kNil
theorem c_countsR_eq (D:CallT):(c_countsR D).1=zcx (cAs kk_below (cnA D)) (zcx (cIf (zdv (gOf CmpOp.NotEq) (cnB D) (za8 kk_below)) (cRet (cList zcd)) cSkip) (zcx (cAs kk_upto (cnC D)) (cRet (cList (zaa (zbh gSub (za8 kk_below) (za8 kk_upto)) (zaa (zbh gSub (cnD D) (cnE D)) zcd)))))):=by
 unfold c_countsR;rfl
theorem callK_s {D:CallT} {x z:AV} {g:Vars→List AO→Option (List AV×List AO)} {v:Vars} {H H1 H2:List AO} {xs:List AV} {kv:AV} (hg:g v H=some (xs,H1)) (hk:za2 zbw v=some kv) (hd:D x xs [(nmKey,kv)] H1=some (z,H2)):zc1 D (za1 x) g kK v H=some (z,H2):=by
 unfold zc1
 show ob (some (x,H)) _=_
 rw [zdg,hg,zdg]
 show ob (ob (za8 zbw v H1) fun a H=>ob (kNil v H) fun ks H=>some ((nmKey,a)::ks,H)) _=_
 rw [za5 hk H1,zdg]
 show ob (some ([(nmKey,kv)],H1)) _=_
 rw [zdg];exact hd
theorem qkw_1 (j:Nat):qkw kwB [(nmKey,.obj j)]=some [(zbw,.obj j)]:=by kernel_rfl
theorem bis_callK {L:Bool} {kf:Nat→List AO→AV→Option Int} {k j lo hi r:Nat} {x:AV} {xs:List AV} {H:List AO} (hl:lof H k=some xs) (h:srN (cKy L (kf j H) xs x) zar lo hi=some r):bisCF L kf [.obj k,x,.int (lo:Int),.int (hi:Int)] [(nmKey,.obj j)] H=some (.int (r:Int),H):=by
 unfold bisCF
 rw [qpos_4,ze7,qkw_1,ze7]
 show bisV L kf (vB (.obj k) x (.int (lo:Int)) (.int (hi:Int)) (.obj j)) H=_
 unfold bisV
 rw [vB_a,ze7]
 show o1 (lof H k) _=_
 rw [hl,ze7,vB_x,ze7,vB_l,ze7,onInt_s,natI_s,ze7,vB_h,ze7,hiOf_s,ze7,vB_k,ze7]
 show o1 (srN (cKy L (kf j H) xs x) zar lo hi) _=_
 rw [h];rfl
theorem qpos_2 (a x:AV):qpos pdB [a,x]=some [(zck,a),(kk_x,x),(zd3,.int 0),(kk_hi,.lit .none)]:=rfl
theorem bis_call2 {L:Bool} {kf:Nat→List AO→AV→Option Int} {k r:Nat} {x:AV} {xs:List AV} {H:List AO} (hl:lof H k=some xs) (h:srN (cPl L xs x) zar 0 xs.length=some r):bisCF L kf [.obj k,x] [] H=some (.int (r:Int),H):=by
 unfold bisCF
 rw [qpos_2,ze7,qkw_0,ze7]
 show bisV L kf (vB (.obj k) x (.int ((0:Nat):Int)) (.lit .none) (.lit .none)) H=_
 unfold bisV
 rw [vB_a,ze7]
 show o1 (lof H k) _=_
 rw [hl,ze7,vB_x,ze7,vB_l,ze7,onInt_s,natI_s,ze7,vB_h,ze7]
 show o1 (some (lenF xs)) _=_
 rw [ze7,vB_k,ze7]
 show o1 (srN (cPl L xs x) zar 0 (lenF xs)) _=_
 rw [zau,h];rfl
noncomputable def cnG (lr lt lo le:List AV):List AO:=[.opq fun _=>True,.list lr,.list lt,.list lo,.list le]
noncomputable def cnQ (lr lt lo le:List AV) (low high:Int):Option (Int×Int) :=
 o1 (nth le 0) fun a0=>onInt a0 fun i0=>o1 (natI i0) fun e0=>o1 (nth le 1) fun a1=>onInt a1 fun i1=>o1 (natI i1) fun e1=>o1 (natI low) fun l0 =>
 o1 (srN (cKy true (kfC 0 (cnG lr lt lo le)) lt (.int high)) zar e0 e1) fun below=>o1 (srN (cKy false (kfC 0 (cnG lr lt lo le)) lt (.int (Int.sub high 1))) zar e0 e1) fun b2 =>
 bi (Nat.beq b2 below) (o1 (srN (cKy false (kfC 0 (cnG lr lt lo le)) lt (.int low)) zar (bi (Nat.ble e0 l0) e0 l0) e1) fun upto =>
  o1 (srN (cPl true lo (.int high)) zar 0 (lenF lo)) fun x=>o1 (srN (cPl false lo (.int low)) zar 0 (lenF lo)) fun y=>some (Int.sub (Int.ofNat below) (Int.ofNat upto),Int.sub (Int.ofNat x) (Int.ofNat y))) none
theorem neI (x y:Int) (H:List AO):gOf .NotEq (.int x) (.int y) H=some (not (iEq x y)):=rfl
theorem mini_s {D:CallT} (hD:∀ args H,D (.lit (.builtin "min")) args [] H=builtins "min" args H) (x y:Int) (H:List AO):D (.lit (.builtin "min")) [.int x,.int y] [] H=some (.int (if y < x then y else x),H):=by
 rw [hD];rfl
theorem cn_run {lr lt lo le:List AV} {low high:Int} {p:Int×Int} (h:cnQ lr lt lo le low high=some p):∃ v,(c_countsR dK2).1 (cnV2 low high) (cnG lr lt lo le)=some (.ret (.obj 5),v,cnG lr lt lo le++[.list [.int p.1,.int p.2]]):=by
 refine za7 h fun a0 h1 h=>?_
 refine zao h ?_;rintro i0 rfl h
 refine za7 h fun e0 h2 h=>?_
 refine za7 h fun a1 h3 h=>?_
 refine zao h ?_;rintro i1 rfl h
 refine za7 h fun e1 h4 h=>?_
 refine za7 h fun l0 h5 h=>?_
 refine za7 h fun below h6 h=>?_
 refine za7 h fun b2 h7 h=>?_
 rw [zay] at h
 refine ifsk h fun q h=>?_
 obtain rfl:=Nat.eq_of_beq_eq_true q
 refine za7 h fun upto h8 h=>?_
 refine za7 h fun x h9 h=>?_
 refine za7 h fun y h10 h=>?_
 obtain rfl:=sj h
 obtain rfl:=natI_is h2
 obtain rfl:=natI_is h4
 obtain rfl:=natI_is h5
 rw [zau] at h9 h10
 generalize hG:cnG lr lt lo le=G at *
 have g2:lof G 2=some lt:=by rw [← hG];rfl
 have g3:lof G 3=some lo:=by rw [← hG];rfl
 have g4:lof G 4=some le:=by rw [← hG];rfl
 generalize hv:cnV2 (l0:Int) high=v
 have vt:za2 zd2 v=some (.obj 2):=by rw [← hv];kernel_rfl
 have vo:za2 kk_told v=some (.obj 3):=by rw [← hv];kernel_rfl
 have ve:za2 zc9 v=some (.obj 4):=by rw [← hv];kernel_rfl
 have vl:za2 zd1 v=some (.int (l0:Int)):=by rw [← hv];kernel_rfl
 have vh:za2 zbr v=some (.int high):=by rw [← hv];kernel_rfl
 have vk:za2 zbw v=some (.obj 0):=by rw [← hv];kernel_rfl
 have n0:cN0 v G=some (.int (e0:Int),G):=zd4 (za5 ve G) (za9 (.int ((0:Nat):Int)) _ _) (itemL g4 h1)
 have n1:cN1 v G=some (.int (e1:Int),G):=zd4 (za5 ve G) (za9 (.int ((1:Nat):Int)) _ _) (itemL g4 h3)
 have x1:cnA dK2 v G=some (.int (b2:Int),G):=callK_s (zad (za5 vt G) (zad (za5 vh G) (zad n0 (zad n1 (zc8 _ _))))) vk (show bisCF true kfC _ _ _=_ from bis_callK g2 h6)
 have x2:cnB dK2 v G=some (.int (b2:Int),G):=callK_s (zad (za5 vt G) (zad (zb2 (za5 vh G) (za9 (.int 1) _ _) (x:=.int (Int.sub high 1)) (H3:=G) (g:=gSub) rfl) (zad n0 (zad n1 (zc8 _ _))))) vk (show bisCF false kfC _ _ _=_ from bis_callK g2 h7)
 have s1:cAs kk_below (cnA dK2) v G=some (.next,zab kk_below (.int (b2:Int)) v,G):=as_s x1
 generalize hv2:zab kk_below (.int (b2:Int)) v=w at s1
 have wt:za2 zd2 w=some (.obj 2):=by rw [← hv2];exact zac (by decide +kernel) vt
 have wo:za2 kk_told w=some (.obj 3):=by rw [← hv2];exact zac (by decide +kernel) vo
 have we:za2 zc9 w=some (.obj 4):=by rw [← hv2];exact zac (by decide +kernel) ve
 have wl:za2 zd1 w=some (.int (l0:Int)):=by rw [← hv2];exact zac (by decide +kernel) vl
 have wh:za2 zbr w=some (.int high):=by rw [← hv2];exact zac (by decide +kernel) vh
 have wk:za2 zbw w=some (.obj 0):=by rw [← hv2];exact zac (by decide +kernel) vk
 have wb:za2 kk_below w=some (.int (b2:Int)):=by rw [← hv2];exact zaz
 have m0:cN0 w G=some (.int (e0:Int),G):=zd4 (za5 we G) (za9 (.int ((0:Nat):Int)) _ _) (itemL g4 h1)
 have m1:cN1 w G=some (.int (e1:Int),G):=zd4 (za5 we G) (za9 (.int ((1:Nat):Int)) _ _) (itemL g4 h3)
 have y2:cnB dK2 w G=some (.int (b2:Int),G):=callK_s (zad (za5 wt G) (zad (zb2 (za5 wh G) (za9 (.int 1) _ _) (x:=.int (Int.sub high 1)) (H3:=G) (g:=gSub) rfl) (zad m0 (zad m1 (zc8 _ _))))) wk (show bisCF false kfC _ _ _=_ from bis_callK g2 h7)
 have t:=zdj y2 (za5 wb G) (neI _ _ G)
 rw [iEq_self] at t
 have s2:cIf (zdv (gOf CmpOp.NotEq) (cnB dK2) (za8 kk_below)) (cRet (cList zcd)) cSkip w G=some (.next,w,G):=(if_s t).trans rfl
 have mn:cnM dK2 w G=some (.int ((bi (Nat.ble e0 l0) e0 l0:Nat):Int),G):=by
  refine call_s (zad m0 (zad (za5 wl G) (zc8 _ _))) ((mini_s (D:=dK2) (fun _ _=>rfl) (e0:Int) (l0:Int) G).trans ?_)
  rw [zay]
  by_cases q:e0≤l0
  ·rw [if_pos (Nat.ble_eq.mpr q),if_neg (by omega)]
  ·rw [if_neg (fun z=>q (Nat.ble_eq.mp z)),if_pos (by omega)]
 have x3:cnC dK2 w G=some (.int (upto:Int),G):=callK_s (zad (za5 wt G) (zad (za5 wl G) (zad mn (zad m1 (zc8 _ _))))) wk (show bisCF false kfC _ _ _=_ from bis_callK g2 h8)
 have s3:cAs kk_upto (cnC dK2) w G=some (.next,zab kk_upto (.int (upto:Int)) w,G):=as_s x3
 generalize hv3:zab kk_upto (.int (upto:Int)) w=u at s3
 have uo:za2 kk_told u=some (.obj 3):=by rw [← hv3];exact zac (by decide +kernel) wo
 have ul:za2 zd1 u=some (.int (l0:Int)):=by rw [← hv3];exact zac (by decide +kernel) wl
 have uh:za2 zbr u=some (.int high):=by rw [← hv3];exact zac (by decide +kernel) wh
 have ub:za2 kk_below u=some (.int (b2:Int)):=by rw [← hv3];exact zac (by decide +kernel) wb
 have uu:za2 kk_upto u=some (.int (upto:Int)):=by rw [← hv3];exact zaz
 have x4:cnD dK2 u G=some (.int (x:Int),G):=call_s (zad (za5 uo G) (zad (za5 uh G) (zc8 _ _))) (show bisCF true kfC _ _ _=_ from bis_call2 g3 h9)
 have x5:cnE dK2 u G=some (.int (y:Int),G):=call_s (zad (za5 uo G) (zad (za5 ul G) (zc8 _ _))) (show bisCF false kfC _ _ _=_ from bis_call2 g3 h10)
 have x6:=list_s (zad (zb2 (g:=gSub) (za5 ub G) (za5 uu G) (x:=.int (Int.sub (Int.ofNat b2) (Int.ofNat upto))) (H3:=G) rfl) (zad (zb2 (g:=gSub) x4 x5 (x:=.int (Int.sub (Int.ofNat x) (Int.ofNat y))) (H3:=G) rfl) (zc8 _ _))) (by simp -iota)
 refine ⟨u,?_⟩
 rw [c_countsR_eq,zb5 s1,zb5 s2,zb5 s3,ret_s x6]
 rw [← hG];rfl
noncomputable def cntB (r t e u:Nat) (lr lt lo le:List AV):Bool:=bi (ne4 r u t e) (bi (cl0 lr) (bi (cl0 lt) (bi (cl0 lo) (cl0 le) false) false) false) false
noncomputable def cntX (r t e u:Nat) (lr lt lo le:List AV) (low high:Int) (H2:List AO):Option (AV×List AO):=bi (cntB r t e u lr lt lo le) (o1 (cnQ lr lt lo le low high) fun p=>some (.obj (lenF H2),appF H2 [.list [.int p.1,.int p.2]])) none
noncomputable def cntW (r t e u:Nat) (low high:Int) (H1 H2:List AO):Option (AV×List AO):=o1 (plQ H1 r) fun lr=>o1 (plQ H1 u) fun lt=>o1 (plQ H1 t) fun lo=>o1 (plQ H1 e) fun le=>cntX r t e u lr lt lo le low high H2
noncomputable def cntV (r t e:Nat) (low high:Int) (H:List AO):Option (AV×List AO):=ob (cTurns dB (cnV0 r t e low high) H) fun tv H1=>onObj tv fun u=>o1 (tabStep 165 10 H1) fun H2=>cntW r t e u low high H1 H2
noncomputable def countsF (args:List AV) (H:List AO):Option (AV×List AO):=cO args fun r l=>cO l fun t l=>cO l fun e l=>cI l fun low l=>cI l fun high l=>onNil l (cntV r t e low high H)
theorem bi_and {a b:Bool} (h:bi a b false=true):a=true∧b=true:=by
 rw [zay] at h;exact ifb h
structure CntB (r t e u:Nat) (lr lt lo le:List AV):Prop where
 ne:ne4 r u t e=true
 c1:zb1 0 lr=true
 c2:zb1 0 lt=true
 c3:zb1 0 lo=true
 c4:zb1 0 le=true
theorem cntB_ok {r t e u:Nat} {lr lt lo le:List AV} (h:cntB r t e u lr lt lo le=true):CntB r t e u lr lt lo le:=by
 obtain ⟨c0,h⟩:=bi_and h
 obtain ⟨c1,h⟩:=bi_and h
 obtain ⟨c2,h⟩:=bi_and h
 obtain ⟨c3,c4⟩:=bi_and h
 exact ⟨c0,cl0_ok c1,cl0_ok c2,cl0_ok c3,cl0_ok c4⟩
inductive CntW (r t e u:Nat) (low high:Int) (H1 H2:List AO) (q:AV×List AO):Prop
 | mk (lr lt lo le:List AV) (p:Int×Int) (hr:H1[r]?=some (.list lr)) (hu:H1[u]?=some (.list lt)) (ht:H1[t]?=some (.list lo)) (he:H1[e]?=some (.list le)) (run:cnQ lr lt lo le low high=some p) (B:CntB r t e u lr lt lo le) (hq:q=(.obj H2.length,H2++[.list [.int p.1,.int p.2]]))
theorem cntW_ok {r t e u:Nat} {low high:Int} {H1 H2:List AO} {q:AV×List AO} (h:cntW r t e u low high H1 H2=some q):CntW r t e u low high H1 H2 q:=by
 refine za7 h fun lr e3 h=>?_
 refine za7 h fun lt e4 h=>?_
 refine za7 h fun lo e5 h=>?_
 refine za7 h fun le e6 h=>?_
 unfold cntX at h
 rw [zay] at h
 refine ifsk h fun c0 h=>?_
 refine za7 h fun p e7 h=>?_
 rw [zau,zc3] at h
 exact ⟨lr,lt,lo,le,p,plQ_is e3,plQ_is e4,plQ_is e5,plQ_is e6,e7,cntB_ok c0,(sj h).symm⟩
inductive CntR (args:List AV) (H:List AO) (q:AV×List AO):Prop
 | mk (H1 H2:List AO) (r t e u:Nat) (low high:Int) (args:args=[.obj r,.obj t,.obj e,.int low,.int high]) (turns:cTurns dB (cnV0 r t e low high) H=some (.obj u,H1)) (tab:tabStep 165 10 H1=some H2) (W:CntW r t e u low high H1 H2 q)
theorem cntV_ok {r t e:Nat} {low high:Int} {H:List AO} {q:AV×List AO} (h:cntV r t e low high H=some q):CntR [.obj r,.obj t,.obj e,.int low,.int high] H q:=by
 refine zai h fun tv H1 e1 h=>?_
 refine zde h ?_;rintro u rfl h
 refine za7 h fun H2 e2 h=>?_
 exact ⟨H1,H2,r,t,e,u,low,high,rfl,e1,e2,cntW_ok h⟩
theorem countsF_ok {args:List AV} {H:List AO} {q:AV×List AO} (h:countsF args H=some q):CntR args H q:=by
 refine cO_some h ?_;rintro r _ rfl h1
 refine cO_some h1 ?_;rintro t _ rfl h2
 refine cO_some h2 ?_;rintro e _ rfl h3
 refine cI_some h3 ?_;rintro low _ rfl h4
 refine cI_some h4 ?_;rintro high _ rfl h5
 refine zdf h5 ?_;rintro rfl h6
 exact cntV_ok h6
end
theorem ne4_ok {a b c d:Nat} (h:ne4 a b c d=true) {Γ:Prop} (κ:a≠b→a≠c→a≠d→b≠c→b≠d→c≠d→Γ):Γ:=by
 unfold ne4 at h
 have nb:∀ {x y:Nat} {p:Bool},bi (Nat.beq x y) false p=true→x≠y∧p=true:=fun {x y p} h=>by
  cases q:Nat.beq x y with
  | true=>rw [q] at h;exact ftf h
  | false=>rw [q] at h;exact ⟨fun z=>(by subst z;rw [Nat.beq_refl] at q;cases q),h⟩
 obtain ⟨h1,h⟩:=nb h
 obtain ⟨h2,h⟩:=nb h
 obtain ⟨h3,h⟩:=nb h
 obtain ⟨h4,h⟩:=nb h
 obtain ⟨h5,h⟩:=nb h
 obtain ⟨h6,_⟩:=nb h
 exact κ h1 h2 h3 h4 h5 h6
theorem len1 {α β:Type} {a b:List α} {y:α} {l:List β} {z:β} (h:(a++b).length=l.length):(a++(b++[y])).length=(l++[z]).length:=by
 rw [← List.append_assoc,List.length_append,h,List.length_append];rfl
theorem TBs_ok {c:Cx} {w:World} (X:(KF w).In c.hb) (XO:KOut (KF w) c.Wb):∀ (a:Nat) (u:UF),TBs.lookup a=some u→UFOk c a u:=by
 have key:∀ p∈TBs,UFOk c p.1 p.2:=by
  unfold TBs
  simp -iota only [List.forall_mem_cons]
  exact ⟨⟨_,.inl (u_bisr X XO)⟩,⟨_,.inl (u_bisl X XO)⟩,fun _ h=>nomatch h⟩
 intro a u e
 exact key (a,u) (zcl e)
theorem counts_code (w:World):(zdi (KF w) 116).code=.ref 115:=by kernel_rfl
theorem counts_lamNm {w:World} {L:Addr}:(callEnvC (zdi (KF w) 116) L 116).qual++"<lambda>"=lamNm:=by
 have:(callEnvC (zdi (KF w) 116) L 116).qual=(zdi (KF w) 116).qualname++".<locals>.":=rfl
 rw [this]
 kernel_rfl
theorem counts_cell:(fnd 21).sc.names.lookup nRow=some .cell:=by decide +kernel
theorem counts_vars {r t e:Nat} {low high:Int}:((fnd 21).pos.map key).zip [AV.obj r,.obj t,.obj e,.int low,.int high]=cnV0 r t e low high:=by
 have:(fnd 21).pos.map key=[zaj,kk_told,zc9,zd1,zbr]:=by
  have:(fnd 21).pos=(["row","told","ends","low","high"]:List Str):=by kernel_rfl
  rw [this]
  simp -iota only [List.map_cons,List.map_nil]
  exact congr (congrArg List.cons zbg) (congr (congrArg List.cons zcg) (congr (congrArg List.cons zcn) (congr (congrArg List.cons zcc) (congr (congrArg List.cons zbc) rfl))))
 rw [this];rfl
theorem counts_k1 {r t e u:Nat} {low high:Int}:zab zd2 (.obj u) (cnV0 r t e low high)=cnV0 r t e low high++[(zd2,.obj u)]:=by kernel_rfl
theorem counts_st {r t e u k:Nat} {low high:Int}:st1 (fnd 21).sc (aN (za6 1 (fnd 21).body)) (.obj k) (cnV0 r t e low high++[(zd2,.obj u)])=some (cnV0 r t e low high++[(zd2,.obj u),(zbw,.obj k)]):=by
 have h:stOk (fnd 21).sc (aN (za6 1 (fnd 21).body))=true:=by decide +kernel
 rw [st1_of (stOk_st h)]
 have hk:key (aN (za6 1 (fnd 21).body))=zbw:=by
  have:aN (za6 1 (fnd 21).body)="key":=by kernel_rfl
  rw [this];exact hk_key
 rw [hk];kernel_rfl
theorem counts_nat {w:World} {h:Heap} {mg mb:Str→Option Value} (T:TopAt w h mg mb):NatOk (cxP w h [111] 0) 116 5 countsF:=by
 have O:TopOut w mg []:=zam
 have Ok:(cxP w h [111] 0).Ok:=cx_ok T.X T.Ng T.Nb T.hb T.nl O.g O.b O.s
 have U:UCells (cxP w h [111] 0) (fnd 21) 116 (zdi (KF w) 116):=u_counts (c:=cxP w h [111] 0) T.X O.K
 obtain ⟨fo0,hob1,hob2⟩:=U.obj
 refine ⟨⟨fo0,_,hob1,U.out,hob2⟩,?_⟩
 intro A σ H s args vvs r0 H' Rm S ra e0
 obtain ⟨H1,H2,r,t,e,u,low,high,rfl,Cturns,Ctab,⟨lr,lt,lo,le,p,Chr,Chu,Cht,Che,Crun,B,q0⟩⟩:=countsF_ok e0
 obtain ⟨rfl,rfl⟩:=Prod.mk.inj (show (r0,H')=(AV.obj H2.length,H2++[.list [.int p.1,.int p.2]]) from q0)
 clear q0 e0
 have hal:([AV.obj r,.obj t,.obj e,.int low,.int high]:List AV).length=(fnd 21).pos.length:=by kernel_rfl
 have hlen:=ra.length
 refine U.toUBase.rec_ S fun fo ho hd hcd=>?_
 intro Q E hq
 refine wpAny_call (codeAny_call_cells (by have:=Rm.depth;omega) ho hd (S.nolim Ok) hcd U.body (U.binds vvs (by rw [hlen,hal])) U.clo (cells_kinds U) (fun s1 X=>?_) (by rw [U.scope];exact U.co) (by rw [U.scope];exact U.gen) (by rw [U.scope];exact U.kind))
 obtain ⟨Fr0,hfr⟩:=frame_cells U S rfl ra hal X
 rw [counts_vars] at Fr0
 obtain ⟨h1,tk,hs1⟩:=X.toInCall.same
 have hk:∀ b o,s.heap.get? b=some o→h1.get? b=some o:=fun b o e=>by have:=X.toInCall.keep b o e;rw [hs1] at this;exact this
 have S1:St (cxP w h [111] 0) σ H s1:=S.keep X.toInCall.keep
 have hcode:(callEnvC (zdi (KF w) 116) s.heap.objs.size 116).code=.ref 115:=by
  show (zdi (KF w) 116).code=_
  exact counts_code w
 have hqn:(callEnvC (zdi (KF w) 116) s.heap.objs.size 116).qual++"<lambda>"=lamNm:=counts_lamNm
 generalize callEnvC (zdi (KF w) 116) s.heap.objs.size 116=env at Fr0 hfr hcode hqn ⊢
 have e1:exLGo (exS G2 (zbv G2 [] [] 1) za0 (fnd 21).sc) [za6 0 (fnd 21).body] (cnV0 r t e low high) H=some (.next,cnV0 r t e low high++[(zd2,.obj u)],H1):=by
  refine (c_countsH dB).2 _ dB_ok zb0 _ _ _ ?_
  rw [c_countsH_eq,as_s Cturns,counts_k1]
 have hcd0:zbx (cxP w h [111] 0) (zbv G2 [] [] 1) 1:=zb3 (c:=cxP w h [111] 0) (T:=[]) (TL:=[]) Ok (noTab _) 1
 rw [counts_body]
 refine zdt (c:=cxP w h [111] 0) (zbz Ok hcd0 za0) ((Rm.deeper env).le (by decide)) [za6 0 (fnd 21).body] Fr0 S1 e1 fun τ1 s2 a2 F2=>?_
 have S2:=a2.st
 have σl2:=S2.len
 refine cell_row (p:=r) F2 counts_cell (by
  have hk:key nRow=zaj:=zbg
  rw [hk];kernel_rfl) fun b pa hb1 hb2 hb3=>?_
 have h111:(σ++τ1)[0]?=some 111:=fx0 (Wb:=[]) S2
 refine wpAny_execs_cons (wpAny_Assign_Name (lam_make (mg:=mg) (mb:=mb) (H1:=H2) (top_at (Wb:=[]) T O S2) S2 counts_dflt F2.glob hcode (codeHd_of_K (top_at (Wb:=[]) T O S2).X (by kernel_rfl)) (closure_row hb1) h111 (Nat.zero_le _) hqn (by rw [cpos_ok];exact Ctab) fun τ2 f1 c1 ct1 h3 tk3 al hl2 rec1 hcf hcm hci=>?_) (swaps_no rfl))
 generalize hs3:({ s2 with heap:=h3,toks:=tk3 }:Shared)=s3 at al
 have hh3:s3.heap=h3:=by rw [← hs3]
 refine zca (F2.aft al) al.st (av:=.obj H2.length) ⟨f1,by rw [← List.append_assoc];exact zav hl2,rfl⟩ counts_st fun s4 a4 F4=>?_
 have a24:=a2.trans (by have:=al.toS.trans a4;rwa [List.append_nil] at this)
 have eL:σ++τ1++(τ2++[f1])=σ++((τ1++τ2)++[f1]):=by simp -iota only [List.append_assoc]
 rw [eL] at F4
 have A3:=AftS.leave (s:=s) hs1 hk a24 hfr
 rw [← List.append_assoc] at A3
 have hlc:(σ++(τ1++τ2)).length=H2.length:=by rw [← List.append_assoc];exact hl2
 generalize hτc:τ1++τ2=τc at F4 A3 hlc
 have hci':H2[(σ++τc).idxOf c1]?=some .code:=by rw [← hτc,← List.append_assoc];exact hci
 have hcm':c1∈σ++τc:=by rw [← hτc,← List.append_assoc];exact hcm
 have S4:=A3.st
 have Lget:∀ {i:Nat},i < H2.length→(σ++(τc++[f1]))[i]?=(σ++τc)[i]?:=fun {i} hi=>by
  rw [← List.append_assoc,List.getElem?_append_left (by rw [hlc];exact hi)]
 have dist:∀ {i j:Nat} {x:Addr},(σ++(τc++[f1]))[i]?=some x→(σ++(τc++[f1]))[j]?=some x→i=j:=fun h1 h2=>nodup_idx S4.nodup h1 h2
 have neq:∀ {i j:Nat} {x y:Addr},(σ++(τc++[f1]))[i]?=some x→(σ++(τc++[f1]))[j]?=some y→i≠j→x≠y:=fun h1 h2 hij q=>hij (dist h1 (q▸h2))
 have ms:∀ {i:Nat} {x:Addr},(σ++(τc++[f1]))[i]?=some x→x∈σ++(τc++[f1]):=fun h=>List.mem_of_getElem? h
 have h2r:=tabStep_get Ctab Chr
 have h2u:=tabStep_get Ctab Chu
 have h2t:=tabStep_get Ctab Cht
 have h2e:=tabStep_get Ctab Che
 have lt2:∀ {i:Nat} {o:AO},H2[i]?=some o→i < H2.length:=fun h=>(List.getElem?_eq_some_iff.mp h).1
 have hf1:(σ++(τc++[f1]))[H2.length]?=some f1:=by rw [← List.append_assoc];exact zav hlc
 have lt3:∀ {i:Nat},i < H2.length→i < (σ++(τc++[f1])).length:=fun hi=>by rw [S4.len,List.length_append];exact Nat.lt_add_right 1 hi
 refine cell_row (p:=r) F4 counts_cell (by
  have hk:key nRow=zaj:=zbg
  rw [hk];kernel_rfl) fun b' pa' hb1' hb2' hra=>?_
 rw [hb1] at hb1';obtain rfl:=sj hb1'
 obtain ⟨ua,hua⟩:=get2 (L:=σ++(τc++[f1])) (n:=u) (lt3 (lt2 h2u))
 obtain ⟨ta,hta⟩:=get2 (L:=σ++(τc++[f1])) (n:=t) (lt3 (lt2 h2t))
 obtain ⟨ea,hea⟩:=get2 (L:=σ++(τc++[f1])) (n:=e) (lt3 (lt2 h2e))
 refine ne4_ok B.ne fun nru nrt nre nut nue nte=>?_
 have up:∀ {i:Nat} {o:AO},H2[i]?=some o→∀ o',(H2++[o'])[i]?=some o:=fun h o'=>by rw [List.getElem?_append_left (lt2 h)];exact h
 have hLσ:env.locals∉σ++(τc++[f1]):=F4.outL
 generalize hW:[pa',ua,ta,ea,env.locals]=W
 have mW:∀ {P:Addr→Prop},P pa'→P ua→P ta→P ea→P env.locals→∀ a∈W,P a:=fun h1 h2 h3 h4 h5=>hW▸all5 h1 h2 h3 h4 h5
 have w1:pa'∈W:=hW▸List.mem_cons_self ..
 have w2:ua∈W:=hW▸List.mem_cons_of_mem _ (List.mem_cons_self ..)
 have w3:ta∈W:=hW▸List.mem_cons_of_mem _ (List.mem_cons_of_mem _ (List.mem_cons_self ..))
 have w4:ea∈W:=hW▸List.mem_cons_of_mem _ (List.mem_cons_of_mem _ (List.mem_cons_of_mem _ (List.mem_cons_self ..)))
 have w5:env.locals∈W:=hW▸List.mem_cons_of_mem _ (List.mem_cons_of_mem _ (List.mem_cons_of_mem _ (List.mem_cons_of_mem _ (List.mem_cons_self ..))))
 have hbn:∀ {i:Nat} {x:Addr},(σ++(τc++[f1]))[i]?=some x→h.get? x=none∨x∈([]:List Addr):=fun hx=>S4.fresh _ _ hx (Nat.zero_le _)
 have hWf:∀ a∈W,h.get? a=none∨a∈([]:List Addr):=mW (hbn hra) (hbn hua) (hbn hta) (hbn hea) (.inl F4.newL)
 have notW:∀ {i:Nat} {x:Addr},(σ++(τc++[f1]))[i]?=some x→i≠r→i≠u→i≠t→i≠e→x∉W:=fun hi n1 n2 n3 n4 q =>
  mW (P:=(_≠·)) (neq hi hra n1) (neq hi hua n2) (neq hi hta n3) (neq hi hea n4) (fun z=>hLσ (z▸ms hi)) _ q rfl
 have OW:TopOut w mg W:=TopOut.fresh T O hWf
 have T':TopAt w (eras s4.heap W) mg mb:=(top_at (Wb:=[]) T O S4).keep OW fun b o hb e=>zd7 hb e
 have Ok':(reC (cxP w h [111] 0) s4.heap W [f1,pa'] 1).Ok:=cx_ok T'.X T'.Ng T'.Nb T'.hb T'.nl O.g O.b O.s
 have nH:∀ {i:Nat} {o:AO},H2[i]?=some o→H2.length≠i:=fun h=>Nat.ne_of_gt (lt2 h)
 have nd':[f1,pa',ua,ta,ea].Nodup:=nodup5 (neq hf1 hra (nH h2r)) (neq hf1 hua (nH h2u)) (neq hf1 hta (nH h2t)) (neq hf1 hea (nH h2e)) (not3 (neq hra hua nru) (neq hra hta nrt) (neq hra hea nre)) (neq hua hta nut) (neq hua hea nue) (neq hta hea nte)
 have S':St (reC (cxP w h [111] 0) s4.heap W [f1,pa'] 1) [f1,pa',ua,ta,ea] [.opq fun _=>True,.list lr,.list lt,.list lo,.list le] s4 :=
  rebase_st S4 rfl (idx5 ⟨rfl,_,_,hf1,zav rfl,.inr (.inl ⟨_,_,rfl,rfl,fun _ _=>trivial⟩)⟩ ⟨B.c1,_,_,hra,up h2r _,.inl rfl⟩ ⟨B.c2,_,_,hua,up h2u _,.inl rfl⟩ ⟨B.c3,_,_,hta,up h2t _,.inl rfl⟩ ⟨B.c4,_,_,hea,up h2e _,.inl rfl⟩)
   nd' (fun j a e hj=>by
    match j,hj with
    | 1,_=>obtain rfl:=sj e;exact w1
    | 2,_=>obtain rfl:=sj e;exact w2
    | 3,_=>obtain rfl:=sj e;exact w3
    | 4,_=>obtain rfl:=sj e;exact w4
    | j + 5,_=>exact nsf e) ⟨[ua,ta,ea],rfl⟩ (show 1≤2 by decide) (fun j hj=>match j,hj with | 0,_=>⟨_,rfl⟩)
 have rel:∀ {i j:Nat} {x:Addr},(σ++(τc++[f1]))[i]?=some x→[f1,pa',ua,ta,ea][j]?=some x→∀ v,(AV.obj i).Rel (σ++(τc++[f1])) v→(AV.obj j).Rel [f1,pa',ua,ta,ea] v:=fun h1 h2 v ⟨y,g1,g2⟩=>by
  rw [h1] at g1;obtain rfl:=sj g1;exact ⟨_,h2,g2⟩
 have q1:key nRow=zaj:=zbg
 have q2:key "told"=kk_told:=zcg
 have q3:key "ends"=zc9:=zcn
 have q4:key "low"=zd1:=zcc
 have q5:key "high"=zbr:=zbc
 have q6:key "turns"=zd2:=hk_turns
 have q7:key "key"=zbw:=hk_key
 have F':SF (reC (cxP w h [111] 0) s4.heap W [f1,pa'] 1) (hid nRow (fnd 21).sc) [(key nRow,.obj 1),(key "told",.obj 3),(key "ends",.obj 4),(key "low",.int low),(key "high",.int high),(key "turns",.obj 2),(key "key",.obj 0)] env [f1,pa',ua,ta,ea] s4.heap:=by
  refine rebase_sf F4 counts_cell (all5 (ms hf1) (ms hra) (ms hua) (ms hta) (ms hea)) (fun x av' hx=>?_) (by kernel_rfl) w5 (fun x a hx hc _=>absurd (only_row hc) hx)
  have hm:=look_capN (l:=[(nRow,.obj 1),("told",.obj 3),("ends",.obj 4),("low",.int low),("high",.int high),("turns",.obj 2),("key",.obj 0)]) hx
  simp -iota only [List.mem_cons,Prod.mk.injEq,List.not_mem_nil,or_false] at hm
  rcases hm with ⟨rfl,rfl⟩ | ⟨rfl,rfl⟩ | ⟨rfl,rfl⟩ | ⟨rfl,rfl⟩ | ⟨rfl,rfl⟩ | ⟨rfl,rfl⟩ | ⟨rfl,rfl⟩
  ·exact ⟨.obj r,by rw [q1];kernel_rfl,rel hra rfl⟩
  ·exact ⟨.obj t,by rw [q2];kernel_rfl,rel hta rfl⟩
  ·exact ⟨.obj e,by rw [q3];kernel_rfl,rel hea rfl⟩
  ·exact ⟨.int low,by rw [q4];kernel_rfl,fun v r=>r⟩
  ·exact ⟨.int high,by rw [q5];kernel_rfl,fun v r=>r⟩
  ·exact ⟨.obj u,by rw [q6];kernel_rfl,rel hua rfl⟩
  ·exact ⟨.obj H2.length,by rw [q7];kernel_rfl,rel hf1 rfl⟩
 have hbσ:b∉σ++(τc++[f1]):=F4.outC nRow b hb1
 have hbne:∀ {i:Nat} {x:Addr},(σ++(τc++[f1]))[i]?=some x→b≠x:=fun h q=>hbσ (q▸ms h)
 have hbW:b∉W:=fun q=>mW (P:=(b≠·)) (hbne hra) (hbne hua) (hbne hta) (hbne hea) (F4.outLC nRow b hb1) b q rfl
 have hbf:b∉[f1,pa']:=fun q=>by
  rcases List.mem_cons.mp q with q | q
  ·exact hbne hf1 q
  ·exact hbne hra (List.mem_singleton.mp q)
 have hcL:(σ++(τc++[f1]))[(σ++τc).idxOf c1]?=some c1:=by
  rw [Lget (lt2 hci'),List.getElem?_eq_getElem (List.idxOf_lt_length_of_mem hcm')]
  exact congrArg some (List.getElem_idxOf _)
 have ncode:∀ {i:Nat} {l:List AV},H2[i]?=some (.list l)→(σ++τc).idxOf c1≠i:=fun h q=>by
  rw [q,h] at hci';cases hci'
 have hcW:c1∉W:=notW hcL (ncode h2r) (ncode h2u) (ncode h2t) (ncode h2e)
 have rec4:s4.heap.CodeRec (.ref c1) (env.qual++"<lambda>"):=by
  obtain ⟨oc,vc,tc,k1,k2,k3⟩:=S4.objs _ c1 _ hcL (up hci' _)
  exact ⟨c1,oc,vc,tc,rfl,k1,k2,by rw [hqn];exact k3⟩
 have hfo:=S4.objs _ f1 _ hf1 (zav rfl)
 have hfW:f1∉W:=notW hf1 (nH h2r) (nH h2u) (nH h2t) (nH h2e)
 have TO':TabOk (reC (cxP w h [111] 0) s4.heap W [f1,pa'] 1) TBs TLk:=by
  refine ⟨TBs_ok T'.X O.K,fun k u hu=>?_⟩
  match k with
  | 0 =>
   obtain rfl:=sj hu
   obtain ⟨ob,g1,g2⟩:=hfo
   subst g2
   exact ⟨f1,rfl,ulam_of g1 rec4 hcW hfW hbW hbf hb2' rfl⟩
  | k + 1=>exact nsf hu
 have hcall':=zb3 Ok' TO' 3
 obtain ⟨vf,hrun⟩:=cn_run Crun
 generalize hres:[AV.int p.1,.int p.2]=res at hrun hq
 have c5:zb1 0 res=true:=hres▸rfl
 have hgo:exLGo (exS G2 (zbv G2 TBs TLk 3) za0 (hid "row" (fnd 21).sc)) ((fnd 21).body.drop 2) [(key nRow,.obj 1),(key "told",.obj 3),(key "ends",.obj 4),(key "low",.int low),(key "high",.int high),(key "turns",.obj 2),(key "key",.obj 0)] [.opq fun _=>True,.list lr,.list lt,.list lo,.list le]=some (.ret (.obj 5),vf,cnG lr lt lo le++[.list res]):=by
  rw [q1,q2,q3,q4,q5,q6,q7]
  exact (c_countsR dK2).2 _ dK2_ok zb0 _ _ _ hrun
 refine (zcw (zbz Ok' hcall' za0) ((Rm.deeper env).le (by decide)) _ F' S' hgo).use fun τ' s5 fl a5 F5 r5=>?_
 cases r5 with
 | ret rr =>
  obtain ⟨y,hy,rfl⟩:=rr
  have hyτ:y∈τ':=by
   rw [List.getElem?_append_right (by exact Nat.le_refl 5)] at hy
   exact List.mem_of_getElem? hy
  have hy4:s4.heap.get? y=none:=a5.new y hyτ
  have back:∀ {a:Addr},s4.heap.get? a=none→s.heap.get? a=none:=fun {a} ha=>by
   cases q:s.heap.get? a with
   | none=>rfl
   | some o =>
    obtain ⟨o',q'⟩:=A3.pres.there a o q
    rw [ha] at q';exact nsf q'
  have hyτc:y∉τc:=fun q=>by
   obtain ⟨o,ho⟩:=S4.there (List.mem_append_right σ (List.mem_append_left [f1] q))
   rw [hy4] at ho;exact nsf ho
  have ndc:τc.Nodup:=by
   have:=S4.nodup
   rw [List.nodup_append,List.nodup_append] at this
   exact this.2.1.1
  have hclean:=(tabStep_clean Ctab S2.clean).2
  have σor:∀ {i:Nat} {x:Addr},(σ++(τc++[f1]))[i]?=some x→x∈σ∨s.heap.get? x=none:=fun hx=>(List.mem_append.mp (ms hx)).imp id fun q=>A3.new _ q
  have fin:Aft (cxP w h [111] 0) σ (H2++[.list res]) s (τc++[y]) s5:=by
   refine rebase_back2 S A3 a5 (fun a ha=>⟨?_,hWf a ha⟩) (len1 hlc) (fun k hk=>absurd hk (Nat.not_lt_zero _)) ?_ (fun a ha=>?_) (fun kk a o ea' eo=>?_)
   ·exact mW (P:=fun a=>a∈σ∨s.heap.get? a=none) (σor hra) (σor hua) (σor hta) (σor hea) (.inr (hfr _ (List.mem_cons_self ..))) a ha
   ·rw [List.nodup_append]
    exact ⟨ndc,List.nodup_cons.mpr ⟨List.not_mem_nil,List.nodup_nil⟩,fun x hx z hz q=>hyτc (List.mem_singleton.mp hz▸q▸hx)⟩
   ·rcases List.mem_append.mp ha with q | q
    ·exact A3.new a (List.mem_append_left _ q)
    ·rw [List.mem_singleton.mp q];exact back hy4
   ·by_cases hkk:kk < H2.length
    ·rw [← List.append_assoc,List.getElem?_append_left (by rw [hlc];exact hkk)] at ea'
     rw [List.getElem?_append_left hkk] at eo
     rw [← Lget hkk] at ea'
     have go:∀ {i j:Nat} {x:Addr} {l:List AV},kk=i→(σ++(τc++[f1]))[i]?=some x→H2[i]?=some (.list l)→zb1 0 l=true→[f1,pa',ua,ta,ea][j]?=some x→(cnG lr lt lo le++[.list res])[j]?=some (.list l)→j < 5 →
       (cleanO 0 o=true∧∃ (j:Nat) (o1:AO),([f1,pa',ua,ta,ea]++τ')[j]?=some a∧(cnG lr lt lo le++[.list res])[j]?=some o1∧opqLe o1 o):=fun {i j x l} hki hx hl hc hj hg h5=>by
      subst hki
      rw [hl] at eo;obtain rfl:=sj eo
      rw [hx] at ea';obtain rfl:=sj ea'
      exact ⟨hc,j,_,by rw [List.getElem?_append_left (by exact h5)];exact hj,hg,.inl rfl⟩
     by_cases k1:kk=r
     ·exact .inr (go (j:=1) k1 hra h2r B.c1 rfl rfl (by decide))
     by_cases k2:kk=u
     ·exact .inr (go (j:=2) k2 hua h2u B.c2 rfl rfl (by decide))
     by_cases k3:kk=t
     ·exact .inr (go (j:=3) k3 hta h2t B.c3 rfl rfl (by decide))
     by_cases k4:kk=e
     ·exact .inr (go (j:=4) k4 hea h2e B.c4 rfl rfl (by decide))
     exact .inl ⟨notW ea' k1 k2 k3 k4,by rw [hlc];exact hclean kk o eo,kk,o,ea',up eo _,.inl rfl⟩
    ·have hk':kk=H2.length:=by
      have:=(List.getElem?_eq_some_iff.mp eo).1
      simp -iota at this;omega
     subst hk'
     rw [← List.append_assoc,zav hlc] at ea';obtain rfl:=sj ea'
     rw [zav rfl] at eo;obtain rfl:=sj eo
     exact .inr ⟨c5,5,_,hy,rfl,.inl rfl⟩
  exact hq _ s5 _ fin ⟨y,by rw [← List.append_assoc];exact zav hlc,rfl⟩
theorem plain_enter {c:Cx} {A:Around} {σ:List Addr} {H:List AO} {s:Shared} {F:FnD} {a:Addr} {fd:FuncData} {args:List AV} {vvs:List Value} {vars:Vars} (O:c.Ok) (U:UPlain c F a fd) (S:St c σ H s) (ra:RelL σ args vvs) (hbd:F.binds args []=some vars) (hd:A.depth < recursionLimit) {R:Result→Shared→Prop}
  (h:∀ env s1,SF c F.sc vars env σ s1.heap→St c σ H s1→(∀ b o,s.heap.get? b=some o→s1.heap.get? b=some o)→(∀ b∈fadr env,s.heap.get? b=none)→env.cells=[]→s1.gens=s.gens→s1.os=s.os→env.frame=some env.locals →
   wpAny (model c.prog c.w) (A.deeper env) (execs F.body env) (fun f s'=>R (.ok (.ret (match f with | .ret v=>v | _=>.none))) s')
    (fun e s'=>wpAny (model c.prog c.w) (A.deeper env) (leaving env e) (fun _ s''=>R (.error e) s'') (fun e' s''=>R (.error e') s'') s') s1) :
  codeAny (model c.prog c.w) A (.call (.ref a) ⟨vvs,[]⟩) R s:=by
 obtain ⟨avs,vs,hb,hvars,rv,hlv⟩:=U.binds s σ _ [] _ vvs [] S.base ra trivial hbd
 refine U.toUBase.rec_ S fun fo ho hd' hcd=>?_
 have hlen:=rv.length
 have hnod:=ze4 U.nd (vs:=vs) (by omega)
 refine codeAny_call_def hd ho hd' (S.nolim O) hcd U.body hb (by rw [U.scope];exact U.nocell) (fun x hx=>by rw [U.scope];exact U.loc x.1 (List.of_mem_zip hx).1) (fun h₀ hns hk=>?_) (by rw [U.scope];exact U.co) (by rw [U.scope];exact U.gen) (by rw [U.scope];exact U.kind)
 generalize hL:s.heap.objs.size=L at hns
 have hLn:s.heap.get? L=none:=by rw [← hL];exact get?_size _
 have hsc:(callEnv fd L a).scope=F.sc:=U.scope
 have hcells:(callEnv fd L a).cells=[]:=U.clo
 have hks:∀ x,(callEnv fd L a).kindOf x=F.sc.names.lookup x:=fun x=>by unfold Env.kindOf;rw [hsc]
 obtain ⟨hL1,hL2⟩:=fresh_of S hLn
 have S1:St c σ H { s with heap:=h₀,toks:=s.toks + (F.names.zip vs).length }:=S.keep hk
 have Fr:SF c F.sc vars (callEnv fd L a) σ h₀:=by
  rw [hvars]
  refine ⟨⟨⟨by rw [hsc];exact U.kind,U.glob,U.blt,fun x hx=>(hks x).trans hx,fun x av hx hv=>?_,⟨_,hns⟩,hL2,fun x b hx=>(by rw [hcells] at hx;exact nsf hx),?_⟩,fun x b hx=>(by rw [hcells] at hx;exact nsf hx),fun x hx=>?_,fun x hx=>by rw [hks];exact hx⟩,
   ScR.rfl' hsc,fun x y b hx=>(by rw [hcells] at hx;exact nsf hx),fun x b hx=>(by rw [hcells] at hx;exact nsf hx),hL1,fun x b _ hx=>(by rw [hcells] at hx;exact nsf hx),fun b hb=>(by unfold fcells at hb;rw [hcells] at hb;cases hb)⟩
  ·obtain ⟨v,h1,h2,h3⟩:=zdy hx rv
   exact .inl ⟨(hks x).trans (U.loc x h3),_,v,hns,by rw [ze5 hnod];exact h1,h2⟩
  ·cases q:look (key ".0") ((F.names.map key).zip avs) with
   | none=>rfl
   | some w=>obtain ⟨_,_,_,h3⟩:=zdy q rv;exact absurd h3 U.nodot
  ·rcases hx with q | q
   ·exact absurd rfl (U.nocell _ (zag q))
   ·exact absurd rfl (U.nofree _ (zag q))
 exact h _ _ Fr S1 hk (fun b hb=>by
  rcases List.mem_cons.mp hb with q | q
  ·rw [q];exact hLn
  ·unfold fcells at q;rw [hcells] at q;cases q) hcells rfl rfl rfl
noncomputable def nVE:Str:="ValueError"
theorem ve_gl (w:World):glChk (KF w) nVE (.lit (.type "ValueError"))=true:=by kernel_rfl
theorem ve_eval {w:World} {M:Model} {A:Around} {s:Shared} {mg mb:Str→Option Value} {env:Env} {p:Pos} {Q:Value→Shared→Prop} {E:Value→Shared→Prop} (T:TopAt w s.heap mg mb) (hk:env.scope.kind=.function) (hx:env.kindOf nVE=some .globalImplicit) (hg:env.globals=mainGlobals) (hb:env.builtins=builtinsNs)
  (h:Q (.type "ValueError") s):wpAny M A (eval (.Name nVE p) env) Q E s:=by
 refine gl_ok T.X T.Ng T.Nb T.hb (ve_gl w) fun v mg' r hm hv=>?_
 have r':v=.type "ValueError":=r
 subst r'
 refine Name_function_global hk hx ?_ (by decide +kernel)
 rcases hv with hv | ⟨hn,mb',hmb,hv⟩
 ·exact loadGlobal_global (by rw [hg];exact hm) hv h
 ·exact loadGlobal_builtin (by rw [hg];exact hm) hn (by rw [hb];exact hmb) hv h
noncomputable def raX (s:Stmt):Expr:=(stV s).1
noncomputable def raQ (s:Stmt):Pos:=stQ s
noncomputable def a0 (e:Expr):Expr:=match cA e with
 | x::_=>x
 | []=>.Constant .none 0 ⟨0,0,0,0⟩
noncomputable def csS (e:Expr):Str:=nmS e
noncomputable def csP (e:Expr):Pos:=e.pos
noncomputable def raiseOf (st:Stmt):Stmt:=.Raise (some (.Call (.Name nVE (cP (raX st))) [.Constant (.str (csS (a0 (raX st)))) 0 (csP (a0 (raX st)))] [] (cQ (raX st)))) none (raQ st)
theorem ve_raise {w:World} {A:Around} {s:Shared} {mg mb:Str→Option Value} {env:Env} {st:Stmt} {Q:Flow→Shared→Prop} {E:Value→Shared→Prop} (hh:A.handled=none) (T:TopAt w s.heap mg mb) (hk:env.scope.kind=.function) (hx:env.kindOf nVE=some .globalImplicit) (hg:env.globals=mainGlobals) (hb:env.builtins=builtinsNs)
  (h:∀ h' e vs tk,Heap.MadeExc s.heap h' e "ValueError" vs→E (.ref e) { s with heap:=h',toks:=tk }):wpAny (model PG w) A (exec (raiseOf st) env) Q E s:=by
 refine Raise_madeB PySem.F.excCall_ValueError PySem.F.excRaise_ValueError hh (ve_eval T hk hx hg hb ⟨rfl,?_⟩)
 refine spliced_more (Constant_str ?_)
 refine spliced_none ⟨?_,fun h' e hm=>?_⟩
 ·size_fits
 ·exact h _ _ _ _ hm
structure LoChk (F:FnD) (vars:Value→Vars):Prop where
 body:F.body=.If (ifT (za6 0 F.body)) [raiseOf (za6 0 (ifB (za6 0 F.body)))] [] (stQ (za6 0 F.body))::F.body.drop 1
 binds:∀ v,F.binds [.lit v,.int 1,.int (-1)] []=some (vars v)
 test:∀ v H,tst G2 (zbv G2 [] [] 1) za0 F.sc (vars v) (ifT (za6 0 F.body)) H=some (true,H)
 kd:F.sc.names.lookup nVE=some .globalImplicit
noncomputable def loV (v:Value):Vars:=[(key "a",.lit v),(key "x",.int 1),(key "lo",.int (-1)),(key "hi",.lit .none),(key "key",.lit .none)]
theorem loL:LoChk (fnd 4) loV:=⟨by kernel_rfl,fun v=>by kernel_rfl,fun v H=>by kernel_rfl,by decide +kernel⟩
theorem loR:LoChk (fnd 2) loV:=⟨by kernel_rfl,fun v=>by kernel_rfl,fun v H=>by kernel_rfl,by decide +kernel⟩
theorem bis_raise {w:World} {A:Around} {s:Shared} {mg mb:Str→Option Value} {F:FnD} {a:Addr} {fd:FuncData} {vars:Value→Vars} (LC:LoChk F vars) (T:TopAt w s.heap mg mb) (U:UPlain (gC w s.heap []) F a fd) (Rm:Room A 3) {B:Heap} {outer:List Env} (hfr:A.frames=some outer) (hB:B.StaysIn s.heap) (hF:s.heap.FunFrames B outer)
  {vr:Value} {t1 t2:Tok} {Q:Value→Shared→Prop} {E:Value→Shared→Prop}
  (hE:∀ e a0 s',Heap.FlyingW B outer e (.type "ValueError") a0 s'.heap→s.heap.UpToSlots s'.heap→GMore s.gens s'.gens→s'.os=s.os→E (.ref e) s'):wpAny (model PG w) A (PySem.call (.ref a) [vr,.int 1 t1,.int (-1) t2] []) Q E s:=by
 obtain ⟨Te,Ok⟩:=gC_ok (W:=[]) T zam
 have S:St (gC w s.heap []) [] [] s:=⟨fun b o _ e=>(zbq e).2,rfl,fun k a o e=>(nomatch e),List.nodup_nil,fun k a e=>(nomatch e),⟨[],rfl⟩,fun k hk=>absurd hk (Nat.not_lt_zero _),fun b o e=>⟨o,(zbq e).2⟩,Nat.le_refl _⟩
 have ra:RelL [] [AV.lit vr,.int 1,.int (-1)] [vr,.int 1 t1,.int (-1) t2]:=⟨rfl,⟨t1,rfl⟩,⟨t2,rfl⟩,trivial⟩
 refine wpAny_call (plain_enter (c:=gC w s.heap []) Ok U S ra (LC.binds vr) (by have:=Rm.depth;omega) fun env s1 Fr S1 hk hfr1 hcells hg1 ho1 hfe=>?_)
 have hcall:zbx (gC w s.heap []) (zbv G2 [] [] 1) 1:=zb3 (c:=gC w s.heap []) (T:=[]) (TL:=[]) Ok (noTab _) 1
 rw [LC.body]
 refine wpAny_execs_cons (wpAny_If (((zbf (c:=gC w s.heap []) Ok hcall za0).2 _ _ _ env _ [] _ [] [] s1 ((Rm.deeper env).le (by decide)) Fr.toFr' S1 (LC.test vr [])).use fun τ s2 b a2 rb=>?_))
 cases tau_nil a2
 subst rb
 rw [if_pos rfl]
 have F2:=Fr.aft a2
 rw [List.append_nil] at F2
 have k2:∀ b o,s.heap.get? b=some o→s2.heap.get? b=some o:=fun b o e=>a2.pres.keep b o (fun q=>nomatch q) (hk b o e)
 have T2:TopAt w s2.heap mg mb:=T.keep (W:=[]) zam fun b o _ e=>k2 b o e
 have kV:env.kindOf nVE=some .globalImplicit:=F2.gk nVE LC.kd
 refine wpAny_execs_cons (ve_raise (Rm.deeper env).handled T2 F2.kind kV F2.glob F2.blt fun h' e vs tk hm=>?_)
 have hLn:s.heap.get? env.locals=none:=hfr1 _ (List.mem_cons_self ..)
 obtain ⟨mm,hmm⟩:=F2.ns
 have hBL:B.get? env.locals=none:=by
  cases q:B.get? env.locals with
  | none=>rfl
  | some o=>rw [hB _ o q] at hLn;exact snf hLn
 refine wpAny_leaves_madeW (h:=s2.heap) (outer:=outer) (Around.frames_deeper hfr) hfe (fun b o e=>k2 b o (hB b o e)) (Heap.FunFrames.cons (by rw [F2.kind];decide) hfe hmm hBL (hF.of_keeps fun b o e _=>⟨o,k2 b o e,rfl⟩)) (Heap.MadeExc.of hm) fun h'' t hfl _ _ hup=>?_
 refine hE e _ _ hfl ?_ ?_ ?_
 ·exact ((Heap.UpToSlots.of_keeps k2).trans (Heap.UpToSlots.of_keeps hm.keeps)).trans hup
 ·have:=a2.pres.gens
  rwa [hg1] at this
 ·exact a2.pres.os.trans ho1
theorem sub_ve_stop:isSubtype (.type "ValueError") (.type "StopIteration")=pure false:=by rw [isSubtype_type];kernel_rfl
theorem sub_ve_ve:isSubtype (.type "ValueError") (.type "ValueError")=pure true:=by rw [isSubtype_type];kernel_rfl
theorem sub_ve_base:isSubtype (.type "ValueError") (.type "BaseException")=pure true:=by rw [isSubtype_type];kernel_rfl
theorem sub_ve_tup:isSubtype (.type ((Manifest.find? "ValueError").elim "type" fun x=>x.metatype)) (.type "tuple")=pure false:=by
 rw [isSubtype_type];kernel_rfl
theorem pyNext_raise {prog:Program} {w:World} {A:Around} {s:Shared} {a:Addr} {g:Nat} {gs:GenState} {P:Addr→Shared→Prop} {Q:Option Value→Shared→Prop} {E:Value→Shared→Prop} (hh:A.handled=none)
  (hl:s.heap.NoLimit) (hroom:A.depth < recursionLimit)
  (hg:s.heap.IsGen a g) (hgs:s.gens[g]?=some gs)
  (hgo:gs.Goes (model prog w) A.in1 (fun _ _ r s₁=>∃ e,r=.error (.ref e)∧s₁.TypeIs (.ref e) "ValueError"∧s₁.heap.IsGen a g∧P e s₁) (fun _ _ _ _ _=>False) 0 (.send .none) (s.setGen g .running))
  (hE:∀ e s₁,P e s₁→E (.ref e) (s₁.setGen g .finished)) :
  wpAny (model prog w) A (pyNext (.ref a)) Q E s:=by
 unfold pyNext
 refine wpAny_bind (wpAny_attempt (wpAny_callSpecial?_slot (name:=Str.ofString "__next__") hg.typeIs slot_gen_next
  (wpAny_call_entry slot_gen_next hg.typeIs entry_gen_next ?_ (args_gen_next _))))
 show wpAny _ _ (Builtin.Generator.genWake (.ref a) (.send .none)) _ _ s
 unfold Builtin.Generator.genWake
 refine wpAny_bind (wpAny_holding (wpAny_genNumber hg (wpAny_bind (wpAny_genState hgs ?_))))
 cases gs with
 | running=>exact hgo.elim
 | finished=>exact hgo.elim
 | _ =>
  refine wpAny_bind (wpAny_roomToWake hl hroom ?_)
  show wpAny _ _ (.resume g (.send .none) [] _) _ _ s
  refine wpAny_resumeQ hgs hgo (fun x s₁ hx=>?_) (fun v s₁ gs' hb hv=>hv.elim)
  obtain ⟨e,rfl,ht,hG,hp⟩:=hx
  show wpAny _ _ (Builtin.Generator.genLeft (.ref a) (.ref e)) _ _ _
  unfold Builtin.Generator.genLeft Builtin.Generator.madeByALambda
  obtain ⟨o,nm,qn,ho,hc,hd,hs⟩:=hG
  refine wpAny_bind (wpAny_bind (wpAny_load ho ?_))
  rw [hc,hd]
  refine wpAny_pure ?_
  have ht':(s₁.setGen g .finished).TypeIs (.ref e) "ValueError":=ht
  refine wpAny_bind (wpAny_isInstance ht' sub_ve_stop ?_)
  rw [Bool.and_false,if_neg (by decide)]
  unfold Builtin.Generator.genEscaped
  refine wpAny_bind (wpAny_isInstance ht' sub_ve_stop ?_)
  rw [Bool.not_false,if_pos rfl]
  refine wpAny_bind (wpAny_throw ?_)
  refine wpAny_bind (wpAny_isInstance ht' sub_ve_stop ?_)
  rw [if_neg (by decide)]
  exact wpAny_throw (hE e s₁ hp)
section
variable {M:Model} {A:Around} {Q:Unit→Shared→Prop} {E:Value→Shared→Prop} {s:Shared} {env:Env} {outer:List Env} {L e:Addr} {vs:List Value} {h B:Heap}
theorem note_new (hfr:A.frames=some (env::outer)) (hf:env.frame=some L) (hx:Heap.MadeExc h s.heap e "ValueError" vs) (hB:B.StaysIn h) (hF:h.FunFrames B (env::outer))
  (hq:∀ h' a0,Heap.HeldW B (env::outer) e (.type "ValueError") a0 L h'→s.heap.UpToSlots h'→Q () { s with heap:=h' }):wpAny M A (noteFrame (.ref e) env) Q E s:=by
 obtain ⟨t,he,htn,ht⟩:=hx.there
 have hen:B.get? e=none:=by
  cases q:B.get? e with
  | none=>rfl
  | some o=>have:=hx.new;rw [hB _ o q] at this;exact snf this
 unfold noteFrame
 simp -iota only [hf]
 refine wpAny_bind (wpAny_field he rfl (x:=.none) rfl ?_)
 rw [if_neg (by decide)]
 refine wpAny_entryW (a0:=.ref t) hfr (hF.of_keeps fun b o hb _=>⟨o,hx.keeps b o hb,rfl⟩) hf he (fun b o eb=>hx.keeps b o (hB b o eb)) hen rfl (by show 1 < 6;decide) rfl fun h' hN=>?_
 obtain ⟨k1,k2,k3,k4⟩:=hN
 exact hq h' _ ⟨k1,hen,k2,k3⟩ k4
theorem flight_same {l:List Env} {cls a0:Value} (R:Heap.HeldW B l e cls a0 L s.heap) (hq:∀ h',Heap.HeldW B l e cls a0 L h'→s.heap.UpToSlots h'→Q () { s with heap:=h' }):wpAny M A (setFlight (.ref e) (some L)) Q E s:=by
 obtain ⟨hkb,hen,hl,oe,vs,T,oT,ts,he,hcls,hd,h1,hnT,hTe,hT,hdT,h3⟩:=R
 have hsz3:3 < ts.size:=(Array.getElem?_eq_some_iff.mp h3).1
 have other:∀ b,b≠T→(s.heap.update T (Obj.mapFields (·.setIfInBounds 3 ((some L).elim Value.none fun f=>rawInt f)))).get? b=s.heap.get? b :=
  fun b hb=>Heap.get?_update_other _ _ (Ne.symm hb)
 have noRecord:∀ b o,s.heap.get? b=some o→(∀ vs,o.data≠.fields vs)→b≠T:=fun b o hb hnf q=>by
  rw [q,hT] at hb;injection hb with hb;subst hb;exact hnf ts hdT
 unfold setFlight
 refine wpAny_bind (wpAny_field he hd h1 ?_)
 rw [if_pos (show (Value.ref T != Value.none)=true from by simp -iota)]
 refine wpAny_setField hT hdT hsz3 (hq _ ⟨fun b o hbo=>(other b fun q=>by rw [q,hnT] at hbo;cases hbo).trans (hkb b o hbo),hen,
  hl.of_keeps fun b o hb hnf=>⟨o,(other b (noRecord b o hb hnf)).trans hb,rfl⟩,?_⟩ fun b o hb hnf=>⟨o.slots,(other b (noRecord b o hb hnf)).trans hb⟩)
 exact ⟨oe,vs,T,_,_,(other e (Ne.symm hTe)).trans he,hcls,hd,h1,hnT,hTe,Heap.get?_update_self _ hT (Obj.isFreed_of_fields (Obj.data_mapFields hdT _)),Obj.data_mapFields hdT _,by simp -iota [hsz3]⟩
end
theorem over_frames {A:Around} {t:Expr} {it:Value} {b o body:List Stmt} {env:Env} {K H gd lv p} {outer:List Env} (h:A.frames=some outer):(A.over (.forLoop t it b o env) [backFrom K H gd lv env (.func body env) p]).frames=some (env::outer):=by
 unfold Around.over
 dsimp only
 rw [h]
 rfl
theorem g_t3n {call:CallT} {l:Addr} {x:Int} {H:List AO}:tst G2 call za0 (fnd 7).sc (tv l (.lit .none) x) (ifT (genC 0)) H=some (true,H):=by kernel_rfl
theorem gen_rs:ifB (genC 0)=[raiseOf (za6 0 (ifB (genC 0)))]:=by kernel_rfl
theorem gen_kd:(fnd 7).sc.names.lookup nVE=some .globalImplicit:=by decide +kernel
noncomputable def PE (B:Heap) (outer:List Env) (h3:Heap) (g0:Array GenState) (os:OsState) (e:Addr) (s₁:Shared):Prop:=(∃ a0,Heap.FlyingW B outer e (.type "ValueError") a0 s₁.heap)∧h3.UpToSlots s₁.heap∧GMore g0 s₁.gens∧s₁.os=os
theorem goes_raise {w:World} {s:Shared} {envg:Env} {la G:Addr} {g:Nat} {xs:List Int} {A:Around} {mg mb:Str→Option Value} {B h3:Heap} {outer:List Env} (T:TopAt w h3 mg mb) (Fx:GFix s.heap envg la) (Ok:(gC w s.heap [envg.locals]).Ok) (sf:SF (gC w s.heap [envg.locals]) (fnd 7).sc [(key nG,.lit (.ref la))] envg [] s.heap)
  (li:LiI la (0::xs) s.heap) (Rm:Room A 4) (hfr:A.frames=some outer) (hB:B.StaysIn s.heap) (hBL:B.get? envg.locals=none) (hF:h3.FunFrames B outer) (hef:envg.frame=some envg.locals) (hG:s.heap.IsGen G g) (hGB:∀ o,s.heap.get? G=some o→B.get? G=some o)
  (h3s:∀ b o,h3.get? b=some o→s.heap.get? b=some o) (h3L:h3.get? envg.locals=none) :
  GenState.Goes (model PG w) A.in1 (fun _ _ r s₁=>∃ e,r=.error (.ref e)∧s₁.TypeIs (.ref e) "ValueError"∧s₁.heap.IsGen G g∧PE B outer h3 (s.setGen g .running).gens s.os e s₁) (fun _ _ _ _ _=>False) 0 (.fresh (.func (fnd 7).body envg)) (.send .none) (s.setGen g .running):=by
 generalize hs':s.setGen g .running=s'
 have hh':s'.heap=s.heap:=by rw [← hs'];rfl
 have ho':s'.os=s.os:=by rw [← hs'];rfl
 refine ⟨rfl,?_⟩
 have hd:=Rm.depth
 have hu:=Rm.units
 have RmI:Room A.in1 2:=⟨Rm.handled,by show A.depth + 2 < recursionLimit;omega,by show A.units + 1 + 8 * 2 < cLine;omega⟩
 have Rm0:Room (A.in1.over (.func (fnd 7).body envg) []) 1:=room0 RmI
 have hcall:zbx (gC w s.heap [envg.locals]) (zbv G2 [] [] 1) 1:=zb3 (c:=gC w s.heap [envg.locals]) (T:=[]) (TL:=[]) Ok (noTab _) 1
 have hS:St (gC w s.heap [envg.locals]) [] [] s':=⟨fun b o _ e=>by rw [hh'];exact (zbq e).2,rfl,fun k a o e=>(nomatch e),List.nodup_nil,fun k a e=>(nomatch e),⟨[],rfl⟩,fun k hk=>absurd hk (Nat.not_lt_zero _),fun b o e=>⟨o,by rw [hh'];exact (zbq e).2⟩,Nat.le_refl _⟩
 have hF0:SF (gC w s.heap [envg.locals]) (fnd 7).sc [(key nG,.lit (.ref la))] envg [] s'.heap:=by rw [hh'];exact sf
 refine seg_func ?_
 show Seg _ _ _ _ 0 s' _ ((execs (fnd 7).body envg).wrap Kf (Hf envg) id id) [] s'
 conv=>arg 7;rw [gen_body]
 refine seg_execs_cons (seg_wrap ?_)
 refine (zbz (c:=gC w s.heap [envg.locals]) Ok hcall za0 _ _ _ envg _ [] _ [] s' Rm0 hF0 hS g_s0).use fun τ s1 fl a F r=>?_
 cases tauS_nil a
 cases r
 have hk1:∀ b o,b≠envg.locals→s'.heap.get? b=some o→s1.heap.get? b=some o:=fun b o hb e=>a.pres.keep b o (by rw [fadr_nil Fx];simpa -iota using hb) e
 obtain ⟨vs,⟨ol,hol,hcl,hdl⟩,rel⟩:=li
 rw [← hh'] at hol
 have hli1:s1.heap.IsList la vs.toArray:=⟨ol,hk1 la ol Fx.ne hol,hcl,hdl⟩
 have F1:SF (gC w s.heap [envg.locals]) (fnd 7).sc [(key nG,.lit (.ref la)),(key nL,.lit .none)] envg [] s1.heap:=by simpa -iota using F
 have S1:St (gC w s.heap [envg.locals]) [] [] s1:=a.st
 show Seg _ _ _ _ 0 s' _ ((execs [.For (.Name nI (nmP (forT (genS 1)))) (.Name nG (nmP (forI (genS 1)))) (ifB (genS 1)) [] (stQ (genS 1))] envg).wrap Kf (Hf envg) id id) [] s1
 refine seg_execs_cons (seg_For ?_ (fun x=>rfl))
 refine ((zbf (c:=gC w s.heap [envg.locals]) Ok hcall za0).1 _ _ _ envg _ [] _ [] [] s1 Rm0 F1.toFr' S1 g_it).use fun τ s2 x a2 r2=>?_
 cases tau_nil a2
 have r2':x=.ref la:=r2
 subst r2'
 have hk2:∀ b o,s1.heap.get? b=some o→s2.heap.get? b=some o:=fun b o e=>a2.pres.keep b o (fun q=>nomatch q) e
 have hli2:s2.heap.IsList la vs.toArray:=let ⟨o,ho,r⟩:=hli1;⟨o,hk2 la o ho,r⟩
 have F2:SF (gC w s.heap [envg.locals]) (fnd 7).sc [(key nG,.lit (.ref la)),(key nL,.lit .none)] envg [] s2.heap:=by simpa -iota using F1.aft a2
 have S2:St (gC w s.heap [envg.locals]) [] [] s2:=by simpa -iota using a2.st
 refine wpAny_pyIter_list hli2 fun p=>?_
 generalize hob:({ cls:=.type "list_iterator",data:=.fields #[.ref la,.int 0 0] }:Obj)=ob
 have hk3:∀ b o,s2.heap.get? b=some o→(s2.heap.push ob).get? b=some o:=fun b o e=>Heap.get?_push_of_some _ e
 have hth:∀ b o,s'.heap.get? b=some o→∃ o',s2.heap.get? b=some o':=fun b o e=>by
  obtain ⟨o',e'⟩:=a.pres.there b o e
  exact ⟨o',hk2 b o' e'⟩
 have hnew:s.heap.get? s2.heap.objs.size=none:=by
  cases q:s.heap.get? s2.heap.objs.size with
  | none=>rfl
  | some o =>
   rw [← hh'] at q
   obtain ⟨o',e'⟩:=hth _ o q
   rw [get?_size] at e';exact nsf e'
 generalize hs3:({ s2 with heap:=s2.heap.push ob }:Shared)=s3
 have hh3:s3.heap=s2.heap.push ob:=by rw [← hs3]
 have B3:GB w s.heap [envg.locals] envg la (0::xs) [(key nG,.lit (.ref la)),(key nL,.lit .none)] s2.heap.objs.size 0 s3:=by
  refine ⟨by rw [← hs3];exact S2.keep hk3,?_,hnew,⟨ob,by rw [hh3];exact Heap.get?_push_size _ (by rw [← hob];rfl),by rw [← hob],by rw [← hob];rfl⟩,vs,?_,rel⟩
  ·rw [hh3]
   refine F2.move (I:=s2.heap.objs.size) (fun q=>?_) fun b o _ e=>hk3 b o e
   rw [fadr_nil Fx] at q
   simp -iota at q
   obtain ⟨o,ho⟩:=Fx.hL
   rw [q,ho] at hnew;exact snf hnew
  ·obtain ⟨o,ho,r⟩:=hli2
   exact ⟨o,by rw [hh3];exact hk3 la o ho,r⟩
 have kp3:Kp s.heap envg.locals s' s3:=⟨fun b o hb _ e=>by rw [hh3];exact hk3 b o (hk2 b o (hk1 b o hb e)),fun b o _ e=>let ⟨o',e'⟩:=hth b o e;⟨o',by rw [hh3];exact hk3 b o' e'⟩,by rw [← hs3];exact a.pres.gens.trans a2.pres.gens,by rw [← hs3];exact a2.pres.os.trans a.pres.os⟩
 clear hk3 hth hk2 hk1 F2 S2 a2 F1 S1 hli1 hli2 a F
 generalize s2.heap.objs.size=I at B3 hnew
 have Rm1:Room (A.in1.over (fLoop envg I) [frF envg (fnd 7).body p]) 1:=room1 RmI
 refine seg_forLoop (fun E=>?_) (fun v=>rfl)
 obtain ⟨vs',hli,rel'⟩:=B3.li
 have hIL:I≠envg.locals:=fun q=>by
  obtain ⟨o,ho⟩:=Fx.hL
  rw [q,ho] at hnew;exact snf hnew
 have hIl:la≠I:=fun q=>by
  obtain ⟨o,ho⟩:=Fx.hl
  rw [← q,ho] at hnew;exact snf hnew
 obtain ⟨t,hv⟩:=relI (i:=0) rel' rfl
 refine wpAny_pyNext_list_item B3.it hli (x:=.int 0 t) (by simpa -iota using hv) fun h' hit hsb=>?_
 intro E
 have hk':∀ b o,b≠I→s3.heap.get? b=some o→h'.get? b=some o:=fun b o hb e=>(hsb.2 b hb).trans e
 have hthere:∀ b o,s3.heap.get? b=some o→∃ o',h'.get? b=some o':=fun b o e=>by
  by_cases q:b=I
  ·subst q;obtain ⟨o',ho',_⟩:=hit;exact ⟨o',ho'⟩
  ·exact ⟨o,hk' b o q e⟩
 have neI:∀ {b:Addr},(∃ o,s.heap.get? b=some o)→b≠I:=fun {b} ⟨o,ho⟩ q=>by
  rw [q,hnew] at ho;exact nsf ho
 generalize hs4:({ s3 with heap:=h' }:Shared)=s4
 have hh4:s4.heap=h':=by rw [← hs4]
 rw [← hh4] at hk' hthere hit
 have k34:Kp s.heap envg.locals s3 s4:=⟨fun b o hb ho e=>hk' b o (neI ho) e,fun b o _ e=>hthere b o e,by rw [← hs4];exact .refl _,by rw [← hs4]⟩
 have hI2:(gC w s.heap [envg.locals]).hb.get? I=none:=by
  show (eras s.heap [envg.locals]).get? I=none
  rw [zbs,hnew];split<;>rfl
 have hIf:I∉fadr envg:=by rw [fadr_nil Fx];simpa -iota using hIL
 have S4:St (gC w s.heap [envg.locals]) [] [] s4:=B3.st.keepOn (fun b o _ e=>hk' b o (fun q=>by rw [q,hI2] at e;exact nsf e) (B3.st.base b o (fun q=>nomatch q) e)) (fun a o ha=>nomatch ha) (fun b o e=>by
  obtain ⟨o',e'⟩:=B3.st.live b o e
  exact hthere b o' e')
 have F4:SF (gC w s.heap [envg.locals]) (fnd 7).sc [(key nG,.lit (.ref la)),(key nL,.lit .none)] envg [] s4.heap:=B3.sf.move hIf hk'
 have B4:GB w s.heap [envg.locals] envg la (0::xs) [(key nG,.lit (.ref la)),(key nL,.lit .none)] I 1 s4:=⟨S4,F4,hnew,hit,vs',by
  obtain ⟨o,ho,r⟩:=hli
  exact ⟨o,hk' la o hIl ho,r⟩,rel'⟩
 refine wpAny_assign_Name (zca F4 S4 (av:=.int 0) ⟨t,rfl⟩ g_st0 fun s5 a5 F5=>?_)
 obtain ⟨B5,k5⟩:=B4.step Fx a5 F5
 rw [gen_for]
 refine seg_execs_cons (seg_If (B5.test Fx Ok hcall Rm1 g_t1 fun s6 B6 k6=>?_))
 rw [if_neg (by decide)]
 refine seg_execs_nil ?_
 show Seg _ _ _ _ _ _ _ ((execs _ envg).wrap _ _ _ _) _ _
 refine seg_execs_cons (seg_If (B6.test Fx Ok hcall Rm1 g_t2 fun s7 B7 k7=>?_))
 rw [if_pos (by decide)]
 rw [gen_zero]
 refine seg_execs_cons (seg_If (B7.test Fx Ok hcall Rm1 g_t3n fun s8 B8 k8=>?_))
 rw [if_pos rfl,gen_rs]
 have K8:=((((kp3.trans k34).trans k5).trans k6).trans k7).trans k8
 have kall:∀ b o,b≠envg.locals→s.heap.get? b=some o→s8.heap.get? b=some o:=fun b o hb e=>K8.1 b o hb ⟨o,e⟩ (by rw [hh'];exact e)
 have k38:∀ b o,h3.get? b=some o→s8.heap.get? b=some o:=fun b o e=>kall b o (fun q=>by rw [q,h3L] at e;exact nsf e) (h3s b o e)
 have T8:TopAt w s8.heap mg mb:=T.keep zam fun b o _ e=>k38 b o e
 have F8:=B8.sf
 refine seg_execs_cons (seg_wrap (ve_raise Rm1.handled T8 F8.kind (F8.gk nVE gen_kd) F8.glob F8.blt fun h' e vs tk hm=>?_))
 obtain ⟨mm,hmm⟩:=F8.ns
 have hB8:B.StaysIn s8.heap:=fun b o e=>kall b o (fun q=>by rw [q,hBL] at e;exact nsf e) (hB b o e)
 have hFF:s8.heap.FunFrames B (envg::outer):=Heap.FunFrames.cons (by rw [F8.kind];decide) hef hmm hBL (hF.of_keeps fun b o e _=>⟨o,k38 b o e,rfl⟩)
 show Seg _ _ _ _ _ _ _ ((do noteFrame (.ref e) envg;theTreesLotGoes (.ref e):Sem Unit).wrap (fun _=>.raise (.ref e)) .raise id id) _ _
 refine seg_wrap (wpAny_bind (note_new (h:=s8.heap) (over_frames (by rw [Around.in1_frames];exact hfr)) hef hm hB8 hFF fun h2 a0 hh up1=>wpAny_theTreesLotGoes ?_))
 show Seg _ _ _ _ _ _ _ (leafOf (.error (.ref e))) _ _
 unfold backFrom
 refine seg_leaf (r:=.error (.ref e)) ?_
 refine seg_wrap (wpAny_onRaise (wpAny_throw ?_))
 obtain ⟨_,_,_,oe,ws,T',oT,ts,he,_,hd',h1,_⟩:=id hh
 refine wpAny_bind (wpAny_field he hd' h1 ?_)
 rw [if_neg (show ¬ ((Value.ref T' == Value.none)=true) from by simp -iota),hef]
 refine flight_same hh fun h4 hh4 up2=>?_
 show Seg _ _ _ _ _ _ _ ((leaving envg (.ref e)).wrap (fun _=>.raise (.ref e)) .raise id id) _ _
 refine seg_wrap ?_
 unfold leaving
 refine wpAny_bind (wpAny_noteFrame_againW hef hh4.2.2.2 (wpAny_landsW hh4 fun h5 hfl up3=>?_))
 show Seg _ _ _ _ _ _ _ (leafOf (.error (.ref e))) _ _
 obtain ⟨f1,f2,⟨_,_,f3⟩,f4⟩:=hfl
 refine seg_end (.error (.ref e)) ⟨e,rfl,?_,?_,⟨a0,f1,f2,f3,f4⟩,?_,?_,?_⟩
 ·obtain ⟨oe',_,_,_,_,he',hc',_⟩:=f4
  exact ⟨oe',he',hc'.1⟩
 ·obtain ⟨o,nm,qn,ho,r⟩:=hG
  exact ⟨o,nm,qn,f1 G o (hGB o ho),r⟩
 ·exact (((Heap.UpToSlots.of_keeps k38).trans (Heap.UpToSlots.of_keeps hm.keeps)).trans up1).trans (up2.trans up3)
 ·exact K8.2.2.1
 ·exact K8.2.2.2.trans ho'
noncomputable def rS (k:Nat):Stmt:=za6 k (fnd 18).body
noncomputable def trB (s:Stmt):List Stmt:=ifB s
noncomputable def trQ (s:Stmt):Pos:=stQ s
noncomputable def hdX:Stmt→List ExceptHandler
 | .Try _ h _ _ _=>h
 | _=>[]
noncomputable def hdV:List ExceptHandler→Expr×Stmt×Pos
 | .ExceptHandler (some e) _ (b::_) p::_=>(e,b,p)
 | _=>(dE,.Pass ⟨0,0,0,0⟩,⟨0,0,0,0⟩)
noncomputable def hdT (l:List ExceptHandler):Pos:=(hdV l).1.pos
noncomputable def hdP (l:List ExceptHandler):Pos:=(hdV l).2.2
noncomputable def hdS (l:List ExceptHandler):Stmt:=(hdV l).2.1
noncomputable def asX (s:Stmt):Expr:=(stV s).1
noncomputable def asN (s:Stmt):Pos:=(stV s).2.1.pos
noncomputable def asQ (s:Stmt):Pos:=stQ s
noncomputable def bL (e:Expr):Pos:=(kid 0 e).pos
noncomputable def bR (e:Expr):Pos:=(kid 1 e).pos
noncomputable def bQ (e:Expr):Pos:=e.pos
noncomputable def nRf:Str:="refused"
noncomputable def incr (st:Stmt):Stmt:=.Assign [.Name nRf (asN st)] (.BinOp (.Name nRf (bL (asX st))) .Add (.Constant (.int 1) 0 (bR (asX st))) (bQ (asX st))) (asQ st)
noncomputable def hdl (st:Stmt):ExceptHandler:=.ExceptHandler (some (.Name nVE (hdT (hdX st)))) none [incr (hdS (hdX st))] (hdP (hdX st))
noncomputable def tryOf (st:Stmt):Stmt:=.Try (trB st) [hdl st] [] [] (trQ st)
noncomputable def exX (s:Stmt):Expr:=(stV s).1
noncomputable def callB (x:Str) (st:Stmt):List Stmt:=[.Expr (.Call (.Name x (cP (exX (za6 0 (trB st))))) (cA (exX (za6 0 (trB st)))) [] (cQ (exX (za6 0 (trB st))))) (stQ (za6 0 (trB st)))]
noncomputable def nBL:Str:="bisect_left"
noncomputable def nBR:Str:="bisect_right"
noncomputable def forR:Stmt:=za6 0 (trB (rS 3))
theorem ref_body:(fnd 18).body=[rS 0,tryOf (rS 1),tryOf (rS 2),tryOf (rS 3),rS 4]:=by kernel_rfl
theorem ref_b1:trB (rS 1)=callB nBL (rS 1):=by kernel_rfl
theorem ref_b2:trB (rS 2)=callB nBR (rS 2):=by kernel_rfl
theorem ref_b3:trB (rS 3)=[.For (.Name nSize (nmP (forT forR))) (.Call (.Name nGI (cP (forI forR))) (cA (forI forR)) [] (cQ (forI forR))) (ifB forR) [] (stQ forR)]:=by kernel_rfl
noncomputable def rV (vr:Value) (k:Int):Vars:=[(key "row",.lit vr),(key "sizes",.obj 0),(key "refused",.int k)]
theorem ref_binds (vr:Value):(fnd 18).binds [.lit vr,.obj 0] []=some [(key "row",.lit vr),(key "sizes",.obj 0)]:=by kernel_rfl
theorem ref_s0 (vr:Value) (H:List AO):exLGo (exS G2 cM za0 (fnd 18).sc) [rS 0] [(key "row",.lit vr),(key "sizes",.obj 0)] H=some (.next,rV vr 0,H):=by kernel_rfl
theorem ref_c1 (vr:Value) (k:Int) (H:List AO):ev G2 cM za0 (fnd 18).sc (rV vr k) (.Name nBL (cP (exX (za6 0 (trB (rS 1)))))) H=some (.lit (.ref 50),H):=by kernel_rfl
theorem ref_a1 (vr:Value) (k:Int) (H:List AO):evs (ev G2 cM za0 (fnd 18).sc (rV vr k)) (cA (exX (za6 0 (trB (rS 1))))) H=some ([.lit vr,.int 1,.int (-1)],H):=by kernel_rfl
theorem ref_c2 (vr:Value) (k:Int) (H:List AO):ev G2 cM za0 (fnd 18).sc (rV vr k) (.Name nBR (cP (exX (za6 0 (trB (rS 2)))))) H=some (.lit (.ref 32),H):=by kernel_rfl
theorem ref_a2 (vr:Value) (k:Int) (H:List AO):evs (ev G2 cM za0 (fnd 18).sc (rV vr k)) (cA (exX (za6 0 (trB (rS 2))))) H=some ([.lit vr,.int 1,.int (-1)],H):=by kernel_rfl
theorem ref_c3 (vr:Value) (k:Int) (H:List AO):ev G2 cM za0 (fnd 18).sc (rV vr k) (.Name nGI (cP (forI forR))) H=some (.lit (.ref 57),H):=by kernel_rfl
theorem ref_end (vr:Value) (H:List AO):exLGo (exS G2 cM za0 (fnd 18).sc) [rS 4] (rV vr 3) H=some (.ret (.lit (.bool true)),rV vr 3,H):=by kernel_rfl
theorem ref_inc (vr:Value) (k k':Int):st1 (fnd 18).sc nRf (.int k') (rV vr k)=some (rV vr k'):=by kernel_rfl
theorem ref_look (vr:Value) (k:Int):look (key nRf) (rV vr k)=some (.int k):=by kernel_rfl
theorem ref_kd:(fnd 18).sc.names.lookup nVE=some .globalImplicit:=by decide +kernel
theorem ref_var:isVar ((fnd 18).sc.names.lookup nRf)=true:=by decide +kernel
theorem aft_nil1 {c:Cx} {σ τ:List Addr} {H1:List AO} {s s':Shared} (a:Aft c σ H1 s τ s') (hl:H1.length=σ.length):τ=[]:=by
 have:=a.st.len
 rw [List.length_append,hl] at this
 exact List.length_eq_zero_iff.mp (Nat.add_eq_left.mp this)
theorem SF.keepNs {c:Cx} {sc:Scope} {vars:Vars} {env:Env} {σ:List Addr} {h h':Heap} (F:SF c sc vars env σ h) (hc:env.cells=[]) (hk:∀ m,h.Ns env.locals m→h'.Ns env.locals m):SF c sc vars env σ h':=by
 obtain ⟨mm,hmm⟩:=F.ns
 refine ⟨⟨⟨F.kind,F.glob,F.blt,F.gk,fun x av hx hv=>?_,⟨mm,hk _ hmm⟩,F.outL,F.outC,F.nodot⟩,fun x b hx=>(by rw [hc] at hx;exact nsf hx),F.all,F.ck⟩,F.scope,F.inj,F.outLC,F.newL,F.newC,fun b hb=>(by unfold fcells at hb;rw [hc] at hb;cases hb)⟩
 rcases F.vk x av hx hv with ⟨k,m,v,n1,n2,r⟩ | ⟨k,a,v,n1,n2,r⟩
 ·exact .inl ⟨k,m,v,hk _ n1,n2,r⟩
 ·rw [hc] at n1;exact nsf n1
noncomputable abbrev rB (s1:Shared) (Lv L:Addr):Heap:=eras s1.heap [Lv,L]
noncomputable abbrev rC (w:World) (s1:Shared) (Lv L la:Addr):Cx:=cxP w (eras s1.heap [Lv,L,la]) [] 0
structure RFix (w:World) (s1:Shared) (env envL:Env) (la:Addr) (ob:Obj) (xs:List Int) (A:Around) (mg mb:Str→Option Value):Prop where
 T:TopAt w (eras s1.heap [envL.locals,env.locals,la]) mg mb
 Ok:(rC w s1 envL.locals env.locals la).Ok
 hA:A.frames=some [env,envL]
 Rm:Room A 6
 kE:env.scope.kind=.function
 kL:envL.scope.kind=.function
 fE:env.frame=some env.locals
 fL:envL.frame=some envL.locals
 cells:env.cells=[]
 hla:s1.heap.get? la=some ob
 lst:(AO.arg ob (xs.map .int)).At [la] s1.heap la
 nsL:∃ mm,s1.heap.Ns envL.locals mm
 n1:la≠envL.locals
 n2:la≠env.locals
 n3:envL.locals≠env.locals
structure RJ (w:World) (s1:Shared) (env envL:Env) (la:Addr) (vr:Value) (k:Int) (s:Shared):Prop where
 bs:(rB s1 envL.locals env.locals).StaysIn s.heap
 up:∀ o,s1.heap.get? envL.locals=some o→∃ sl,s.heap.get? envL.locals=some { o with slots:=sl }
 sf:SF (rC w s1 envL.locals env.locals la) (fnd 18).sc (rV vr k) env [la] s.heap
 gens:GMore s1.gens s.gens
 os:s.os=s1.os
section
variable {w:World} {s1 s s':Shared} {env envL:Env} {la:Addr} {ob:Obj} {xs:List Int} {A:Around} {mg mb:Str→Option Value} {vr:Value} {k:Int}
theorem eras2_of {h:Heap} {a b:Addr} {x:Addr} {o:Obj} (e:h.get? x=some o) (h1:x≠a) (h2:x≠b):(eras h [a,b]).get? x=some o:=zd7 (by simp -iota [h1,h2]) e
theorem eras3_2 {h:Heap} {a b c x:Addr} {o:Obj} (e:(eras h [a,b,c]).get? x=some o):(eras h [a,b]).get? x=some o:=by
 refine erask e fun q e=>?_
 simp -iota at q
 exact eras2_of e q.1 q.2.1
theorem RJ.la_ (X:RFix w s1 env envL la ob xs A mg mb) (R:RJ w s1 env envL la vr k s):s.heap.get? la=some ob:=R.bs la ob (eras2_of X.hla X.n1 X.n2)
theorem RJ.topB (X:RFix w s1 env envL la ob xs A mg mb) (R:RJ w s1 env envL la vr k s):TopAt w s.heap mg mb:=X.T.keep zam fun b o _ e=>R.bs b o (eras3_2 e)
theorem RJ.st (X:RFix w s1 env envL la ob xs A mg mb) (R:RJ w s1 env envL la vr k s):St (rC w s1 envL.locals env.locals la) [la] [.arg ob (xs.map .int)] s:=by
 refine ⟨fun b o _ e=>R.bs b o (eras3_2 e),rfl,fun j a o e e'=>?_,List.nodup_cons.mpr ⟨List.not_mem_nil,List.nodup_nil⟩,fun j a e _=>.inl ?_,⟨[la],rfl⟩,fun k hk=>absurd hk (Nat.not_lt_zero _),fun b o e=>⟨o,R.bs b o (eras3_2 e)⟩,Nat.le_refl _⟩
 ·match j with
  | 0 =>
   obtain rfl:=sj e;obtain rfl:=sj e'
   obtain ⟨_,r⟩:=X.lst
   exact ⟨R.la_ X,r⟩
  | j + 1=>exact nsf e
 ·match j with
  | 0 =>
   obtain rfl:=sj e
   show (eras s1.heap [envL.locals,env.locals,la]).get? la=none
   rw [zbs,if_pos (by simp -iota)]
  | j + 1=>exact nsf e
theorem RJ.nsLo (X:RFix w s1 env envL la ob xs A mg mb) (R:RJ w s1 env envL la vr k s):∃ mm,s.heap.Ns envL.locals mm:=by
 obtain ⟨mm,o,es,ep,ho,hd,r⟩:=X.nsL
 obtain ⟨sl,e⟩:=R.up o ho
 exact ⟨mm,_,es,ep,e,hd,r⟩
theorem RJ.fr (X:RFix w s1 env envL la ob xs A mg mb) (R:RJ w s1 env envL la vr k s):s.heap.FunFrames (rB s1 envL.locals env.locals) [env,envL]:=by
 obtain ⟨m1,h1⟩:=R.sf.ns
 obtain ⟨m2,h2⟩:=R.nsLo X
 refine Heap.FunFrames.cons (by rw [X.kE];decide) X.fE h1 (by rw [zbs,if_pos (by simp -iota)]) (Heap.FunFrames.cons (by rw [X.kL];decide) X.fL h2 (by rw [zbs,if_pos (by simp -iota)]) trivial)
theorem RJ.aft (X:RFix w s1 env envL la ob xs A mg mb) (R:RJ w s1 env envL la vr k s) {H':List AO} {τ:List Addr} (hH:H'[0]?=some (.arg ob (xs.map .int))) (a:AftS (rC w s1 envL.locals env.locals la) [la] H' env s τ s') {vars:Vars} :
  (rB s1 envL.locals env.locals).StaysIn s'.heap∧(∀ o,s1.heap.get? envL.locals=some o→∃ sl,s'.heap.get? envL.locals=some { o with slots:=sl })∧GMore s1.gens s'.gens∧s'.os=s1.os:=by
 have fa:fadr env=[env.locals]:=by unfold fadr fcells;rw [X.cells];rfl
 refine ⟨fun b o e=>?_,fun o e=>?_,R.gens.trans a.pres.gens,a.pres.os.trans R.os⟩
 ·refine erask e fun q e1=>?_
  simp -iota at q
  by_cases hb:b=la
  ·subst hb
   rw [X.hla] at e1;obtain rfl:=sj e1
   obtain ⟨r,_⟩:=a.st.objs 0 b _ (by rw [List.singleton_append];rfl) hH
   exact r
  ·exact a.pres.keep b o (by rw [fa];simp -iota [hb,q.2]) (R.bs b o e)
 ·obtain ⟨sl,e2⟩:=R.up o e
  exact ⟨sl,a.pres.keep _ _ (by rw [fa];simp -iota [Ne.symm X.n1,X.n3]) e2⟩
theorem RJ.fly (R:RJ w s1 env envL la vr k s) (hc:env.cells=[]) (hbs:(rB s1 envL.locals env.locals).StaysIn s'.heap) (hup:s.heap.UpToSlots s'.heap) (hnd:∀ o,s.heap.get? envL.locals=some o→∀ vs,o.data≠.fields vs) (hg:GMore s.gens s'.gens) (ho:s'.os=s.os):RJ w s1 env envL la vr k s':=by
 refine ⟨hbs,fun o e=>?_,R.sf.keepNs hc fun m hm=>hup.ns hm,R.gens.trans hg,ho.trans R.os⟩
 obtain ⟨sl,e1⟩:=R.up o e
 obtain ⟨sl2,e2⟩:=hup _ _ e1 (hnd _ e1)
 exact ⟨sl2,e2⟩
theorem RJ.nd (X:RFix w s1 env envL la ob xs A mg mb) (R:RJ w s1 env envL la vr k s):∀ o,s.heap.get? envL.locals=some o→∀ vs,o.data≠.fields vs:=fun o e vs q=>by
 obtain ⟨mm,o',es,ep,ho,hd,_⟩:=R.nsLo X
 rw [e] at ho;obtain rfl:=sj ho
 rw [hd] at q;cases q
theorem caught (X:RFix w s1 env envL la ob xs A mg mb) (R:RJ w s1 env envL la vr k s) {st:Stmt} {e:Addr} {a0:Value} (hfl:Heap.FlyingW (rB s1 envL.locals env.locals) [env,envL] e (.type "ValueError") a0 s.heap) {Q:Flow→Shared→Prop} {E:Value→Shared→Prop}
  (hq:∀ s',RJ w s1 env envL la vr (k + 1) s'→Q .next s'):wpAny (model PG w) A (handleBy (.ref e) env [hdl st]) Q E s:=by
 have S:=R.st X
 have F:=R.sf
 obtain ⟨oe,hoe,hcls⟩:=hfl.there
 refine wpAny_handleBy_builtin (T:="ValueError") (X:="ValueError") (b:=true) sub_ve_base sub_ve_tup sub_ve_ve (ve_eval (R.topB X) X.kE (F.gk nVE ref_kd) F.glob F.blt ⟨rfl,⟨oe,hoe,hcls⟩,?_⟩)
 rw [if_pos rfl]
 refine lands_againW hfl fun h6 hfl6 up6=>?_
 have R6:RJ w s1 env envL la vr k { s with heap:=h6 }:=R.fly X.cells hfl6.1 up6 (R.nd X) (.refl _) rfl
 have S6:=R6.st X
 have F6:=R6.sf
 refine wpAny_execs_cons (wpAny_Assign_Name (wpAny_BinOp (wpAny_Name ((var_sound S6 F6.kind (F6.vk nRf (.int k) (ref_look vr k) ref_var)).use fun τ1 s7 v7 a7 r7=>?_) (by decide +kernel))) (swaps_no rfl))
 cases aft_nil1 a7 rfl
 refine wpAny_Constant_int ?_
 rw [List.append_nil] at r7
 have S8:St (rC w s1 envL.locals env.locals la) [la] [.arg ob (xs.map .int)] { s7 with toks:=s7.toks + 1 }:=by have:=a7.st;rw [List.append_nil] at this;exact this.keep fun b o e=>e
 refine (binAdd_ok S8 r7 (b:=.int 1) ⟨_,rfl⟩ rfl).use fun τ2 s9 v9 a9 r9=>?_
 cases aft_nil1 a9 rfl
 rw [List.append_nil] at r9
 have a79:Aft (rC w s1 envL.locals env.locals la) [la] [.arg ob (xs.map .int)] { s with heap:=h6 } [] s9:=by
  exact a7.trans (τ':=[]) (s'':=s9) (H':=[.arg ob (xs.map .int)]) (by rw [List.append_nil];exact ⟨a9.st,⟨a9.pres.keep,a9.pres.there,a9.pres.gens,a9.pres.os⟩,a9.new⟩)
 refine zca (F6.aft a79) a79.st (av:=.int (k + 1)) (by rw [List.append_nil];exact r9) (ref_inc vr k (k + 1)) fun s10 a10 F10=>?_
 have a610:=a79.toS.trans a10
 refine wpAny_execs_nil ?_
 obtain ⟨b1,b2,b3,b4⟩:=R6.aft X (vars:=[]) rfl a610
 refine hq s10 ⟨b1,b2,?_,b3,b4⟩
 rw [List.append_nil] at F10
 exact F10
end
section
variable {w:World} {s1 s s':Shared} {env envL:Env} {la:Addr} {ob:Obj} {xs:List Int} {A:Around} {mg mb:Str→Option Value} {vr:Value} {k:Int}
theorem RJ.next (X:RFix w s1 env envL la ob xs A mg mb) (R:RJ w s1 env envL la vr k s) {H':List AO} {τ:List Addr} (hH:H'[0]?=some (.arg ob (xs.map .int))) (a:Aft (rC w s1 envL.locals env.locals la) [la] H' s τ s'):RJ w s1 env envL la vr k s':=by
 obtain ⟨b1,b2,b3,b4⟩:=R.aft X (vars:=[]) hH (a.toS (env:=env))
 refine ⟨b1,b2,?_,b3,b4⟩
 have F:=R.sf.keepF (h':=s'.heap) fun b o hb e=>a.pres.keep b o (fun q=>?_) e
 ·exact F
 ·rw [List.mem_singleton.mp q] at hb
  have fa:fadr env=[env.locals]:=by unfold fadr fcells;rw [X.cells];rfl
  rw [fa] at hb
  exact X.n2 (List.mem_singleton.mp hb)
theorem try_bis (X:RFix w s1 env envL la ob xs A mg mb) (R:RJ w s1 env envL la vr k s) {a:Addr} {F:FnD} {x:Str} {st:Stmt} (hb:trB st=callB x st) (LC:LoChk F loV) (hU:∀ c:Cx,(KF w).In c.hb→KOut (KF w) c.Wb→UPlain c F a (zdi (KF w) a)) (hfc:fnChk (KF w) a=true)
  (hc:∀ H,ev G2 cM za0 (fnd 18).sc (rV vr k) (.Name x (cP (exX (za6 0 (trB st))))) H=some (.lit (.ref a),H)) (ha:∀ H,evs (ev G2 cM za0 (fnd 18).sc (rV vr k)) (cA (exX (za6 0 (trB st)))) H=some ([.lit vr,.int 1,.int (-1)],H))
  {Q:Flow→Shared→Prop} {E:Value→Shared→Prop} (hq:∀ s',RJ w s1 env envL la vr (k + 1) s'→Q .next s'):wpAny (model PG w) A (exec (tryOf st) env) Q E s:=by
 unfold tryOf
 refine wpAny_Try_except ?_
 rw [hb]
 have S:=R.st X
 have F0:=R.sf
 have hcall:zbx (rC w s1 envL.locals env.locals la) cM 1:=zb3 (c:=rC w s1 envL.locals env.locals la) (T:=[]) (TL:=[]) X.Ok (noTab _) 1
 have hint:interactive env=false:=by unfold interactive;rw [X.kE];rfl
 refine wpAny_execs_cons (wpAny_Expr (wpAny_Call_Name_kw (((zbf X.Ok hcall za0).1 A _ _ env _ _ _ _ [la] s (X.Rm.le (by decide)) F0.toFr' S (hc _)).use fun τ1 s2 v1 a1 r1=>?_)) hint (swaps_no rfl))
 cases aft_nil1 a1 rfl
 have r1':v1=.ref a:=r1
 subst r1'
 refine callWith_any (zdb (env:=env) _ _ (ha [.arg ob (xs.map .int)])) (zdu (env:=env) _ [] (f:=ev G2 cM za0 (fnd 18).sc (rV vr k)) (H:=[.arg ob (xs.map .int)]) (r:=([],[.arg ob (xs.map .int)])) rfl) ?_
 have F1:=F0.toFr'.aft a1
 have S1:=a1.st
 refine (zdn (zbf X.Ok hcall za0).1 (X.Rm.le (by decide)) _ _ F1 S1 (ha [.arg ob (xs.map .int)]) (ks:=[]) (kvs:=[]) (H2:=[.arg ob (xs.map .int)]) rfl).use fun τ2 s3 v2 a2 r2=>?_
 obtain ⟨vp,vk⟩:=v2
 obtain ⟨k1,k2⟩:=r2
 cases relK_nil k2
 cases aft_nil1 a2 rfl
 have R2:RJ w s1 env envL la vr k s2:=R.next X rfl a1
 have R3:RJ w s1 env envL la vr k s3:=R2.next X (τ:=[]) rfl (by have:=a2;rwa [List.append_nil] at this)
 have T3:=R3.topB X
 refine fn_of (K:=KF w) (a:=a) T3.X hfc fun fo cc o vs t h1 h2 _ _ _ _ _ _ _=>?_
 refine ⟨.inr ⟨a,fo,_,rfl,T3.X _ _ h1,h2⟩,?_⟩
 refine arg3_at rfl k1 ?_;rintro w1 w2 w3 rfl q1 q2 q3
 ·have q1':w1=vr:=q1
  subst q1'
  obtain ⟨t1,rfl⟩:=q2
  obtain ⟨t2,rfl⟩:=q3
  obtain ⟨Te,_⟩:=gC_ok (W:=[]) T3 zam
  refine bis_raise LC T3 (hU _ Te.X (zam (w:=w) (mg:=mg)).K) (X.Rm.le (by decide)) X.hA R3.bs (R3.fr X) fun e a0 s4 hfl up gm os=>?_
  have R4:=R3.fly X.cells hfl.1 up (R3.nd X) gm os
  refine wpAny_looks_onW X.hA X.fE hfl fun h' hh up1=>?_
  have R5:RJ w s1 env envL la w1 k { s4 with heap:=h' }:=R4.fly X.cells hh.1 up1 (R4.nd X) (.refl _) rfl
  refine wpAny_landsW hh fun h6 hfl2 up2=>?_
  have R6:RJ w s1 env envL la w1 k { s4 with heap:=h6 }:=R5.fly (s':={ s4 with heap:=h6 }) X.cells hfl2.1 up2 (R5.nd X) (.refl _) rfl
  exact caught X R6 hfl2 hq
end
theorem ref_a3 (vr:Value) (k:Int) (ob:Obj) (l:List AV) (hl:l.length≤1000):evs (ev G2 cM za0 (fnd 18).sc (rV vr k)) (cA (forI forR)) [.arg ob l]=some ([.obj 2],[.arg ob l,.list [.int 0],.list (.int 0::l)]):=by
 have h:REs G2 cM (fnd 18).sc za0 (cA (forI forR)) (zaa (zbh gAdd (cList (zaa (za1 (.int 0)) zcd)) (za8 zcs)) zcd):=by
  conv in cA (forI forR)=>whnf
  unfold za0
  exact zas rfl (RE_add (RE_list (zas rfl zd5 zb6)) (zbi zb7 (by decide +kernel) (by decide +kernel))) zb6
 refine h _ _ _ ?_
 have hs:za2 zcs (rV vr k)=some (.obj 0):=by
  unfold rV
  rw [zbj,zan,if_neg (by rw [← zb7];decide +kernel),zan,if_pos zb7]
 refine zad (zb2 (list_s (zad (za9 _ _ _) (zc8 _ _)) (by simp -iota)) (za5 hs _) ?_) (zc8 _ _)
 show (do let x ← zah [AO.arg ob l,.list [.int 0]] (.obj 1);let y ← zah [AO.arg ob l,.list [.int 0]] (.obj 0);newL [AO.arg ob l,.list [.int 0]] (x++y))=_
 show newL [AO.arg ob l,.list [.int 0]] ([.int 0]++l)=_
 unfold newL
 rw [if_pos (by simp -iota;omega)]
 rfl
theorem fly_mono {B B':Heap} {l1 l2:Env} {e:Addr} {cls a0:Value} {h:Heap} (hm:∀ b o,B.get? b=some o→B'.get? b=some o) (x:Heap.FlyingW B' [l1,l2] e cls a0 h):Heap.FlyingW B [l1,l2] e cls a0 h:=by
 have hn:∀ b,B'.get? b=none→B.get? b=none:=fun b q=>by
  cases z:B.get? b with
  | none=>rfl
  | some o=>rw [hm _ o z] at q;exact snf q
 obtain ⟨k1,k2,⟨f1,⟨L1,o1,f2,f3,f4⟩,f5,⟨L2,o2,f6,f7,f8⟩,f9⟩,oe,vs,T,oT,ts,t1,t2,t3,t4,t5,t6⟩:=x
 exact ⟨fun b o q=>k1 b o (hm b o q),hn _ k2,⟨f1,⟨L1,o1,f2,hn _ f3,f4⟩,f5,⟨L2,o2,f6,hn _ f7,f8⟩,trivial⟩,oe,vs,T,oT,ts,t1,t2,t3,t4,hn _ t5,t6⟩
section
variable {w:World} {s1 s s':Shared} {env envL:Env} {la:Addr} {ob:Obj} {xs:List Int} {A:Around} {mg mb:Str→Option Value} {vr:Value} {k:Int}
theorem try_gen (X:RFix w s1 env envL la ob xs A mg mb) (R:RJ w s1 env envL la vr k s) (hx:xs.length≤1000)
  {Q:Flow→Shared→Prop} {E:Value→Shared→Prop} (hq:∀ s',RJ w s1 env envL la vr (k + 1) s'→Q .next s'):wpAny (model PG w) A (exec (tryOf (rS 3)) env) Q E s:=by
 unfold tryOf
 refine wpAny_Try_except ?_
 rw [ref_b3]
 have S:=R.st X
 have F0:=R.sf
 have hcall:zbx (rC w s1 envL.locals env.locals la) cM 1:=zb3 (c:=rC w s1 envL.locals env.locals la) (T:=[]) (TL:=[]) X.Ok (noTab _) 1
 have topd:∀ (σ':List Addr) (H':List AO) (s':Shared),St (rC w s1 envL.locals env.locals la) σ' H' s'→TopAt w s'.heap mg mb:=fun σ' H' s' S'=>X.T.keep zam S'.base
 refine wpAny_execs_cons (wpAny_For (gen_call (c:=rC w s1 envL.locals env.locals la) (mg:=mg) (mb:=mb) rfl X.Ok hcall (X.Rm.le (by decide)) F0.toFr' S topd (ref_c3 vr k _) (ref_a3 vr k ob (xs.map .int) (by rw [List.length_map];exact hx)) fun τ s3 la2 envg G s4 a3 hla M=>?_) (fun x=>rfl))
 have R3:RJ w s1 env envL la vr k s3:=R.next X rfl a3
 have S3:=a3.st
 have T3:=R3.topB X
 refine wpAny_pyIter_gen M.gen ?_
 refine codeAny_forLoop (fun n s=>s=s4) ?_ 0 rfl (fun v=>rfl)
 rintro n s rfl
 obtain ⟨mE,hmE⟩:=R3.sf.ns
 obtain ⟨mL,hmL⟩:=R3.nsLo X
 have thE:∃ o,s3.heap.get? env.locals=some o:=by obtain ⟨o,_,_,ho,_⟩:=hmE;exact ⟨o,ho⟩
 have thL:∃ o,s3.heap.get? envL.locals=some o:=by obtain ⟨o,_,_,ho,_⟩:=hmL;exact ⟨o,ho⟩
 have neg:∀ {a:Addr},(∃ o,s3.heap.get? a=some o)→a≠envg.locals:=fun {a} ⟨o,ho⟩ q=>by
  have:=M.newL
  rw [← q,ho] at this;exact snf this
 have neG:∀ {a:Addr},(∃ o,s3.heap.get? a=some o)→G≠a:=fun {a} ⟨o,ho⟩ q=>by
  have:=M.newG
  rw [q,ho] at this;exact snf this
 have hGg:G≠envg.locals:=fun q=>by
  obtain ⟨o,nm,qn,ho,hc,hd,hs⟩:=M.gen
  obtain ⟨o2,es,ep,ho2,hd2,_⟩:=M.ns
  rw [← q,ho] at ho2
  obtain rfl:=sj ho2
  rw [hd] at hd2;cases hd2
 have T4:TopAt w s.heap mg mb:=T3.keep zam fun b o _ e=>M.keep b o e
 have Og:TopOut w mg [envg.locals]:=TopOut.fresh T3 zam fun a ha=>.inl (by rw [List.mem_singleton.mp ha];exact M.newL)
 have Tg:TopAt w (eras s.heap [envg.locals]) mg mb:=T4.keep Og fun b o hb e=>zd7 hb e
 have Okg:(gC w s.heap [envg.locals]).Ok:=cx_ok Tg.X Tg.Ng Tg.Nb Tg.hb Tg.nl (zam (w:=w) (mg:=mg)).g (zam (w:=w) (mg:=mg)).b (zam (w:=w) (mg:=mg)).s
 have li:LiI la2 (0::xs) s.heap:=by
  obtain ⟨vs,n,e,r,_⟩:=S3.objs 2 la2 (.list (.int 0::xs.map .int)) hla rfl
  refine ⟨vs,⟨_,M.keep _ _ e,rfl,n,rfl⟩,zbn (σ:=[]) (τ:=[la]++τ) ?_ r⟩
  unfold zb1
  rw [List.all_eq_true]
  intro y hy
  rcases List.mem_cons.mp hy with q | q
  ·rw [q]
  ·obtain ⟨z,_,rfl⟩:=List.mem_map.mp q
   rfl
 generalize hB':eras s.heap [envL.locals,env.locals,envg.locals]=B'
 have gB':∀ {a:Addr},a∈[envL.locals,env.locals,envg.locals]→B'.get? a=none:=fun {a} h=>by rw [← hB',zbs,if_pos h]
 have iB':∀ {a:Addr} {o:Obj},a≠envL.locals→a≠env.locals→a≠envg.locals→s.heap.get? a=some o→B'.get? a=some o:=fun {a o} h1 h2 h3 e=>by rw [← hB'];exact zd7 (by simp -iota [h1,h2,h3]) e
 have hBB:∀ b o,(rB s1 envL.locals env.locals).get? b=some o→B'.get? b=some o:=fun b o e=>by
  have e3:=R3.bs b o e
  refine erask e fun q _=>?_
  simp -iota at q
  exact iB' q.1 q.2 (neg ⟨o,e3⟩) (M.keep b o e3)
 have hFF:s3.heap.FunFrames B' [env,envL]:=Heap.FunFrames.cons (by rw [X.kE];decide) X.fE hmE (gB' (by simp -iota)) (Heap.FunFrames.cons (by rw [X.kL];decide) X.fL hmL (gB' (by simp -iota)) trivial)
 have hd:=X.Rm.depth
 have S4:St (rC w s1 envL.locals env.locals la) ([la]++τ) [.arg ob (xs.map .int),.list [.int 0],.list (.int 0::xs.map .int)] s:=S3.keep M.keep
 have hgs:s.gens[s3.gens.size]?=some (.fresh (.func (fnd 7).body envg)):=by rw [M.gens];simp -iota
 refine pyNext_raise X.Rm.handled (S4.nolim X.Ok) (by omega) M.gen hgs (goes_raise (h3:=s3.heap) (B:=B') (outer:=[env,envL]) T3 (gen_fixK M (fun _ _ e=>e) (S3.there (List.mem_of_getElem? hla))) Okg (gen_sfK M (fun _ _ e=>e) (List.mem_singleton.mpr rfl)) li (X.Rm.le (by decide)) X.hA (fun b o e=>by rw [← hB'] at e;exact (zbq e).2) (gB' (by simp -iota)) hFF M.frame M.gen
  (fun o e=>iB' (neG thL) (neG thE) hGg e) M.keep M.newL) fun e s5 hp=>?_
 obtain ⟨⟨a0,hfl'⟩,up,gm,os⟩:=hp
 have hfl:=fly_mono hBB hfl'
 generalize hs6:s5.setGen s3.gens.size .finished=s6
 have hh6:s6.heap=s5.heap:=by rw [← hs6];rfl
 have R6:RJ w s1 env envL la vr k s6:=by
  refine R3.fly X.cells (by rw [hh6];exact hfl.1) (by rw [hh6];exact up) (R3.nd X) ?_ ?_
  ·obtain ⟨more,g1,g2⟩:=gm
   have g3:s6.gens=s3.gens.push .finished++more:=by
    rw [← hs6]
    show s5.gens.setIfInBounds s3.gens.size .finished=_
    rw [g1]
    show ((s.gens.setIfInBounds s3.gens.size .running)++more).setIfInBounds s3.gens.size .finished=_
    have e0:s.gens=s3.gens.push (.fresh (.func (fnd 7).body envg))++#[]:=by rw [M.gens,Array.append_empty]
    rw [e0,set_push,Array.append_empty,set_push]
   rw [g3]
   exact gmore_push rfl g2
  ·rw [← hs6]
   show s5.os=s3.os
   exact os.trans M.os
 rw [← hh6] at hfl
 refine wpAny_looks_onW X.hA X.fE hfl fun h' hh up1=>?_
 have R7:RJ w s1 env envL la vr k { s6 with heap:=h' }:=R6.fly (s':={ s6 with heap:=h' }) X.cells hh.1 up1 (R6.nd X) (.refl _) rfl
 obtain ⟨_,_,_,oe,ws,T',oT,ts,he,_,hd',h1,_⟩:=id hh
 refine wpAny_bind (wpAny_field he hd' h1 ?_)
 rw [if_neg (show ¬ ((Value.ref T' == Value.none)=true) from by simp -iota),X.fE]
 refine flight_same hh fun h2 hh2 up2=>?_
 have R8:RJ w s1 env envL la vr k { s6 with heap:=h2 }:=R7.fly (s':={ s6 with heap:=h2 }) X.cells hh2.1 up2 (R7.nd X) (.refl _) rfl
 refine wpAny_noteFrame_againW X.fE hh2.2.2.2 ?_
 refine wpAny_landsW hh2 fun h3 hfl3 up3=>?_
 have R9:RJ w s1 env envL la vr k { s6 with heap:=h3 }:=R8.fly (s':={ s6 with heap:=h3 }) X.cells hfl3.1 up3 (R8.nd X) (.refl _) rfl
 exact caught X R9 hfl3 hq
end
theorem refused_call {w:World} {h:Heap} {fx:List Addr} {mg mb:Str→Option Value} (T:TopAt w h mg mb) {σ:List Addr} {H:List AO} {s:Shared} {A:Around} {envL:Env} {z:Nat} {la:Addr} {xs:List Int} {vr:Value} (S:St (cxP w h fx 0) σ H s) (hA:A.frames=some [envL]) (Rm:Room A 8) (kL:envL.scope.kind=.function) (fL:envL.frame=some envL.locals) (nsL:∃ mm,s.heap.Ns envL.locals mm)
  (hLb:h.get? envL.locals=none) (hLσ:envL.locals∉σ) (hz:σ[z]?=some la) (Hz:H[z]?=some (.list (xs.map .int))) (hx:xs.length≤1000) {Q:Value→Shared→Prop} {E:Value→Shared→Prop}
  (hq:∀ s',(∀ b o,b≠envL.locals→s.heap.get? b=some o→s'.heap.get? b=some o)→(∀ o,s.heap.get? envL.locals=some o→∃ sl,s'.heap.get? envL.locals=some { o with slots:=sl })→GMore s.gens s'.gens→s'.os=s.os→Q (.bool true) s') :
  wpAny (model PG w) A (PySem.call (.ref 97) [vr,.ref la] []) Q E s:=by
 have O':TopOut w mg []:=zam
 have Ts:TopAt w s.heap mg mb:=T.keep O' S.base
 have hlσ:la∈σ:=List.mem_of_getElem? hz
 have hlh:h.get? la=none:=(S.fresh z la hz (Nat.zero_le _)).elim id (fun q=>nomatch q)
 have n1:la≠envL.locals:=fun q=>hLσ (q▸hlσ)
 have O1:TopOut w mg [envL.locals,la]:=TopOut.fresh T O' fun a ha=>.inl (by
  rcases List.mem_cons.mp ha with q | q
  ·rw [q];exact hLb
  ·rw [List.mem_singleton.mp q];exact hlh)
 have T1:TopAt w (eras s.heap [envL.locals,la]) mg mb:=Ts.keep O1 fun b o hb e=>zd7 hb e
 have Ok1:(cxP w (eras s.heap [envL.locals,la]) [] 0).Ok:=cx_ok T1.X T1.Ng T1.Nb T1.hb T1.nl O'.g O'.b O'.s
 obtain ⟨vs,n,hob,rel,hle⟩:=S.objs z la _ hz Hz
 generalize hobj:({ cls:=.type "list",data:=.seq vs.toArray n }:Obj)=ob at hob
 have rel1:RelL [la] (xs.map .int) vs:=by
  have c0:zb1 ([]:List Addr).length (xs.map AV.int)=true:=by
   unfold zb1
   rw [List.all_eq_true]
   intro y hy
   obtain ⟨z,_,rfl⟩:=List.mem_map.mp hy
   rfl
  exact (zbn (σ:=[]) (τ:=σ) c0 rel).mono (τ:=[la])
 have lst:∀ {h':Heap},h'.get? la=some ob→(AO.arg ob (xs.map .int)).At [la] h' la:=fun e=>⟨e,vs,n,hobj.symm,rel1,hle⟩
 have S1:St (cxP w (eras s.heap [envL.locals,la]) [] 0) [la] [.arg ob (xs.map .int)] s:=by
  refine ⟨fun b o _ e=>(zbq e).2,rfl,fun j a o e e'=>?_,List.nodup_cons.mpr ⟨List.not_mem_nil,List.nodup_nil⟩,fun j a e _=>.inl ?_,⟨[la],rfl⟩,fun k hk=>absurd hk (Nat.not_lt_zero _),fun b o e=>⟨o,(zbq e).2⟩,Nat.le_refl _⟩
  ·match j with
   | 0=>obtain rfl:=sj e;obtain rfl:=sj e';exact lst hob
   | j + 1=>exact nsf e
  ·match j with
   | 0=>rw [← sj e];show (eras s.heap [envL.locals,la]).get? la=none;rw [zbs,if_pos (by simp -iota)]
   | j + 1=>exact nsf e
 have U:UPlain (cxP w (eras s.heap [envL.locals,la]) [] 0) (fnd 18) 97 (zdi (KF w) 97):=u_refused (c:=cxP w (eras s.heap [envL.locals,la]) [] 0) T1.X O'.K
 refine wpAny_call (plain_enter (c:=cxP w (eras s.heap [envL.locals,la]) [] 0) Ok1 U S1 (show RelL [la] [.lit vr,.obj 0] [vr,.ref la] from ⟨rfl,⟨la,rfl,rfl⟩,trivial⟩) (ref_binds vr) (by have:=Rm.depth;omega) fun env s1 F1 S1' hk hfr hcells hg1 ho1 hfe=>?_)
 have hLn:s.heap.get? env.locals=none:=hfr _ (List.mem_cons_self ..)
 have ne0:∀ {b:Addr},(∃ o,s.heap.get? b=some o)→b≠env.locals:=fun {b} ⟨o,ho⟩ q=>by
  rw [q,hLn] at ho;exact nsf ho
 have n2:la≠env.locals:=ne0 ⟨ob,hob⟩
 have n3:envL.locals≠env.locals:=by
  obtain ⟨_,o,_,_,ho,_⟩:=nsL
  exact ne0 ⟨o,ho⟩
 have T2:TopAt w s1.heap mg mb:=Ts.keep O' fun b o _ e=>hk b o e
 have O2:TopOut w mg [envL.locals,env.locals,la]:=TopOut.fresh T O' fun a ha=>.inl (by
  simp -iota only [List.mem_cons,List.not_mem_nil,or_false] at ha
  rcases ha with q | q | q
  ·rw [q];exact hLb
  ·cases z:h.get? a with
   | none=>rfl
   | some o =>
    have:=S.base a o (fun z=>nomatch z) z
    rw [q,hLn] at this;exact snf this.symm
  ·rw [q];exact hlh)
 have T3:TopAt w (eras s1.heap [envL.locals,env.locals,la]) mg mb:=T2.keep O2 fun b o hb e=>zd7 hb e
 have Ok3:(rC w s1 envL.locals env.locals la).Ok:=cx_ok T3.X T3.Ng T3.Nb T3.hb T3.nl O'.g O'.b O'.s
 have X:RFix w s1 env envL la ob xs (A.deeper env) mg mb:=⟨T3,Ok3,Around.frames_deeper hA,(Rm.deeper env).le (by decide),F1.kind,kL,hfe,fL,hcells,hk _ _ hob,lst (hk _ _ hob),by
   obtain ⟨mm,hm⟩:=nsL
   exact ⟨mm,zc2 hm fun o e=>hk _ o e⟩,n1,n2,n3⟩
 have F1':SF (rC w s1 envL.locals env.locals la) (fnd 18).sc [(key "row",.lit vr),(key "sizes",.obj 0)] env [la] s1.heap:=⟨F1.toFr',F1.scope,F1.inj,F1.outLC,(by show (eras s1.heap [envL.locals,env.locals,la]).get? _=none;rw [zbs,if_pos (by simp -iota)]),fun x b _ hx=>(by rw [hcells] at hx;exact nsf hx),F1.upL⟩
 have S3:St (rC w s1 envL.locals env.locals la) [la] [.arg ob (xs.map .int)] s1:=by
  refine ⟨fun b o _ e=>(zbq e).2,rfl,fun j a o e e'=>?_,List.nodup_cons.mpr ⟨List.not_mem_nil,List.nodup_nil⟩,fun j a e _=>.inl ?_,⟨[la],rfl⟩,fun k hk=>absurd hk (Nat.not_lt_zero _),fun b o e=>⟨o,(zbq e).2⟩,Nat.le_refl _⟩
  ·match j with
   | 0=>obtain rfl:=sj e;obtain rfl:=sj e';exact lst (hk _ _ hob)
   | j + 1=>exact nsf e
  ·match j with
   | 0=>rw [← sj e];show (eras s1.heap [envL.locals,env.locals,la]).get? la=none;rw [zbs,if_pos (by simp -iota)]
   | j + 1=>exact nsf e
 have hcall:zbx (rC w s1 envL.locals env.locals la) cM 1:=zb3 (c:=rC w s1 envL.locals env.locals la) (T:=[]) (TL:=[]) Ok3 (noTab _) 1
 have fa:fadr env=[env.locals]:=by unfold fadr fcells;rw [hcells];rfl
 rw [ref_body]
 refine zdt (c:=rC w s1 envL.locals env.locals la) (l2:=[tryOf (rS 1),tryOf (rS 2),tryOf (rS 3),rS 4]) (zbz Ok3 hcall za0) (X.Rm.le (by decide)) [rS 0] F1' S3 (ref_s0 vr _) fun τ s2 a2 F2=>?_
 cases aftS_nil a2 rfl
 rw [List.append_nil] at F2
 have R1:RJ w s1 env envL la vr 0 s2:=by
  refine ⟨fun b o e=>?_,fun o e=>⟨o.slots,a2.pres.keep _ _ (by rw [fa];simp -iota [Ne.symm n1,n3]) e⟩,F2,a2.pres.gens,a2.pres.os⟩
  refine erask e fun q e1=>?_
  simp -iota at q
  by_cases hb:b=la
  ·subst hb
   rw [hk _ _ hob] at e1;obtain rfl:=sj e1
   obtain ⟨r,_⟩:=a2.st.objs 0 b _ (by rw [List.append_nil];rfl) rfl
   exact r
  ·exact a2.pres.keep b o (by rw [fa];simp -iota [hb,q.2]) e1
 refine wpAny_execs_cons (try_bis X R1 ref_b1 loL (fun c h1 h2=>u_bisl h1 h2) (by kernel_rfl) (ref_c1 vr _) (ref_a1 vr _) fun s3 R2=>?_)
 refine wpAny_execs_cons (try_bis X R2 ref_b2 loR (fun c h1 h2=>u_bisr h1 h2) (by kernel_rfl) (ref_c2 vr _) (ref_a2 vr _) fun s4 R3=>?_)
 refine wpAny_execs_cons (try_gen X R3 hx fun s5 R4=>?_)
 have R4':RJ w s1 env envL la vr 3 s5:=R4
 refine (zcw (c:=rC w s1 envL.locals env.locals la) (zbz Ok3 hcall za0) (X.Rm.le (by decide)) [rS 4] R4'.sf (R4'.st X) (ref_end vr _)).use fun τ6 s6 fl a6 F6 r6=>?_
 obtain ⟨b1,b2,b3,b4⟩:=R4'.aft X (vars:=[]) rfl a6
 cases r6 with
 | ret rr =>
  have rr':_=Value.bool true:=rr
  subst rr'
  refine hq s6 (fun b o hb e=>b1 b o (eras2_of (hk b o e) hb (ne0 ⟨o,e⟩))) (fun o e=>b2 o (hk _ o e)) ?_ (b4.trans ho1)
  rw [hg1] at b3
  exact b3
noncomputable def c_lawA (disp:CallT):{ f:CS // ∀ call,zbo call disp→BltOk call→RSs G2 call (fnd 23).sc za0 ([za6 0 (fnd 23).body,za6 1 (fnd 23).body,za6 2 (fnd 23).body,za6 3 (fnd 23).body,za6 4 (fnd 23).body,za6 5 (fnd 23).body]) f }:=by
 refine' ⟨_,fun call D B=>?h⟩
 case h =>
  unfold za0
  conv in (fnd 23).sc=>whnf
  conv in za6 0 (fnd 23).body=>whnf
  conv in za6 1 (fnd 23).body=>whnf
  conv in za6 2 (fnd 23).body=>whnf
  conv in za6 3 (fnd 23).body=>whnf
  conv in za6 4 (fnd 23).body=>whnf
  conv in za6 5 (fnd 23).body=>whnf
  repeat' (first
   | with_reducible exact RSs_nil
   | with_reducible refine' zco ?_
   | with_reducible refine' zce ?_ ?_
   | ((with_reducible refine' RS_as ?k ?a ?_);(case k=>with_reducible first | exact zbu | exact hk_code | exact zbd | exact zcn | exact zci | exact zbc | exact hk_k | exact hk_kept | exact hk_laid | exact zcc | exact hk_n | exact zba | exact zdd | exact zdc | exact zbg | exact zb8 | exact zc6 | exact zbm | exact zd6 | exact zb7 | exact zcg | exact zby | exact hk_x);(case a=>decide +kernel))
   | ((with_reducible refine' RS_tupN ?a ?k ?_);(case a=>exact tup_ok (by rfl) (by decide +kernel));(case k=>simp -iota only [List.map_cons,List.map_nil,zbu,hk_code,zbd,zcn,zci,zbc,hk_k,hk_kept,hk_laid,zcc,hk_n,zba,zdd,zdc,zbg,zb8,zc6,zbm,zd6,zb7,zcg,zby,hk_x];exact rfl))
   | with_reducible refine' RS_ret ?_
   | with_reducible refine' RS_if ?_ ?_ ?_
   | with_reducible refine' RB_bool ?_
   | ((with_reducible refine' RB_cmp ?a ?_ ?_);(case a=>rfl))
   | with_reducible exact RBs_and0
   | with_reducible exact RBs_or0
   | with_reducible refine' RBs_or ?_ ?_
   | with_reducible exact zd5
   | with_reducible exact RE_bool
   | ((with_reducible refine' zbi ?k ?a ?b);(case k=>with_reducible first | exact zbu | exact hk_code | exact zbd | exact zcn | exact zci | exact zbc | exact hk_k | exact hk_kept | exact hk_laid | exact zcc | exact hk_n | exact zba | exact zdd | exact zdc | exact zbg | exact zb8 | exact zc6 | exact zbm | exact zd6 | exact zb7 | exact zcg | exact zby | exact hk_x);(case a=>decide +kernel);(case b=>decide +kernel))
   | ((with_reducible refine' zcz ?a ?b ?c);(case a=>decide +kernel);(case b=>decide +kernel);(case c=>with_reducible first | exact zcb | exact zcv | exact g_grouping_intervals | exact g_law_laid | exact g_law_sizes | exact g_law_marks | exact g_law_refused | exact g_law_counts | exact g_law_stretch | exact g_len | exact g_isinstance | exact g_sum | exact g_sorted | exact zch | exact g_bool | exact g_list))
   | with_reducible refine' RE_add ?_ ?_
   | with_reducible refine' RE_sub ?_ ?_
   | with_reducible refine' RE_fd ?_ ?_
   | with_reducible refine' RE_mod ?_ ?_
   | with_reducible refine' RE_mul ?_ ?_
   | with_reducible refine' RE_neg ?_
   | with_reducible refine' RE_if ?_ ?_ ?_
   | with_reducible refine' RE_list ?_
   | ((with_reducible refine' RE_cmp ?a ?_ ?_);(case a=>rfl))
   | with_reducible refine' RE_slice ?_ ?_ ?_ ?_
   | ((with_reducible refine' zdx ?a ?_ ?_);(case a=>rfl))
   | ((with_reducible refine' RE_len ?a ?b ?c ?d ?_);(case a=>assumption);(case b=>decide +kernel);(case c=>exact g_len);(case d=>rfl))
   | ((with_reducible refine' RE_range ?a ?b ?c ?d ?_);(case a=>assumption);(case b=>decide +kernel);(case c=>exact zch);(case d=>rfl))
   | ((with_reducible refine' zcr ?a ?_ ?_ ?_);(case a=>assumption))
   | ((with_reducible refine' RE_comp ?k ?a ?_ ?_ ?_);(case k=>with_reducible first | exact zbu | exact hk_code | exact zbd | exact zcn | exact zci | exact zbc | exact hk_k | exact hk_kept | exact hk_laid | exact zcc | exact hk_n | exact zba | exact zdd | exact zdc | exact zbg | exact zb8 | exact zc6 | exact zbm | exact zd6 | exact zb7 | exact zcg | exact zby | exact hk_x);(case a=>decide +kernel))
   | with_reducible exact zb6
   | ((with_reducible refine' zas ?a ?_ ?_);(case a=>rfl))
   | with_reducible exact zcq
   | with_reducible exact RP_none
   | with_reducible refine' zcp ?_)
noncomputable def c_lawB (disp:CallT):{ f:CS // ∀ call,zbo call disp→BltOk call→RSs G2 call (fnd 23).sc za0 ([za6 6 (fnd 23).body,za6 7 (fnd 23).body,za6 8 (fnd 23).body,za6 9 (fnd 23).body,za6 10 (fnd 23).body,za6 11 (fnd 23).body,za6 12 (fnd 23).body]) f }:=by
 refine' ⟨_,fun call D B=>?h⟩
 case h =>
  unfold za0
  conv in (fnd 23).sc=>whnf
  conv in za6 6 (fnd 23).body=>whnf
  conv in za6 7 (fnd 23).body=>whnf
  conv in za6 8 (fnd 23).body=>whnf
  conv in za6 9 (fnd 23).body=>whnf
  conv in za6 10 (fnd 23).body=>whnf
  conv in za6 11 (fnd 23).body=>whnf
  conv in za6 12 (fnd 23).body=>whnf
  repeat' (first
   | with_reducible exact RSs_nil
   | with_reducible refine' zco ?_
   | with_reducible refine' zce ?_ ?_
   | ((with_reducible refine' RS_as ?k ?a ?_);(case k=>with_reducible first | exact zbu | exact hk_code | exact zbd | exact zcn | exact zci | exact zbc | exact hk_k | exact hk_kept | exact hk_laid | exact zcc | exact hk_n | exact zba | exact zdd | exact zdc | exact zbg | exact zb8 | exact zc6 | exact zbm | exact zd6 | exact zb7 | exact zcg | exact zby | exact hk_x);(case a=>decide +kernel))
   | with_reducible refine' RS_ret ?_
   | with_reducible refine' RS_if ?_ ?_ ?_
   | ((with_reducible refine' RB_cmp ?a ?_ ?_);(case a=>rfl))
   | with_reducible exact RBs_and0
   | with_reducible refine' RBs_and ?_ ?_
   | with_reducible exact zd5
   | with_reducible exact RE_bool
   | ((with_reducible refine' zbi ?k ?a ?b);(case k=>with_reducible first | exact zbu | exact hk_code | exact zbd | exact zcn | exact zci | exact zbc | exact hk_k | exact hk_kept | exact hk_laid | exact zcc | exact hk_n | exact zba | exact zdd | exact zdc | exact zbg | exact zb8 | exact zc6 | exact zbm | exact zd6 | exact zb7 | exact zcg | exact zby | exact hk_x);(case a=>decide +kernel);(case b=>decide +kernel))
   | ((with_reducible refine' zcz ?a ?b ?c);(case a=>decide +kernel);(case b=>decide +kernel);(case c=>with_reducible first | exact zcb | exact zcv | exact g_grouping_intervals | exact g_law_laid | exact g_law_sizes | exact g_law_marks | exact g_law_refused | exact g_law_counts | exact g_law_stretch | exact g_len | exact g_isinstance | exact g_sum | exact g_sorted | exact zch | exact g_bool | exact g_list))
   | with_reducible refine' RE_add ?_ ?_
   | with_reducible refine' RE_mul ?_ ?_
   | with_reducible refine' RE_list ?_
   | with_reducible refine' RE_slice ?_ ?_ ?_ ?_
   | ((with_reducible refine' zdx ?a ?_ ?_);(case a=>rfl))
   | ((with_reducible refine' RE_len ?a ?b ?c ?d ?_);(case a=>assumption);(case b=>decide +kernel);(case c=>exact g_len);(case d=>rfl))
   | ((with_reducible refine' RE_range ?a ?b ?c ?d ?_);(case a=>assumption);(case b=>decide +kernel);(case c=>exact zch);(case d=>rfl))
   | ((with_reducible refine' zcr ?a ?_ ?_ ?_);(case a=>assumption))
   | ((with_reducible refine' RE_comp ?k ?a ?_ ?_ ?_);(case k=>with_reducible first | exact zbu | exact hk_code | exact zbd | exact zcn | exact zci | exact zbc | exact hk_k | exact hk_kept | exact hk_laid | exact zcc | exact hk_n | exact zba | exact zdd | exact zdc | exact zbg | exact zb8 | exact zc6 | exact zbm | exact zd6 | exact zb7 | exact zcg | exact zby | exact hk_x);(case a=>decide +kernel))
   | with_reducible exact zb6
   | ((with_reducible refine' zas ?a ?_ ?_);(case a=>rfl))
   | with_reducible exact zcq
   | with_reducible exact RP_none
   | with_reducible refine' zcp ?_)
noncomputable def c_lawC (disp:CallT):{ f:CS // ∀ call,zbo call disp→BltOk call→RSs G2 call (fnd 23).sc za0 ([za6 14 (fnd 23).body,za6 15 (fnd 23).body]) f }:=by
 refine' ⟨_,fun call D B=>?h⟩
 case h =>
  unfold za0
  conv in (fnd 23).sc=>whnf
  conv in za6 14 (fnd 23).body=>whnf
  conv in za6 15 (fnd 23).body=>whnf
  repeat' (first
   | with_reducible refine' zco ?_
   | with_reducible refine' zce ?_ ?_
   | ((with_reducible refine' RS_as ?k ?a ?_);(case k=>with_reducible first | exact zbu | exact hk_code | exact zbd | exact zcn | exact zci | exact zbc | exact hk_k | exact hk_kept | exact hk_laid | exact zcc | exact hk_n | exact zba | exact zdd | exact zdc | exact zbg | exact zb8 | exact zc6 | exact zbm | exact zd6 | exact zb7 | exact zcg | exact zby | exact hk_x);(case a=>decide +kernel))
   | with_reducible exact RBs_and0
   | with_reducible exact zd5
   | ((with_reducible refine' zbi ?k ?a ?b);(case k=>with_reducible first | exact zbu | exact hk_code | exact zbd | exact zcn | exact zci | exact zbc | exact hk_k | exact hk_kept | exact hk_laid | exact zcc | exact hk_n | exact zba | exact zdd | exact zdc | exact zbg | exact zb8 | exact zc6 | exact zbm | exact zd6 | exact zb7 | exact zcg | exact zby | exact hk_x);(case a=>decide +kernel);(case b=>decide +kernel))
   | ((with_reducible refine' zcz ?a ?b ?c);(case a=>decide +kernel);(case b=>decide +kernel);(case c=>with_reducible first | exact zcb | exact zcv | exact g_grouping_intervals | exact g_law_laid | exact g_law_sizes | exact g_law_marks | exact g_law_refused | exact g_law_counts | exact g_law_stretch | exact g_len | exact g_isinstance | exact g_sum | exact g_sorted | exact zch | exact g_bool | exact g_list))
   | with_reducible refine' RE_add ?_ ?_
   | with_reducible refine' RE_list ?_
   | ((with_reducible refine' zdx ?a ?_ ?_);(case a=>rfl))
   | ((with_reducible refine' RE_range ?a ?b ?c ?d ?_);(case a=>assumption);(case b=>decide +kernel);(case c=>exact zch);(case d=>rfl))
   | ((with_reducible refine' zcr ?a ?_ ?_ ?_);(case a=>assumption))
   | ((with_reducible refine' RE_comp ?k ?a ?_ ?_ ?_);(case k=>with_reducible first | exact zbu | exact hk_code | exact zbd | exact zcn | exact zci | exact zbc | exact hk_k | exact hk_kept | exact hk_laid | exact zcc | exact hk_n | exact zba | exact zdd | exact zdc | exact zbg | exact zb8 | exact zc6 | exact zbm | exact zd6 | exact zb7 | exact zcg | exact zby | exact hk_x);(case a=>decide +kernel))
   | with_reducible exact zb6
   | ((with_reducible refine' zas ?a ?_ ?_);(case a=>rfl))
   | with_reducible exact zcq
   | with_reducible refine' zcp ?_)
noncomputable def c_lawD (disp:CallT):{ f:CS // ∀ call,zbo call disp→BltOk call→RSs G2 call (fnd 23).sc za0 ([za6 17 (fnd 23).body,za6 18 (fnd 23).body]) f }:=by
 refine' ⟨_,fun call D B=>?h⟩
 case h =>
  unfold za0
  conv in (fnd 23).sc=>whnf
  conv in za6 17 (fnd 23).body=>whnf
  conv in za6 18 (fnd 23).body=>whnf
  repeat' (first
   | with_reducible exact RSs_nil
   | with_reducible refine' zco ?_
   | with_reducible refine' zce ?_ ?_
   | ((with_reducible refine' RS_as ?k ?a ?_);(case k=>with_reducible first | exact zbu | exact hk_code | exact zbd | exact zcn | exact zci | exact zbc | exact hk_k | exact hk_kept | exact hk_laid | exact zcc | exact hk_n | exact zba | exact zdd | exact zdc | exact zbg | exact zb8 | exact zc6 | exact zbm | exact zd6 | exact zb7 | exact zcg | exact zby | exact hk_x);(case a=>decide +kernel))
   | with_reducible refine' RS_ret ?_
   | with_reducible refine' RS_if ?_ ?_ ?_
   | ((with_reducible refine' RS_for ?k ?a ?b ?_ ?_);(case k=>with_reducible first | exact zbu | exact hk_code | exact zbd | exact zcn | exact zci | exact zbc | exact hk_k | exact hk_kept | exact hk_laid | exact zcc | exact hk_n | exact zba | exact zdd | exact zdc | exact zbg | exact zb8 | exact zc6 | exact zbm | exact zd6 | exact zb7 | exact zcg | exact zby | exact hk_x);(case a=>decide +kernel);(case b=>rfl))
   | with_reducible refine' RB_not ?_
   | with_reducible refine' RB_bool ?_
   | ((with_reducible refine' RB_cmp ?a ?_ ?_);(case a=>rfl))
   | ((with_reducible refine' RB_val ?a ?_);(case a=>rfl))
   | with_reducible exact RBs_or0
   | with_reducible refine' RBs_or ?_ ?_
   | with_reducible exact zd5
   | with_reducible exact RE_bool
   | ((with_reducible refine' zbi ?k ?a ?b);(case k=>with_reducible first | exact zbu | exact hk_code | exact zbd | exact zcn | exact zci | exact zbc | exact hk_k | exact hk_kept | exact hk_laid | exact zcc | exact hk_n | exact zba | exact zdd | exact zdc | exact zbg | exact zb8 | exact zc6 | exact zbm | exact zd6 | exact zb7 | exact zcg | exact zby | exact hk_x);(case a=>decide +kernel);(case b=>decide +kernel))
   | ((with_reducible refine' zcz ?a ?b ?c);(case a=>decide +kernel);(case b=>decide +kernel);(case c=>with_reducible first | exact zcb | exact zcv | exact g_grouping_intervals | exact g_law_laid | exact g_law_sizes | exact g_law_marks | exact g_law_refused | exact g_law_counts | exact g_law_stretch | exact g_len | exact g_isinstance | exact g_sum | exact g_sorted | exact zch | exact g_bool | exact g_list))
   | with_reducible refine' RE_add ?_ ?_
   | with_reducible refine' RE_sub ?_ ?_
   | ((with_reducible refine' RE_range ?a ?b ?c ?d ?_);(case a=>assumption);(case b=>decide +kernel);(case c=>exact zch);(case d=>rfl))
   | ((with_reducible refine' zcr ?a ?_ ?_ ?_);(case a=>assumption))
   | with_reducible exact zb6
   | ((with_reducible refine' zas ?a ?_ ?_);(case a=>rfl))
   | with_reducible exact zcq
   | with_reducible refine' zcp ?_)
noncomputable section
noncomputable def TL1:List (Nat×UF):=[(32,.code (fnd 2)),(50,.code (fnd 4)),(83,.code (fnd 16)),(90,.nat 6 marksF),(116,.nat 5 countsF),(121,.nat 5 stretchF)]
noncomputable def sizCF:CF:=cGc (cFunQ [(zbk,none)] none (c_sizes dB).1)
noncomputable def dL:CallT:=cDisp [(32,bisCF false noKf),(50,bisCF true noKf),(83,sizCF),(90,natCF marksF),(116,natCF countsF),(121,natCF stretchF)] []
theorem dL_ok:zbo (zbv G2 TL1 [] 7) dL:=by
 refine cDisp_ok (d:=6) ⟨fun a f e=>?_,fun k f e=>by simp -iota at e⟩
 have hm:=ze2 e
 simp -iota only [List.mem_cons,Prod.mk.injEq,List.not_mem_nil,or_false] at hm
 rcases hm with ⟨rfl,rfl⟩ | ⟨rfl,rfl⟩ | ⟨rfl,rfl⟩ | ⟨rfl,rfl⟩ | ⟨rfl,rfl⟩ | ⟨rfl,rfl⟩
 ·exact ⟨_,rfl,bisr0⟩
 ·exact ⟨_,rfl,bisl0⟩
 ·exact ⟨_,rfl,cGc_ok fun _ _ _ _ h=>cFunQ_ok (by kernel_rfl) (by decide +kernel) (.inl ⟨rfl,rfl⟩) ((c_sizes dB).2 _ dB_ok zb0) h⟩
 ·exact ⟨_,rfl,natCF_ok (by decide)⟩
 ·exact ⟨_,rfl,natCF_ok (by decide)⟩
 ·exact ⟨_,rfl,natCF_ok (by decide)⟩
noncomputable def lawV1:Vars:=[(zal,.rng 64),(zc9,.obj 2),(zaj,.obj 1)]
noncomputable def lawH1 (row:List AV) (e0 e1:Nat):List AO:=[.tab [],.list row,.list [.int (Int.ofNat e0),.int (Int.ofNat e1)]]
noncomputable def nextOf (z:Option ExR):Option (Vars×List AO):=ox z fun fl v H=>AFlow.rec (motive:=fun _=>Option (Vars×List AO)) (some (v,H)) none (fun _=>none) fl
noncomputable def tT1:CB:=zdv (gOf CmpOp.NotEq) (za8 kk_told) (za8 kk_seconds)
noncomputable def tT2:CB:=zdv (gOf CmpOp.NotEq) (zc1 dL (za1 (AV.lit (Value.ref 90))) (zaa (cList (zaa (za1 (AV.int 1)) (zaa (za1 (AV.int 0)) zcd))) zcd) kNil) (zcj (za8 kk_rulers) (za1 (AV.int 2)))
noncomputable def intsAt (k:Nat) (v:Vars) (H:List AO):Option (List Int):=o1 (za2 k v) fun a=>onObj a fun z=>o1 (plQ H z) fun l=>natsQ l
noncomputable def iL (xs ys:List Int):Bool:=sameQ (xs.map AV.int) ys
noncomputable def gvOk (xs:List Int):Bool:=bi (no0 xs) (Option.rec (motive:=fun _=>Bool) false (fun ys=>iL ys xs) (gvals 16 (gfQ xs))) false
noncomputable def gvOk2 (xs:List Int):Bool:=bi (no0 (appF xs [127,2])) (Option.rec (motive:=fun _=>Bool) false (fun ys=>iL ys xs) (gvals 16 (gfQ (appF xs [127,2])))) false
noncomputable def lawT (v:Vars) (H:List AO):Option (List AO):=ob (tT1 v H) fun b H4=>bi b none (ob (tT2 v H4) fun b2 H5=>bi b2 none (some H5))
noncomputable def isTr (a:AV):Bool:=AV.rec (motive:=fun _=>Bool) (fun v=>(match v with | .bool b=>b | _=>false)) (fun _=>false) (fun _=>false) (fun _=>false) (fun _=>false) a
noncomputable def isR64 (a:AV):Bool:=AV.rec (motive:=fun _=>Bool) (fun _=>false) (fun _=>false) (fun _=>false) (fun _=>false) (fun n=>Nat.beq n 64) a
noncomputable def isTabO (o:AO):Bool:=AO.rec (motive:=fun _=>Bool) (fun _=>false) (fun _ _ _=>false) (fun _=>false) (fun _ _=>false) (fun _=>true) false o
noncomputable def lawX3 (v:Vars) (H:List AO):Option Unit:=o1 (retF ((c_lawD dL).1 v H)) fun q=>bi (isTr q.1) (o1 (nth q.2 0) fun o=>bi (isTabO o) (some ()) none) none
noncomputable def lawX2 (v:Vars) (H:List AO):Option Unit:=o1 (lawT v H) fun H5=>o1 (za2 zaj v) fun rv=>onObj rv fun _=>o1 (intsAt zcs v H5) fun xs=>bi (Nat.ble (lenF xs) 1000) (lawX3 v H5) none
noncomputable def lawX1 (v:Vars) (H:List AO):Option Unit:=o1 (za2 zal v) fun tv=>bi (isR64 tv) (o1 (intsAt zcs v H) fun xs=>bi (bi (Nat.ble (lenF xs) 1000) (bi (gvOk xs) (gvOk2 xs) false) false) (o1 (nextOf ((c_lawC dL).1 v H)) fun p=>lawX2 p.1 p.2) none) none
noncomputable def lawX (row:List AV) (e0 e1:Nat):Option Unit:=o1 (nextOf ((c_lawB dL).1 lawV1 (lawH1 row e0 e1))) fun p=>lawX1 p.1 p.2
noncomputable def lawE (row:List AV) (e0 e1:Nat):Bool:=Option.rec (motive:=fun _=>Bool) false (fun _=>true) (lawX row e0 e1)
noncomputable def rows (m:Nat):Nat→List (List Int):=Nat.rec (motive:=fun _=>Nat→List (List Int)) (fun _=>[[]]) (fun _ ih lo=>List.rec (motive:=fun _=>List (List Int)) [] (fun x _ acc=>appF ((ih x).map (Int.ofNat x::·)) acc) (List.range' lo (6 - lo))) m
noncomputable def rngs (n:Nat):List AV:=List.replicate n (.rng 6)
noncomputable def rowOf (n e1:Nat) (l:List Int):List AV:=appF (l.map .int) (rngs (n - e1))
end
noncomputable def cmX (e:Expr):Expr:=kid 0 e
noncomputable def cmR (e:Expr):Pos:=(kid 1 e).pos
noncomputable def cmQ (e:Expr):Pos:=e.pos
noncomputable def lcE (e:Expr):Pos:=(kid 0 e).pos
noncomputable def lcT (e:Expr):Pos:=(kid 1 e).pos
noncomputable def lcI (e:Expr):Expr:=kid 2 e
noncomputable def lcS (e:Expr):Scope:=scOf e
noncomputable def lcQ (e:Expr):Pos:=e.pos
noncomputable def T13:Stmt:=za6 13 (fnd 23).body
noncomputable def U13:Expr:=cmX (ifT T13)
noncomputable def nSizes:Str:="sizes"
theorem s13_is:T13=.If (.Compare (.ListComp (.Name nSize (lcE U13)) [⟨.Name nSize (lcT U13),.Call (.Name nGI (cP (lcI U13))) (cA (lcI U13)) [] (cQ (lcI U13)),[],0⟩] (lcS U13) (lcQ U13)) [.NotEq] [.Name nSizes (cmR (ifT T13))] (cmQ (ifT T13))) (ifB T13) [] (stQ T13):=by kernel_rfl
theorem s13_ok:compOk (fnd 23).sc (lcS U13) nSize=true:=by decide +kernel
theorem s13_callee {v:Vars} {H:List AO}:ev G2 cM za0 (fnd 23).sc v (.Name nGI (cP (lcI U13))) H=some (.lit (.ref 57),H):=by kernel_rfl
section
variable {c:Cx} {sc:Scope} {v:Vars} {env:Env} {σ:List Addr} {h h':Heap}
theorem SF.opn {x:Str} {n:Nat} (F:SF c sc v env σ h) (hl:look (key x) v=some (.rng n)) (hv:isVar (sc.names.lookup x)=true) (hx:x≠(".0":Str)):∃ i:Nat,SF c sc ((key x,.int (i:Int))::v) env σ h:=by
 have fin:∀ i:Nat,VarAt env σ h x (.int (i:Int))→SF c sc ((key x,.int (i:Int))::v) env σ h:=fun i V =>
  ⟨⟨⟨F.kind,F.glob,F.blt,F.gk,fun y av hy hyv=>by
   rw [zan] at hy
   by_cases q:key x=key y
   ·rw [if_pos q] at hy
    obtain rfl:=sj hy
    have:=key_inj q
    subst this
    exact V
   ·rw [if_neg q] at hy
    exact F.vk y av hy hyv,F.ns,F.outL,F.outC,by rw [zan,if_neg (fun q=>hx (key_inj q))];exact F.nodot⟩,F.up,F.all,F.ck⟩,F.scope,F.inj,F.outLC,F.newL,F.newC,F.upL⟩
 rcases F.vk x _ hl hv with ⟨k,m,u,n1,n2,i,t,hi,rfl⟩ | ⟨k,a,u,n1,n2,i,t,hi,rfl⟩
 ·exact ⟨i,fin i (.inl ⟨k,m,_,n1,n2,t,rfl⟩)⟩
 ·exact ⟨i,fin i (.inr ⟨k,a,_,n1,n2,t,rfl⟩)⟩
theorem SF.keepNsC (F:SF c sc v env σ h) (hk:∀ m,h.Ns env.locals m→h'.Ns env.locals m) (hC:∀ b o,b∈fcells env→h.get? b=some o→h'.get? b=some o):SF c sc v env σ h':=by
 obtain ⟨mm,hmm⟩:=F.ns
 have hc:∀ {x a o},env.cells.lookup x=some a→h.get? a=some o→h'.get? a=some o:=fun {x a o} e q=>hC a o (by
  have:=mem_cells e
  rcases List.mem_cons.mp this with z | z
  ·exact absurd z (F.outLC x a e)
  ·exact z) q
 refine ⟨⟨⟨F.kind,F.glob,F.blt,F.gk,fun x av hx hv=>?_,⟨mm,hk _ hmm⟩,F.outL,F.outC,F.nodot⟩,fun x b hx=>?_,F.all,F.ck⟩,F.scope,F.inj,F.outLC,F.newL,F.newC,fun b hb=>?_⟩
 ·rcases F.vk x av hx hv with ⟨k,m,u,n1,n2,r⟩ | ⟨k,a,u,n1,n2,r⟩
  ·exact .inl ⟨k,m,u,hk _ n1,n2,r⟩
  ·obtain ⟨o,ho,r2⟩:=n2
   exact .inr ⟨k,a,u,n1,⟨o,hc n1 ho,r2⟩,r⟩
 ·obtain ⟨u,o,ho,hd⟩:=F.up x b hx
  exact ⟨u,o,hc hx ho,hd⟩
 ·obtain ⟨o,ho⟩:=F.upL b hb
  exact ⟨o,hC b o hb ho⟩
end
noncomputable def tail2 (b:Nat):List Int:=s3 b [127,2] [] []
theorem s13_args {v:Vars} {H:List AO} {z b:Nat} {T:Int} {xs:List Int} (vt:za2 zal v=some (.int T)) (vz:za2 zcs v=some (.obj z)) (hz:H[z]?=some (.list (xs.map .int))) (hb:b < 2) (hT:Int.fmod T 2=(b:Int)) (hl:xs.length≤1000) {Γ:Prop} (κ:∀ H1,evs (ev G2 cM za0 (fnd 23).sc v) (cA (lcI U13)) H=some ([.obj (H.length + 3)],H++H1)→H1.length=4→(H++H1)[H.length + 3]?=some (.list ((xs++tail2 b).map .int))→Γ):Γ:=by
 have h:REs G2 cM (fnd 23).sc za0 (cA (lcI U13)) (zaa (zbh gAdd (za8 zcs) (zcj (cList (zaa (cList (zaa (za1 (.int 127)) (zaa (za1 (.int 2)) zcd))) (zaa (cList zcd) zcd))) (zbh gMod (za8 zal) (za1 (.int 2))))) zcd):=by
  conv in cA (lcI U13)=>whnf
  unfold za0
  exact zas rfl (RE_add (zbi zb7 (by decide +kernel) (by decide +kernel)) (zdx rfl (RE_list (zas rfl (RE_list (zas rfl zd5 (zas rfl zd5 zb6))) (zas rfl (RE_list zb6) zb6))) (RE_mod (zbi zby (by decide +kernel) (by decide +kernel)) zd5))) zb6
 have hzl:z < H.length:=(List.getElem?_eq_some_iff.mp hz).1
 have l1:=list_s (zad (za9 (.int 127) v H) (zad (za9 (.int 2) v H) (zc8 _ _))) (by simp)
 have l2:=list_s (zc8 v (H++[AO.list [.int 127,.int 2]])) (by simp)
 have l3:=list_s (zad l1 (zad l2 (zc8 _ _))) (by simp)
 generalize hH3:H++[AO.list [.int 127,.int 2]]++[AO.list []]++[AO.list [.obj H.length,.obj (H++[AO.list [.int 127,.int 2]]).length]]=H3 at l3
 have e3:H3=H++[AO.list [.int 127,.int 2],.list [],.list [.obj H.length,.obj (H.length + 1)]]:=by rw [← hH3];simp
 have md:zbh gMod (za8 zal) (za1 (.int 2)) v H3=some (.int (b:Int),H3):=by
  rw [← hT];exact zb2 (za5 vt H3) (za9 _ _ _) rfl
 have g0:H3[H.length]?=some (.list [.int 127,.int 2]):=by rw [e3];simp
 have g1:H3[H.length + 1]?=some (.list []):=by rw [e3];simp
 have g2:H3[H.length + 2]?=some (.list [.obj H.length,.obj (H.length + 1)]):=by rw [e3];simp
 have gz:H3[z]?=some (.list (xs.map .int)):=by rw [e3,List.getElem?_append_left hzl];exact hz
 have hl3:H3.length=H.length + 3:=by rw [e3];simp
 have add:∀ {k:Nat} {l:List Int},H3[k]?=some (.list (l.map .int))→l.length≤2→gAdd (.obj z) (.obj k) H3=some (.obj (H.length + 3),H3++[.list ((xs++l).map .int)]):=fun {k l} hk hlen=>by
  show (do let x ← zah H3 (.obj z);let y ← zah H3 (.obj k);newL H3 (x++y))=_
  simp only [zah,zaw,gz,hk,Option.bind_eq_bind,Option.bind_some]
  unfold newL
  rw [if_pos (by rw [List.length_append,List.length_map,List.length_map];omega),hl3,List.map_append]
 have it:zcj (cList (zaa (cList (zaa (za1 (.int 127)) (zaa (za1 (.int 2)) zcd))) (zaa (cList zcd) zcd))) (zbh gMod (za8 zal) (za1 (.int 2))) v H=some (.obj (H.length + b),H3):=by
  refine zd4 l3 md ?_
  refine itemL (xs:=[.obj H.length,.obj (H.length + 1)]) ?_ ?_
  ·rw [show (H++[AO.list [.int 127,.int 2]]++[AO.list []]).length=H.length + 2 by simp]
   exact lof_pl g2
  ·match b,hb with
   | 0,_=>rfl
   | 1,_=>rfl
 have ad:gAdd (.obj z) (.obj (H.length + b)) H3=some (.obj (H.length + 3),H3++[.list ((xs++tail2 b).map .int)]):=by
  match b,hb with
  | 0,_=>exact add (l:=[127,2]) g0 (by decide)
  | 1,_=>exact add (l:=[]) g1 (by decide)
 refine κ [AO.list [.int 127,.int 2],.list [],.list [.obj H.length,.obj (H.length + 1)],.list ((xs++tail2 b).map .int)] ?_ rfl (by simp)
 have:=h _ _ _ (zad (zb2 (za5 vz H) it ad) (zc8 _ _))
 rw [this,e3]
 simp
theorem iL_is {xs ys:List Int} (h:iL xs ys=true):xs=ys:=by
 have:=sameQ_ok h
 exact (List.map_inj_right (fun a b q=>by injection q)).mp this
theorem gv_ok {xs ys:List Int} (h:bi (no0 ys) (Option.rec (motive:=fun _=>Bool) false (fun zs=>iL zs xs) (gvals 16 (gfQ ys))) false=true):(∀ r,ys≠0::r)∧gvals 16 (gfirst ys)=some xs:=by
 rw [zay] at h
 refine ifbk h fun q h=>?_
 refine ⟨no0_ok q,?_⟩
 rw [← gfQ_eq]
 cases e:gvals 16 (gfQ ys) with
 | none=>rw [e] at h;exact ftf h
 | some zs=>rw [e] at h;rw [iL_is h]
theorem mod2 (n:Nat) {Γ:Prop} (κ:∀ b:Nat,Int.fmod (n:Int) 2=(b:Int)→b < 2→Γ):Γ:=κ (n % 2) (fmodN n 2) (Nat.mod_lt _ (by decide))
section
variable {w:World} {hb:Heap} {mg mb:Str→Option Value} {A:Around} {env:Env} {σ:List Addr} {H:List AO} {s:Shared} {v:Vars} {z:Nat} {xs:List Int}
theorem law_b2 (T:TopAt w hb mg mb) (Rm:Room A 6) (S:St (cxP w hb [111] 0) σ H s) (F:SF (cxP w hb [111] 0) (fnd 23).sc v env σ s.heap) (vt:za2 zal v=some (.rng 64)) (vz:za2 zcs v=some (.obj z)) (hz:H[z]?=some (.list (xs.map .int))) (hl:xs.length≤1000) (g1:gvOk xs=true) (g2:gvOk2 xs=true)
  {Q:Flow→Shared→Prop} {E:Value→Shared→Prop} (hq:∀ s',AftS (cxP w hb [111] 0) σ H env s [] s'→SF (cxP w hb [111] 0) (fnd 23).sc v env σ s'.heap→Q .next s'):wpAny (model PG w) A (exec T13 env) Q E s:=by
 have O':TopOut w mg []:=zam
 have Ok:(cxP w hb [111] 0).Ok:=cx_ok T.X T.Ng T.Nb T.hb T.nl O'.g O'.b O'.s
 have kt:key "turn"=zal:=zby
 obtain ⟨i,F'⟩:=F.opn (x:="turn") (n:=64) (by rw [kt,← zbj];exact vt) (by decide +kernel) (by decide +kernel)
 rw [kt] at F'
 have v't:za2 zal ((zal,.int (i:Int))::v)=some (.int (i:Int)):=by rw [zbj,zan,if_pos rfl]
 have v'z:za2 zcs ((zal,.int (i:Int))::v)=some (.obj z):=by rw [zbj,zan,if_neg (by decide +kernel),← zbj];exact vz
 refine mod2 i fun b hT hb2=>?_
 refine s13_args v't v'z hz hb2 hT hl fun H1 e2 hlen1 hz1=>?_
 have hg:(∀ r,xs++tail2 b≠0::r)∧gvals 16 (gfirst (xs++tail2 b))=some xs:=by
  match b,hb2 with
  | 0,_ =>
   have:=gv_ok (xs:=xs) (ys:=appF xs [127,2]) g2
   rw [zc3] at this
   exact this
  | 1,_ =>
   have:=gv_ok (xs:=xs) (ys:=xs) g1
   show (∀ r,xs++[]≠0::r)∧gvals 16 (gfirst (xs++[]))=some xs
   rw [List.append_nil]
   exact this
 have hcall:zbx (cxP w hb [111] 0) cM 1:=zb3 (c:=cxP w hb [111] 0) (T:=[]) (TL:=[]) Ok (noTab _) 1
 rw [s13_is]
 refine wpAny_If (wpAny_isTrue_Compare1 ((gcomp_sound T hcall (Rm.le (by decide)) (Rm.le (by decide)) (by decide) F'.toFr' S s13_ok (by decide +kernel) s13_callee e2 hz1 hg.1 hg.2).use fun τ1 s1 u1 a1 r1=>?_) (by kernel_rfl))
 have F1:=F'.toFr'.aft a1
 have S1:=a1.st
 have eN:ev G2 cM za0 (fnd 23).sc ((zal,.int (i:Int))::v) (.Name nSizes (cmR (ifT T13))) (H++H1++[AO.list (xs.map .int)])=some (.obj z,H++H1++[AO.list (xs.map .int)]):=by
  unfold za0
  exact zbi zb7 (by decide +kernel) (by decide +kernel) _ _ _ (za5 v'z _)
 refine ((zbf Ok hcall za0).1 A _ _ env _ _ _ _ _ s1 (Rm.le (by decide)) F1 S1 eN).use fun τ2 s2 u2 a2 r2=>?_
 have hzl:z < H.length:=(List.getElem?_eq_some_iff.mp hz).1
 have ec:cmp .NotEq (.obj (H++H1).length) (.obj z) (H++H1++[AO.list (xs.map .int)])=some false:=by
  show (cmpEq (.obj (H++H1).length) (.obj z) (H++H1++[AO.list (xs.map .int)])).map not=_
  have l1:zah (H++H1++[AO.list (xs.map .int)]) (.obj (H++H1).length)=some (xs.map .int):=by simp only [zah,zaw,zav rfl]
  have l2:zah (H++H1++[AO.list (xs.map .int)]) (.obj z)=some (xs.map .int):=by
   simp only [zah,zaw,List.append_assoc,List.getElem?_append_left hzl,hz]
  show (do eqL (← zah (H++H1++[AO.list (xs.map .int)]) (.obj (H++H1).length)) (← zah (H++H1++[AO.list (xs.map .int)]) (.obj z))).map not=_
  rw [l1,l2]
  show (eqL (xs.map .int) (xs.map .int)).map not=_
  rw [eqL_self];rfl
 refine (cmp_sound Rm a2.st r1.mono r2 ec).use fun τ3 s3 u3 a3 r3=>?_
 subst r3
 refine wpAny_truthy_bool ?_
 rw [if_neg (by decide)]
 refine wpAny_execs_nil ?_
 have aa:=(a1.trans a2).trans (by rw [← List.append_assoc];exact a3)
 have htk:(H++H1++[AO.list (xs.map .int)]).take σ.length=H:=by rw [S.len,List.append_assoc,List.take_left]
 have D:=Aft.drop S aa (by rw [htk,S.len];exact S.clean)
 rw [htk] at D
 refine hq s3 D.toS ?_
 have:=F.aft D
 rwa [List.append_nil] at this
end
noncomputable def boL (e:Expr):List Expr:=kids e
noncomputable def boQ (e:Expr):Pos:=e.pos
noncomputable def nthE:Nat→List Expr→Expr
 | 0,x::_=>x
 | k + 1,_::l=>nthE k l
 | _,[]=>.Constant .none 0 ⟨0,0,0,0⟩
noncomputable def unX (e:Expr):Expr:=kid 0 e
noncomputable def unQ (e:Expr):Pos:=e.pos
noncomputable def T16:Stmt:=za6 16 (fnd 23).body
noncomputable def W16 (k:Nat):Expr:=nthE k (boL (ifT T16))
noncomputable def C16:Expr:=unX (W16 2)
noncomputable def nRef:Str:="_law_refused"
theorem s16_is:T16=.If (.BoolOp .Or [W16 0,W16 1,.UnaryOp .Not (.Call (.Name nRef (cP C16)) (cA C16) [] (cQ C16)) (unQ (W16 2))] (boQ (ifT T16))) (ifB T16) [] (stQ T16):=by kernel_rfl
theorem s16_callee {call:CallT} {v:Vars} {H:List AO}:ev G2 call za0 (fnd 23).sc v (.Name nRef (cP C16)) H=some (.lit (.ref 97),H):=by kernel_rfl
theorem s16_1 {call:CallT}:RB G2 call (fnd 23).sc za0 (W16 0) tT1:=by
 conv in W16 0=>whnf
 unfold za0 tT1
 exact RB_cmp rfl (zbi zcg (by decide +kernel) (by decide +kernel)) (zbi zbm (by decide +kernel) (by decide +kernel))
theorem s16_2 {call:CallT} (D:zbo call dL):RB G2 call (fnd 23).sc za0 (W16 1) tT2:=by
 conv in W16 1=>whnf
 unfold za0 tT2
 exact RB_cmp rfl (zcr D (zcz (by decide +kernel) (by decide +kernel) g_law_marks) (zas rfl (RE_list (zas rfl zd5 (zas rfl zd5 zb6))) zb6) zcq) (zdx rfl (zbi zb8 (by decide +kernel) (by decide +kernel)) zd5)
theorem s16_args {call:CallT} {v:Vars} {H:List AO} {r z:Nat} (vr:za2 zaj v=some (.obj r)) (vz:za2 zcs v=some (.obj z)):evs (ev G2 call za0 (fnd 23).sc v) (cA C16) H=some ([.obj r,.obj z],H):=by
 have h:REs G2 call (fnd 23).sc za0 (cA C16) (zaa (za8 zaj) (zaa (za8 zcs) zcd)):=by
  conv in cA C16=>whnf
  unfold za0
  exact zas rfl (zbi zbg (by decide +kernel) (by decide +kernel)) (zas rfl (zbi zb7 (by decide +kernel) (by decide +kernel)) zb6)
 exact h _ _ _ (zad (za5 vr H) (zad (za5 vz H) (zc8 _ _)))
theorem TL1_ok {w:World} {h:Heap} {mg mb:Str→Option Value} (T:TopAt w h mg mb):TabOk (cxP w h [111] 0) TL1 []:=by
 have O:TopOut w mg []:=zam
 refine ⟨fun a u e=>?_,fun k u q=>by simp -iota at q⟩
 have key:∀ p∈TL1,UFOk (cxP w h [111] 0) p.1 p.2:=by
  unfold TL1
  simp -iota only [List.forall_mem_cons]
  exact ⟨⟨_,.inl (u_bisr (c:=cxP w h [111] 0) T.X O.K)⟩,⟨_,.inl (u_bisl (c:=cxP w h [111] 0) T.X O.K)⟩,⟨_,.inr (u_sizes (c:=cxP w h [111] 0) T.X O.K)⟩,marks_nat T,counts_nat T,stretch_nat T O,fun _ h=>nomatch h⟩
 exact key (a,u) (zcl e)
section
variable {w:World} {hb:Heap} {mg mb:Str→Option Value} {A:Around} {env:Env} {σ:List Addr} {H H4 H5:List AO} {s:Shared} {v:Vars} {r z:Nat} {xs:List Int}
theorem law_b4 (T:TopAt w hb mg mb) (Rm:Room A 10) (hA:A.frames=some [env]) (hfe:env.frame=some env.locals) (S:St (cxP w hb [111] 0) σ H s) (F:SF (cxP w hb [111] 0) (fnd 23).sc v env σ s.heap) (t1:tT1 v H=some (false,H4)) (t2:tT2 v H4=some (false,H5)) (vr:za2 zaj v=some (.obj r)) (vz:za2 zcs v=some (.obj z))
  (hz:H5[z]?=some (.list (xs.map .int))) (hl:xs.length≤1000) {Q:Flow→Shared→Prop} {E:Value→Shared→Prop} (hq:∀ τ s',AftS (cxP w hb [111] 0) σ H5 env s τ s'→SF (cxP w hb [111] 0) (fnd 23).sc v env (σ++τ) s'.heap→Q .next s'):wpAny (model PG w) A (exec T16 env) Q E s:=by
 have O':TopOut w mg []:=zam
 have Ok:(cxP w hb [111] 0).Ok:=cx_ok T.X T.Ng T.Nb T.hb T.nl O'.g O'.b O'.s
 have hcall:zbx (cxP w hb [111] 0) (zbv G2 TL1 [] 7) 7:=zb3 (c:=cxP w hb [111] 0) Ok (TL1_ok T) 7
 have I:=zbf (c:=cxP w hb [111] 0) Ok hcall za0
 rw [s16_is]
 refine wpAny_If (wpAny_isTrue_BoolOp (wpAny_allTrue_Or_cons ((I.2 A _ _ env _ _ _ _ _ s (Rm.le (by decide)) F.toFr' S (s16_1 _ _ _ t1)).use fun τ1 s1 b1 a1 r1=>?_)))
 subst r1
 rw [if_neg (by decide)]
 refine wpAny_allTrue_Or_cons ((I.2 A _ _ env _ _ _ _ _ s1 (Rm.le (by decide)) (F.toFr'.aft a1) a1.st (s16_2 dL_ok _ _ _ t2)).use fun τ2 s2 b2 a2 r2=>?_)
 subst r2
 rw [if_neg (by decide)]
 have a12:=a1.trans a2
 generalize hτ:τ1++τ2=τ at a12
 have F2:=F.aft a12
 have S2:=a12.st
 refine wpAny_allTrue_Or_cons (wpAny_isTrue_Not (wpAny_isTrue_value ?_ rfl))
 refine wpAny_Call_Name_kw ((I.1 A _ _ env _ _ _ _ _ s2 (Rm.le (by decide)) F2.toFr' S2 s16_callee).use fun τ3 s3 v3 a3 r3=>?_)
 cases aft_nil1 a3 S2.len.symm
 have r3':v3=.ref 97:=r3
 subst r3'
 refine callWith_any (zdb (env:=env) _ _ (s16_args (call:=zbv G2 TL1 [] 7) (H:=H5) vr vz)) (zdu (env:=env) _ [] (f:=ev G2 (zbv G2 TL1 [] 7) za0 (fnd 23).sc v) (H:=H5) (r:=([],H5)) rfl) ?_
 have F3:=F2.toFr'.aft a3
 have S3:=a3.st
 refine (zdn I.1 (Rm.le (by decide)) _ _ F3 S3 (s16_args (call:=zbv G2 TL1 [] 7) (H:=H5) vr vz) (ks:=[]) (kvs:=[]) (H2:=H5) rfl).use fun τ4 s4 v4 a4 r4=>?_
 obtain ⟨vp,vk⟩:=v4
 obtain ⟨k1,k2⟩:=r4
 cases relK_nil k2
 cases aft_nil1 a4 S3.len.symm
 have a14:Aft (cxP w hb [111] 0) σ H5 s τ s4:=by
  have x:=(a12.trans a3).trans (by simpa -iota using a4)
  simpa -iota using x
 have F4:=F.aft a14
 have S4:=a14.st
 have T4:TopAt w s4.heap mg mb:=T.keep O' S4.base
 refine fn_of (K:=KF w) (a:=97) T4.X (by kernel_rfl) fun fo cc o vs t h1 h2 _ _ _ _ _ _ _=>?_
 refine ⟨.inr ⟨97,fo,_,rfl,T4.X _ _ h1,h2⟩,?_⟩
 refine arg2_at rfl k1 ?_;rintro w1 w2 rfl q1 ⟨la,hla,q2⟩
 ·subst q2
  simp -iota only [List.append_nil] at hla
  refine refused_call T S4 hA (Rm.le (by decide)) F4.kind hfe F4.ns F4.newL F4.outL hla hz hl fun s5 kp ksl gm os=>?_
  refine wpAny_truthy_bool ?_
  show wpAny (model PG w) A (allTrue .Or [] env) _ _ s5
  refine wpAny_allTrue_Or_nil ?_
  rw [if_neg (by decide)]
  refine wpAny_execs_nil ?_
  have hLn:env.locals∉σ++τ:=F4.outL
  have hbL:hb.get? env.locals=none:=F4.newL
  have S5:St (cxP w hb [111] 0) (σ++τ) H5 s5:=S4.keepOn (fun b o _ e=>kp b o (fun q=>by
   have e':hb.get? b=some o:=e
   rw [q,hbL] at e';exact nsf e') (S4.base b o (fun q=>nomatch q) e)) (fun a o ha e=>kp a o (fun q=>hLn (q▸ha)) e) (fun b o e=>by
   have e':hb.get? b=some o:=e
   exact ⟨o,kp b o (fun q=>by rw [q,hbL] at e';exact nsf e') (S4.base b o (fun q=>nomatch q) e)⟩)
  have F5:SF (cxP w hb [111] 0) (fnd 23).sc v env (σ++τ) s5.heap:=F4.keepNsC (fun m ⟨o,es,ep,ho,hd,r⟩=>by
   obtain ⟨sl,e⟩:=ksl o ho
   exact ⟨_,es,ep,e,hd,r⟩) (fun b o hbc e=>kp b o (fun q=>by
   obtain ⟨p,hp,hpe⟩:=List.mem_filterMap.mp hbc
   exact F4.outLC p.1 b hpe q) e)
  refine hq τ s5 ⟨S5,⟨fun b o hbn e=>?_,fun b o e=>?_,a14.pres.gens.trans gm,os.trans a14.pres.os⟩,a14.new⟩ F5
  ·exact kp b o (fun q=>hbn (List.mem_append_right _ (q▸List.mem_cons_self ..))) (a14.pres.keep b o (fun q=>hbn (List.mem_append_left _ q)) e)
  ·obtain ⟨o',e'⟩:=a14.pres.there b o e
   by_cases q:b=env.locals
   ·subst q
    obtain ⟨sl,e2⟩:=ksl o' e'
    exact ⟨_,e2⟩
   ·exact ⟨o',kp b o' q e'⟩
end
theorem nextOf_ok {z:Option ExR} {p:Vars×List AO} (h:nextOf z=some p):z=some (.next,p.1,p.2):=by
 refine ox_some h fun fl v H e h=>?_
 cases fl with
 | next=>obtain rfl:=sj h;exact e
 | _=>exact nsf h
theorem intsAt_ok {k:Nat} {v:Vars} {H:List AO} {xs:List Int} (h:intsAt k v H=some xs) {Γ:Prop} (κ:∀ z,za2 k v=some (.obj z)→H[z]?=some (.list (xs.map .int))→Γ):Γ:=by
 refine za7 h fun a e1 h=>?_
 refine zde h ?_;rintro z rfl h
 refine za7 h fun l e2 h=>?_
 exact κ z e1 (by rw [plQ_is e2,natsQ_is h])
theorem lawT_ok {v:Vars} {H H5:List AO} (h:lawT v H=some H5) {Γ:Prop} (κ:∀ H4,tT1 v H=some (false,H4)→tT2 v H4=some (false,H5)→Γ):Γ:=by
 refine zai h fun b H4 e1 h=>?_
 cases b with
 | true=>exact nsf h
 | false =>
  refine zai (show ob (tT2 v H4) (fun b2 H5=>bi b2 none (some H5))=some H5 from h) fun b2 H' e2 h=>?_
  cases b2 with
  | true=>exact nsf h
  | false=>obtain rfl:=sj h;exact κ H4 e1 e2
theorem isR64_is {a:AV} (h:isR64 a=true):a=.rng 64:=by
 cases a with
 | rng n=>rw [Nat.eq_of_beq_eq_true (show Nat.beq n 64=true from h)]
 | _=>exact ftf h
theorem isTr_is {a:AV} (h:isTr a=true):a=.lit (.bool true):=by
 cases a with
 | lit u =>
  cases u with
  | bool b=>rw [show b=true from h]
  | _=>exact ftf h
 | _=>exact ftf h
theorem isTabO_is {o:AO} (h:isTabO o=true):∃ tabs,o=.tab tabs:=by
 cases o with
 | tab xs=>exact ⟨xs,rfl⟩
 | _=>exact ftf h
theorem lawX1_ok {v:Vars} {H:List AO} {q:Unit} (h:lawX1 v H=some q) {Γ:Prop} (κ:za2 zal v=some (.rng 64)→((∃ (z:Nat) (xs:List Int),za2 zcs v=some (.obj z)∧H[z]?=some (.list (xs.map .int))∧xs.length≤1000∧gvOk xs=true∧gvOk2 xs=true))→∀ p:Vars×List AO,(c_lawC dL).1 v H=some (.next,p.1,p.2)→lawX2 p.1 p.2=some q→Γ):Γ:=by
 refine za7 h fun tv tu h=>?_
 rw [zay] at h
 refine ifsk h fun q0 h=>?_
 rw [isR64_is q0] at tu
 refine za7 h fun xs hs h=>?_
 refine intsAt_ok hs fun z s2 z2=>?_
 rw [zay] at h
 refine ifsk h fun q1 h=>?_
 obtain ⟨q1,q2⟩:=bi_and q1
 obtain ⟨q2,q3⟩:=bi_and q2
 refine za7 h fun p c1 h=>?_
 rw [zau] at q1
 exact κ tu ⟨z,xs,s2,z2,Nat.ble_eq.mp q1,q2,q3⟩ p (nextOf_ok c1) h
theorem lawX2_ok {v:Vars} {H:List AO} {q:Unit} (h:lawX2 v H=some q) {Γ:Prop} (κ:∀ H4 H5,tT1 v H=some (false,H4)→tT2 v H4=some (false,H5)→((∃ (r z:Nat) (xs:List Int),za2 zaj v=some (.obj r)∧za2 zcs v=some (.obj z)∧H5[z]?=some (.list (xs.map .int))∧xs.length≤1000))→lawX3 v H5=some q→Γ):Γ:=by
 refine za7 h fun H5 ht h=>?_
 refine lawT_ok ht fun H4 t1 t2=>?_
 refine za7 h fun rv r3 h=>?_
 refine zde h ?_;rintro r rfl h
 refine za7 h fun xs hs h=>?_
 refine intsAt_ok hs fun z s3 z3=>?_
 rw [zay,zau] at h
 refine ifsk h fun q4 h=>?_
 exact κ H4 H5 t1 t2 ⟨r,z,xs,r3,s3,z3,Nat.ble_eq.mp q4⟩ h
theorem lawX3_ok {v:Vars} {H:List AO} {q:Unit} (h:lawX3 v H=some q) {Γ:Prop} (κ:∀ v5 H6 tabs,(c_lawD dL).1 v H=some (.ret (.lit (.bool true)),v5,H6)→H6[0]?=some (.tab tabs)→Γ):Γ:=by
 refine o1_someP h fun a H6 d1 h=>?_
 rw [zay] at h
 refine ifsk h fun q5 h=>?_
 refine za7 h fun o tb h=>?_
 rw [zay] at h
 refine ifsk h fun q6 _=>?_
 obtain ⟨v5,d1⟩:=retF_ok d1
 rw [zaw] at tb
 obtain ⟨tabs,rfl⟩:=isTabO_is q6
 have ha:a=.lit (.bool true):=isTr_is q5
 subst ha
 exact κ v5 H6 tabs d1 tb
theorem law_split:(fnd 23).body.drop 6=[za6 6 (fnd 23).body,za6 7 (fnd 23).body,za6 8 (fnd 23).body,za6 9 (fnd 23).body,za6 10 (fnd 23).body,za6 11 (fnd 23).body,za6 12 (fnd 23).body]++(T13::([za6 14 (fnd 23).body,za6 15 (fnd 23).body]++(T16::[za6 17 (fnd 23).body,za6 18 (fnd 23).body]))):=by kernel_rfl
theorem law_tail {w:World} {hb:Heap} {mg mb:Str→Option Value} {A:Around} {env:Env} {σ:List Addr} {s:Shared} {row:List AV} {e0 e1:Nat} (T:TopAt w hb mg mb) (Rm:Room A 10) (hA:A.frames=some [env]) (hfe:env.frame=some env.locals) (S:St (cxP w hb [111] 0) σ (lawH1 row e0 e1) s) (F:SF (cxP w hb [111] 0) (fnd 23).sc lawV1 env σ s.heap)
  (h:lawE row e0 e1=true) {Q:Flow→Shared→Prop} {E:Value→Shared→Prop} (hq:∀ τ s' H6 tabs,AftS (cxP w hb [111] 0) σ H6 env s τ s'→H6[0]?=some (.tab tabs)→Q (.ret (.bool true)) s'):wpAny (model PG w) A (execs ((fnd 23).body.drop 6) env) Q E s:=by
 obtain ⟨u,hx⟩:∃ u,lawX row e0 e1=some u:=by
  unfold lawE at h
  cases hx:lawX row e0 e1 with
  | none=>rw [hx] at h;exact ftf h
  | some u=>exact ⟨u,rfl⟩
 refine o1_someP hx fun v2 H2 b1 hx=>?_
 refine lawX1_ok hx ?_;rintro tu ⟨z,xs,s2',z2,l2,g1,g2⟩ ⟨v3,H3⟩ c1 hx
 refine lawX2_ok hx ?_;rintro H4 H5 t1 t2 ⟨r,z',xs',r3,s3',z3,l3⟩ hx
 refine lawX3_ok hx fun v5 H6 tabs d1 tb=>?_
 have O':TopOut w mg []:=zam
 have Ok:(cxP w hb [111] 0).Ok:=cx_ok T.X T.Ng T.Nb T.hb T.nl O'.g O'.b O'.s
 have hcall:zbx (cxP w hb [111] 0) (zbv G2 TL1 [] 7) 7:=zb3 (c:=cxP w hb [111] 0) Ok (TL1_ok T) 7
 have Is:=zbz Ok hcall za0
 rw [law_split]
 refine zdt (c:=cxP w hb [111] 0) Is (Rm.le (by decide)) _ F S ((c_lawB dL).2 _ dL_ok zb0 _ _ _ (nextOf_ok b1)) fun τ1 s1 a1 F1=>?_
 refine wpAny_execs_cons (law_b2 T (Rm.le (by decide)) a1.st F1 tu s2' z2 l2 g1 g2 fun s2 a2 F2=>?_)
 have a12:=a1.trans a2
 rw [List.append_nil] at a12
 refine zdt (c:=cxP w hb [111] 0) Is (Rm.le (by decide)) _ F2 a12.st ((c_lawC dL).2 _ dL_ok zb0 _ _ _ c1) fun τ3 s3 a3 F3=>?_
 have a13:=a12.trans a3
 rw [List.append_assoc] at F3
 refine wpAny_execs_cons (law_b4 T Rm hA hfe a13.st F3 t1 t2 r3 s3' z3 l3 fun τ4 s4 a4 F4=>?_)
 have a14:=a13.trans a4
 rw [List.append_assoc] at F4
 refine (zcw (c:=cxP w hb [111] 0) Is (Rm.le (by decide)) _ F4 a14.st ((c_lawD dL).2 _ dL_ok zb0 _ _ _ d1)).use fun τ5 s5 fl a5 F5 r5=>?_
 have a15:=a14.trans a5
 cases r5 with
 | ret rr =>
  have rr':_=Value.bool true:=rr
  subst rr'
  exact hq _ s5 H6 tabs a15 tb
noncomputable section
theorem comp_range {k n:Nat} {fr fe:CE} {v:Vars} {H:List AO} {g:AV→AV} (hn:n≤9) (h:fr v H=some (.int (n:Int),H)) (hg:∀ x∈idxs 0 n,∀ acc,fe ((k,x)::v) (H++[.range 0 (n:Int) 1]++[.list acc])=some (g x,H++[.range 0 (n:Int) 1]++[.list acc])) :
  cComp k (cRange fr) tTrue fe v H=some (.obj (H.length + 1),H++[.range 0 (n:Int) 1]++[.list ((idxs 0 n).map g)]):=by
 obtain ⟨r1,r2⟩:=range_items n hn
 have e1:cRange fr v H=some (.obj H.length,H++[.range 0 (n:Int) 1]):=by
  unfold cRange
  rw [h,zdg]
  show some (AV.obj (lenF H),appF H [.range 0 (n:Int) 1])=_
  rw [zau,zc3]
 have e2:itemsF (H++[.range 0 (n:Int) 1]) (.obj H.length)=some (false,idxs 0 n):=by
  show o1 (nth (H++[.range 0 (n:Int) 1]) H.length) _=_
  rw [zaw,List.getElem?_append_right (Nat.le_refl _)]
  simp only [Nat.sub_self,List.getElem?_cons_zero,ze7]
  show zdo (H++[.range 0 (n:Int) 1]) (.obj H.length)=_
  simp only [zdo,zaw,List.getElem?_append_right (Nat.le_refl _),Nat.sub_self,List.getElem?_cons_zero]
  rw [if_pos r1,r2]
 have:=comp_s (k:=k) (fe:=fe) e1 e2 (fun acc=>rfl) hg (by unfold idxs;simp;omega)
 rw [List.length_append] at this
 exact this
theorem slice_obj {fv:CE} {fl fu:Vars→List AO→Option (Option Int×List AO)} {v:Vars} {H H1 H2 H3:List AO} {k:Nat} {l u:Option Int} {xs ys:List AV} (h1:fv v H=some (.obj k,H1)) (h2:fl v H1=some (l,H2)) (h3:fu v H2=some (u,H3)) (hx:lof H3 k=some xs) (hy:sliceA xs l u none=ys) (hl:ys.length≤1000) :
  cSlice fv fl fu pNone v H=some (.obj H3.length,H3++[.list ys]):=by
 unfold cSlice
 rw [h1,zdg,h2,zdg,h3,zdg]
 show o1 (lof H3 k) (fun xs=>if (none:Option Int)=some 0 then none else newLF H3 (sliceA xs l u none))=_
 rw [hx,ze7,if_neg (by simp -iota),hy,newLF_eq]
 unfold newL
 rw [if_pos (by omega)]
theorem sl5 (xs:List AV):sliceA xs none (some 5) none=xs.take 5:=by
 match xs with
 | []=>kernel_rfl
 | [a]=>kernel_rfl
 | [a,b]=>kernel_rfl
 | [a,b,c]=>kernel_rfl
 | [a,b,c,d]=>kernel_rfl
 | a::b::c::d::e::rest =>
  unfold sliceA
  have e:sliceBounds none (some 5) none (a::b::c::d::e::rest).length=(0,5,1):=by
   unfold sliceBounds
   simp
   omega
  rw [e];rfl
theorem sl111 (t:Nat):sliceA [.int 1,.int 1,.int 1] (some (t:Int)) none none=([.int 1,.int 1,.int 1]:List AV).drop t:=by
 match t with
 | 0=>kernel_rfl
 | 1=>kernel_rfl
 | 2=>kernel_rfl
 | t + 3 =>
  unfold sliceA
  have e:sliceBounds (some ((t + 3:Nat):Int)) none none [AV.int 1,AV.int 1,AV.int 1].length=(3,3,1):=by
   unfold sliceBounds
   simp
   omega
  rw [e,List.drop_eq_nil_of_le (by simp)];rfl
end
noncomputable section
noncomputable def dA2:CallT:=cDisp [(78,laidCF)] []
noncomputable def TLA:List (Nat×UF):=[(32,.code (fnd 2)),(50,.code (fnd 4)),(23,.code (fnd 1)),(41,.code (fnd 3)),(78,.code (fnd 15))]
theorem TLA_laid:TLaid TLA:=⟨⟨rfl,rfl⟩,rfl,rfl⟩
theorem dA2_ok:zbo (zbv G2 TLA [] 4) dA2:=by
 refine cDisp_ok (d:=3) ⟨fun a f e=>?_,fun k f e=>by simp -iota at e⟩
 have hm:=ze2 e
 simp -iota only [List.mem_cons,Prod.mk.injEq,List.not_mem_nil,or_false] at hm
 obtain ⟨rfl,rfl⟩:=hm
 exact ⟨_,rfl,laid0 (d:=0) TLA_laid⟩
noncomputable def A0:CS:=cAs zal (cLen (za8 zbp))
noncomputable def aN1:CE:=cComp kk_x (cSlice (za8 zbp) pNone (pSome (za1 (AV.int 5))) pNone) tTrue (zbh gMod (za8 kk_x) (za1 (AV.int 6)))
noncomputable def aN2:CE:=cSlice (cList (zaa (za1 (AV.int 1)) (zaa (za1 (AV.int 1)) (zaa (za1 (AV.int 1)) zcd)))) (pSome (za8 zal)) pNone pNone
noncomputable def aE0:CE:=zbh gMod (zbh gAdd (za8 zal) (za1 (AV.int 1))) (za1 (AV.int 2))
noncomputable def aE1:CE:=zbh gSub (cLen (za8 zaf)) (zbh gMod (zbh gAdd (zbh gFD (za8 zal) (za1 (AV.int 2))) (za1 (AV.int 1))) (za1 (AV.int 2)))
noncomputable def aC:CE:=zbh gAdd (zbh (binop Operator.Mult) (za1 (AV.int 2)) (zcj (za8 zaf) (za8 kk_k)))
 (cIf (tOr (zdv (gOf CmpOp.Eq) (zbh gMod (za8 kk_k) (za1 (AV.int 2))) (za1 (AV.int 0))) (tOr (zdv (gOf CmpOp.Gt) (zcj (za8 zaf) (za8 kk_k)) (za1 (AV.int 1))) tFalse)) (za1 (AV.int 1)) (za1 (AV.int 0)))
noncomputable def aS:CE:=zc1 dA2 (za1 (AV.lit (Value.builtin "sorted"))) (zaa (cComp kk_k (cRange (cLen (za8 zaf))) tTrue aC) zcd) kNil
noncomputable def aR:CE:=cComp kk_code (za8 zc5) tTrue (zbh gFD (za8 kk_code) (za1 (AV.int 2)))
noncomputable def aL:CE:=zc1 dA2 (za1 (AV.lit (Value.ref 78))) (zaa (za8 zaf) zcd) kNil
noncomputable def aT1:CB:=zdv (gOf CmpOp.NotEq) (za8 zdk) (zbh gAdd (zbh gAdd (cList (zaa (za1 (AV.int 9)) zcd)) (za8 zaj)) (cList (zaa (cNeg (za1 (AV.int 9))) zcd)))
noncomputable def aI:CE:=cComp kk_x (cSlice (za8 zdk) (pSome (za1 (AV.int 1))) (pSome (cNeg (za1 (AV.int 1)))) pNone) tTrue (zc1 dA2 (za1 (AV.lit (Value.builtin "isinstance"))) (zaa (za8 kk_x) (zaa (za1 (AV.lit (Value.type "bool"))) zcd)) kNil)
noncomputable def aJ:CE:=cComp kk_code (za8 zc5) tTrue (cCmp (gOf CmpOp.Eq) (zbh gMod (za8 kk_code) (za1 (AV.int 2))) (za1 (AV.int 0)))
noncomputable def A5:CS:=cIf (tOr aT1 (tOr (zdv (gOf CmpOp.NotEq) aI aJ) tFalse)) (cRet (za1 (AV.lit (Value.bool false)))) cSkip
theorem c_lawA_eq:(c_lawA dA2).1=zcx A0 (zcx (cAs zaf (zbh gAdd aN1 aN2)) (zcx (cAs zc9 (cList (zaa aE0 (zaa aE1 zcd)))) (zcx (cAs zc5 aS) (zcx (cTup [zaj,zdk] (zaa aR (zaa aL zcd))) A5)))):=by
 unfold c_lawA;rfl
noncomputable def nv (N:List Nat):List AV:=N.map fun (n:Nat)=>AV.int (n:Int)
theorem nv_len (N:List Nat):(nv N).length=N.length:=by unfold nv;rw [List.length_map]
theorem nv_get {N:List Nat} {k n:Nat} (h:N[k]?=some n):nth (nv N) k=some (.int (n:Int)):=by
 rw [zaw]
 unfold nv
 rw [List.getElem?_map,h];rfl
noncomputable def sixth (x:Int):Nat:=(Int.fmod x 6).toNat
theorem sixth_is (x:Int):Int.fmod x 6=(sixth x:Int):=(Int.toNat_of_nonneg (Int.fmod_nonneg_of_pos x (by decide))).symm
theorem sixth_lt (x:Int):sixth x < 6:=by
 have:=Int.fmod_lt_of_pos x (b:=6) (by decide)
 unfold sixth
 omega
noncomputable def numsN (ns:List Int):List Nat:=(ns.take 5).map sixth++([1,1,1]:List Nat).drop ns.length
theorem numsN_lt (ns:List Int):∀ n∈numsN ns,n < 6:=by
 intro n h
 rcases List.mem_append.mp h with h | h
 ·obtain ⟨x,_,rfl⟩:=List.mem_map.mp h
  exact sixth_lt x
 ·have:=List.mem_of_mem_drop h
  simp -iota at this
  omega
theorem numsN_len (ns:List Int):(numsN ns).length=min 5 ns.length + (3 - ns.length):=by
 unfold numsN
 rw [List.length_append,List.length_map,List.length_take,List.length_drop];rfl
noncomputable def gm6 (x:AV):AV:=match x with
 | .int i=>.int (Int.fmod i 6)
 | a=>a
theorem nums_s {o:Obj} {ns:List Int} {v:Vars} {H:List AO} (hH:H=[.tab [],.arg o (ns.map .int)]) (vs:za2 zbp v=some (.obj 1)) (vt:za2 zal v=some (.int (ns.length:Int))) :
  zbh gAdd aN1 aN2 v H=some (.obj 6,H++[.list ((ns.take 5).map .int),.list (((ns.take 5).map .int).map gm6),.list [.int 1,.int 1,.int 1],.list (([.int 1,.int 1,.int 1]:List AV).drop ns.length),.list (nv (numsN ns))]):=by
 subst hH
 generalize hH:[AO.tab [],.arg o (ns.map .int)]=H
 have hl:H.length=2:=by rw [← hH];rfl
 have l1:lof H 1=some (ns.map .int):=by rw [← hH];rfl
 have s1:cSlice (za8 zbp) pNone (pSome (za1 (AV.int 5))) pNone v H=some (.obj H.length,H++[.list ((ns.take 5).map .int)]) :=
  slice_obj (za5 vs H) rfl rfl l1 (by rw [sl5,List.map_take]) (by simp;omega)
 have c1:=comp_list (k:=kk_x) (fe:=zbh gMod (za8 kk_x) (za1 (AV.int 6))) (g:=gm6) s1 (zav rfl) (fun x hx acc=>by
  obtain ⟨i,_,rfl⟩:=List.mem_map.mp hx
  exact zb2 (za5 (x:=.int i) (by rw [zbj,zan,if_pos rfl]) _) (za9 _ _ _) rfl) (by simp;omega)
 generalize hH2:H++[AO.list ((ns.take 5).map .int)]++[AO.list (((ns.take 5).map .int).map gm6)]=H2 at c1
 have l2:=list_s (zad (za9 (.int 1) v H2) (zad (za9 (.int 1) v H2) (zad (za9 (.int 1) v H2) (zc8 _ _)))) (by simp)
 have s2:aN2 v H2=some (.obj (H2++[AO.list [.int 1,.int 1,.int 1]]).length,H2++[AO.list [.int 1,.int 1,.int 1]]++[.list (([.int 1,.int 1,.int 1]:List AV).drop ns.length)]) :=
  slice_obj (l:=some (ns.length:Int)) (H2:=H2++[AO.list [.int 1,.int 1,.int 1]]) l2 (by
   show ob (za8 zal v (H2++[AO.list [.int 1,.int 1,.int 1]])) _=_
   rw [za5 vt,zdg]) rfl (zdz _ _) (sl111 ns.length) (by simp;omega)
 have hl2:H2.length=4:=by rw [← hH2];simp [hl]
 have hl1:(H++[AO.list ((ns.take 5).map .int)]).length=3:=by simp [hl]
 rw [hl1] at c1
 rw [show (H2++[AO.list [.int 1,.int 1,.int 1]]).length=5 by simp [hl2]] at s2
 generalize hH3:H2++[AO.list [.int 1,.int 1,.int 1]]++[AO.list (([.int 1,.int 1,.int 1]:List AV).drop ns.length)]=H3 at s2
 have g3:H3[3]?=some (.list (((ns.take 5).map .int).map gm6)):=by
  rw [← hH3,← hH2,List.append_assoc,List.append_assoc,List.append_assoc,List.getElem?_append_right (by omega),hl];rfl
 have g5:H3[5]?=some (.list (([.int 1,.int 1,.int 1]:List AV).drop ns.length)):=by
  rw [← hH3];exact zav (by simp [hl2])
 have nvEq:((ns.take 5).map .int).map gm6++([.int 1,.int 1,.int 1]:List AV).drop ns.length=nv (numsN ns):=by
  unfold nv numsN
  rw [List.map_append,List.map_map,List.map_map,List.map_drop]
  congr 1
  refine List.map_congr_left fun x _=>?_
  show AV.int (Int.fmod x 6)=_
  rw [sixth_is];rfl
 have ad:gAdd (.obj 3) (.obj 5) H3=some (.obj 6,H3++[.list (nv (numsN ns))]):=by
  show (do let x ← zah H3 (.obj 3);let y ← zah H3 (.obj 5);newL H3 (x++y))=_
  simp only [zah,zaw,g3,g5,Option.bind_eq_bind,Option.bind_some]
  rw [nvEq]
  unfold newL
  rw [if_pos (by rw [nv_len,numsN_len];omega)]
  have:H3.length=6:=by rw [← hH3];simp [hl2]
  rw [this]
 refine (zb2 (g:=gAdd) (show aN1 v H=_ from c1) s2 ad).trans ?_
 rw [← hH3,← hH2]
 simp
end
noncomputable section
noncomputable def endA (T:Nat):Nat:=(T + 1) % 2
noncomputable def endB (T n:Nat):Nat:=n - (T / 2 + 1) % 2
section
variable {v:Vars} {H:List AO} {T p q:Nat} {N L:List Nat}
theorem fdiv2 (n:Nat):Int.fdiv (n:Int) 2=((n / 2:Nat):Int):=by
 rw [Int.fdiv_eq_ediv_of_nonneg _ (by decide)];rfl
theorem ends_s (vt:za2 zal v=some (.int (T:Int))) (vn:za2 zaf v=some (.obj p)) (hp:lof H p=some (nv N)) (hl:1≤N.length):cList (zaa aE0 (zaa aE1 zcd)) v H=some (.obj H.length,H++[.list [.int ((endA T:Nat):Int),.int ((endB T N.length:Nat):Int)]]):=by
 have x0:aE0 v H=some (.int ((endA T:Nat):Int),H):=by
  have:=zb2 (g:=gMod) (zb2 (g:=gAdd) (za5 vt H) (za9 (.int 1) v H) (x:=.int ((T:Int) + 1)) (H3:=H) rfl) (za9 (.int 2) v H) (x:=.int (Int.fmod ((T:Int) + 1) 2)) (H3:=H) rfl
  have e:Int.fmod ((T:Int) + 1) 2=((endA T:Nat):Int):=by
   have:=fmodN (T + 1) 2
   unfold endA
   rw [← this];rfl
  rw [e] at this
  exact this
 have x1:aE1 v H=some (.int ((endB T N.length:Nat):Int),H):=by
  have a:=len_list (za5 vn H) hp
  rw [nv_len] at a
  have b:=zb2 (g:=gMod) (zb2 (g:=gAdd) (zb2 (g:=gFD) (za5 vt H) (za9 (.int 2) v H) (x:=.int (Int.fdiv (T:Int) 2)) (H3:=H) rfl) (za9 (.int 1) v H) (x:=.int (Int.fdiv (T:Int) 2 + 1)) (H3:=H) rfl) (za9 (.int 2) v H) (x:=.int (Int.fmod (Int.fdiv (T:Int) 2 + 1) 2)) (H3:=H) rfl
  have c:=zb2 (g:=gSub) a b (x:=.int ((N.length:Int) - Int.fmod (Int.fdiv (T:Int) 2 + 1) 2)) (H3:=H) rfl
  have e:((N.length:Int) - Int.fmod (Int.fdiv (T:Int) 2 + 1) 2)=((endB T N.length:Nat):Int):=by
   rw [fdiv2]
   have:=fmodN (T / 2 + 1) 2
   have h2:Int.fmod (((T / 2:Nat):Int) + 1) 2=(((T / 2 + 1) % 2:Nat):Int):=by rw [← this];rfl
   rw [h2]
   unfold endB
   omega
  rw [e] at c
  exact c
 exact list_s (zad x0 (zad x1 (zc8 _ _))) (by simp -iota)
noncomputable def gCd (N:List Nat) (x:AV):AV:=match x with
 | .int (.ofNat k)=>.int ((codeP k (N.getD k 0):Nat):Int)
 | a=>a
theorem codes_map:∀ (M:List Nat) (t:Nat) (F:List Nat),F.drop t=M→(idxs t M.length).map (gCd F)=(zdr t M).map fun (c:Nat)=>AV.int (c:Int)
 | [],t,F,_=>rfl
 | n::M,t,F,h=>by
  have hi:idxs t (n::M).length=.int (t:Int)::idxs (t + 1) M.length:=by simp -iota [idxs,List.range'_succ]
  have hn:F.getD t 0=n:=by
   have:F[t]?=some n:=by
    have:=congrArg (fun l=>l[0]?) h
    simpa -iota using this
   simp -iota [this]
  have hd:F.drop (t + 1)=M:=by
   have:=congrArg (List.drop 1) h
   simpa -iota [List.drop_drop,Nat.add_comm] using this
  rw [hi,List.map_cons,codes_map M (t + 1) F hd]
  show AV.int ((codeP t (F.getD t 0):Nat):Int)::_=_
  rw [hn];rfl
theorem or_s {f g:CB} {v:Vars} {H H1:List AO} {b:Bool} (h:f v H=some (b,H1)):tOr f g v H=if b then some (true,H1) else g v H1:=by
 unfold tOr;rw [h,zdg,zay]
theorem code_s {j n:Nat} (vn:za2 zaf v=some (.obj p)) (hp:lof H p=some (nv N)) (hn:N[j]?=some n):aC ((kk_k,.int (j:Int))::v) H=some (.int ((codeP j n:Nat):Int),H):=by
 have vk:za2 kk_k ((kk_k,AV.int (j:Int))::v)=some (.int (j:Int)):=by rw [zbj,zan,if_pos rfl]
 have vn':za2 zaf ((kk_k,AV.int (j:Int))::v)=some (.obj p):=by rw [zbj,zan,if_neg (by decide +kernel),← zbj];exact vn
 have it:zcj (za8 zaf) (za8 kk_k) ((kk_k,AV.int (j:Int))::v) H=some (.int (n:Int),H):=zd4 (za5 vn' H) (za5 vk H) (itemL hp (nv_get hn))
 have x1:zbh (binop Operator.Mult) (za1 (AV.int 2)) (zcj (za8 zaf) (za8 kk_k)) ((kk_k,AV.int (j:Int))::v) H=some (.int (2 * (n:Int)),H):=zb2 (za9 _ _ _) it rfl
 have t1:zdv (gOf CmpOp.Eq) (zbh gMod (za8 kk_k) (za1 (AV.int 2))) (za1 (AV.int 0)) ((kk_k,AV.int (j:Int))::v) H=some (decide (j % 2=0),H):=by
  have:=zdj (zb2 (g:=gMod) (za5 vk H) (za9 (.int 2) _ _) (x:=.int (Int.fmod (j:Int) ((2:Nat):Int))) (H3:=H) rfl) (za9 (.int 0) _ _) (eqI _ _ H)
  rw [this,fmodN]
  congr 2
  exact decide_eq_decide.mpr (by omega)
 have t2:zdv (gOf CmpOp.Gt) (zcj (za8 zaf) (za8 kk_k)) (za1 (AV.int 1)) ((kk_k,AV.int (j:Int))::v) H=some (decide (1 < n),H):=by
  have:=zdj it (za9 (.int 1) _ _) (gtI _ _ H)
  rw [this,iLt_eq]
  congr 2
  exact decide_eq_decide.mpr (by omega)
 have tt:tOr (zdv (gOf CmpOp.Eq) (zbh gMod (za8 kk_k) (za1 (AV.int 2))) (za1 (AV.int 0))) (tOr (zdv (gOf CmpOp.Gt) (zcj (za8 zaf) (za8 kk_k)) (za1 (AV.int 1))) tFalse) ((kk_k,AV.int (j:Int))::v) H=some (decide (j % 2=0∨1 < n),H):=by
  rw [or_s t1]
  by_cases q:j % 2=0
  ·rw [if_pos (by simpa -iota using q),decide_eq_true (.inl q)]
  ·rw [if_neg (by simpa -iota using q),or_s t2]
   by_cases q2:1 < n
   ·rw [if_pos (by simpa -iota using q2),decide_eq_true (.inr q2)]
   ·rw [if_neg (by simpa -iota using q2),decide_eq_false (by simp -iota [q,q2])];rfl
 have x2:cIf (tOr (zdv (gOf CmpOp.Eq) (zbh gMod (za8 kk_k) (za1 (AV.int 2))) (za1 (AV.int 0))) (tOr (zdv (gOf CmpOp.Gt) (zcj (za8 zaf) (za8 kk_k)) (za1 (AV.int 1))) tFalse)) (za1 (AV.int 1)) (za1 (AV.int 0)) ((kk_k,AV.int (j:Int))::v) H=some (.int ((if j % 2=0∨1 < n then 1 else 0:Nat):Int),H):=by
  rw [if_s tt]
  by_cases q:j % 2=0∨1 < n
  ·rw [if_pos (by simpa -iota using q),if_pos q];rfl
  ·rw [if_neg (by simpa -iota using q),if_neg q];rfl
 refine zb2 x1 x2 ?_
 show some (AV.int (2 * (n:Int) + ((if j % 2=0∨1 < n then 1 else 0:Nat):Int)),H)=_
 unfold codeP
 rw [Int.natCast_add,Int.natCast_mul];rfl
theorem allI_map:∀ l:List Int,allI (l.map .int)=some l
 | []=>rfl
 | x::l=>by
  show (zc0 (.int x)).bind (fun i=>(allI (l.map .int)).bind fun l=>some (i::l))=_
  rw [allI_map l];rfl
theorem order_s (vn:za2 zaf v=some (.obj p)) (hp:lof H p=some (nv N)) (hl:N.length≤5) (hL:srtI ((zdr 0 N).map fun (c:Nat)=>(c:Int))=L.map fun (c:Nat)=>(c:Int)) :
  aS v H=some (.obj (H.length + 2),H++[.range 0 (N.length:Int) 1]++[.list ((zdr 0 N).map fun (c:Nat)=>AV.int (c:Int))]++[.list (nv L)]):=by
 have a:=len_list (za5 vn H) hp
 rw [nv_len] at a
 have c:=comp_range (k:=kk_k) (fe:=aC) (g:=gCd N) (show N.length≤9 by omega) a (fun x hx acc=>by
  unfold idxs at hx
  obtain ⟨j,hj,rfl⟩:=List.mem_map.mp hx
  have hj':j < N.length:=by
   have:=List.mem_range'_1.mp hj
   omega
  obtain ⟨n,hn⟩:=get2 (L:=N) hj'
  have:gCd N (.int (j:Int))=.int ((codeP j n:Nat):Int):=by
   show AV.int ((codeP j (N.getD j 0):Nat):Int)=_
   have:N.getD j 0=n:=by simp [hn]
   rw [this]
  rw [this]
  exact code_s vn (lof_app (lof_app hp _) _) hn)
 rw [codes_map N 0 N rfl] at c
 have hlo:zah (H++[AO.range 0 (N.length:Int) 1]++[AO.list ((zdr 0 N).map fun (c:Nat)=>AV.int (c:Int))]) (.obj (H.length + 1))=some ((zdr 0 N).map fun (c:Nat)=>AV.int (c:Int)):=by
  have:(H++[AO.range 0 (N.length:Int) 1]).length=H.length + 1:=by simp
  rw [← this]
  simp only [zah,zaw,zav rfl]
 have hlen:(H++[AO.range 0 (N.length:Int) 1]++[AO.list ((zdr 0 N).map fun (c:Nat)=>AV.int (c:Int))]).length=H.length + 2:=by simp
 generalize H++[AO.range 0 (N.length:Int) 1]++[AO.list ((zdr 0 N).map fun (c:Nat)=>AV.int (c:Int))]=HH at c hlo hlen ⊢
 refine call_s (zad c (zc8 _ _)) ?_
 show bSort [.obj (H.length + 1)] HH=_
 have hai:allI ((zdr 0 N).map fun (c:Nat)=>AV.int (c:Int))=some ((zdr 0 N).map fun (c:Nat)=>(c:Int)):=by
  rw [show ((zdr 0 N).map fun (c:Nat)=>AV.int (c:Int))=((zdr 0 N).map fun (c:Nat)=>(c:Int)).map .int by rw [List.map_map];rfl]
  exact allI_map _
 have hcl:∀ (M:List Nat) (t:Nat),(zdr t M).length=M.length:=by
  intro M
  induction M with
  | nil=>intro t;rfl
  | cons n M ih=>intro t;show (zdr (t + 1) M).length + 1=_;rw [ih];rfl
 show (zah HH (.obj (H.length + 1))).bind (fun xs=>(allI xs).bind fun ns=>if ns.length < 64 then some (AV.obj HH.length,HH++[AO.list ((srtI ns).map .int)]) else none)=_
 rw [hlo,Option.bind_some,hai,Option.bind_some,if_pos (by rw [List.length_map,hcl];omega),hL,hlen,List.map_map]
 rfl
end
end
noncomputable section
theorem tup2_s {k1 k2:Nat} {g:Vars→List AO→Option (List AV×List AO)} {v:Vars} {H H1:List AO} {x y:AV} (hg:g v H=some ([x,y],H1)):cTup [k1,k2] g v H=some (.next,zab k2 y (zab k1 x v),H1):=by
 unfold cTup
 rw [hg,zdg]
 show o1 (some (zab k2 y (zab k1 x v))) _=_
 rw [ze7,zbl]
theorem natsOf_nv:∀ N:List Nat,natsOf (nv N)=some N
 | []=>rfl
 | n::N=>by
  show onInt (.int (n:Int)) (fun i=>(natI i).bind fun m=>(natsOf (nv N)).bind fun l=>some (m::l))=_
  rw [onInt_s,natI_s,Option.bind_some,natsOf_nv N];rfl
theorem laid_call {p:Nat} {N L:List Nat} {H:List AO} (hp:lof H p=some (nv N)) (hl:N.length≤5) (h:laidGo 0 N [.int 9,.int (-9)]=some (dec L)):∃ G,laidCF [.obj p] [] H=some (.obj H.length,H++.list (dec L)::G):=by
 show ∃ G,laid1 p H=_
 unfold laid1
 rw [hp,ze7,natsOf_nv,Option.bind_some,h,Option.bind_some,if_pos (by omega),zau]
 unfold gcF gcG
 rw [takeF_eq,List.take_left,zay]
 by_cases q:allF (clO H.length) H=true
 ·rw [if_pos q]
  show ∃ G,some (bi (Nat.ble (Nat.succ H.length) H.length) _ _)=_
  rw [zay,if_neg (by rw [Nat.ble_eq];omega),zaw,List.getElem?_append_right (Nat.le_refl _),Nat.sub_self]
  show ∃ G,some (bi (allF (clF H.length) (dec L)) (AV.obj H.length,appF H [.list (dec L)]) _)=_
  rw [zay]
  by_cases q2:allF (clF H.length) (dec L)=true
  ·rw [if_pos q2,zc3];exact ⟨[],rfl⟩
  ·rw [if_neg q2];exact ⟨_,rfl⟩
 ·rw [if_neg q];exact ⟨_,rfl⟩
theorem ne_lists {a b:Nat} {xs ys:List AV} {H:List AO} (ha:lof H a=some xs) (hb:lof H b=some ys) (e:eqL xs ys=some true):gOf .NotEq (.obj a) (.obj b) H=some false:=by
 rw [gOf_ok]
 rw [zdq] at ha hb
 show (do eqL (← zah H (.obj a)) (← zah H (.obj b))).map not=_
 rw [ha,hb]
 show (eqL xs ys).map not=_
 rw [e];rfl
theorem add_lists {a b:Nat} {xs ys:List AV} {H:List AO} (ha:lof H a=some xs) (hb:lof H b=some ys) (hl:(xs++ys).length≤1000):gAdd (.obj a) (.obj b) H=some (.obj H.length,H++[.list (xs++ys)]):=by
 rw [zdq] at ha hb
 show (do let x ← zah H (.obj a);let y ← zah H (.obj b);newL H (x++y))=_
 rw [ha,hb]
 show newL H (xs++ys)=_
 unfold newL
 rw [if_pos (by omega)]
theorem cc_cases {c:Nat} (h:c∈CC):c=0∨c=1∨c=2∨c=3∨c=5∨c=7∨c=9∨c=11:=by
 simpa -iota [CC] using h
theorem eqF_dA {c:Nat} (h:c∈CC):eqF (dA c) (.int ((c / 2:Nat):Int))=some true:=by
 rcases cc_cases h with rfl | rfl | rfl | rfl | rfl | rfl | rfl | rfl<;>rfl
theorem eqAll_c {x y:AV} {xs ys:List AV} (h:eqF x y=some true) (h2:eqAll xs ys=some true):eqAll (x::xs) (y::ys)=some true:=by
 show (eqF x y).bind (fun b=>(eqAll xs ys).bind fun r=>some (b && r))=_
 rw [h,h2];rfl
theorem eqAll_dA:∀ L:List Nat,(∀ c∈L,c∈CC)→eqAll (L.map dA++[.int (-9)]) (nv (L.map (· / 2))++[.int (-9)])=some true
 | [],_=>rfl
 | c::L,h=>eqAll_c (eqF_dA (h c (List.mem_cons_self ..))) (eqAll_dA L fun x hx=>h x (List.mem_cons_of_mem _ hx))
theorem eqL_dec {L:List Nat} (h:∀ c∈L,c∈CC):eqL (dec L) ([.int 9]++nv (L.map (· / 2))++[.int (-9)])=some true:=by
 unfold eqL
 rw [if_pos (by unfold dec;simp -iota [nv_len]),List.append_assoc]
 exact eqAll_c rfl (eqAll_dA L h)
theorem bools_self:∀ l:List Bool,eqL (l.map fun b=>AV.lit (.bool b)) (l.map fun b=>AV.lit (.bool b))=some true:=by
 intro l
 unfold eqL
 rw [if_pos rfl]
 induction l with
 | nil=>rfl
 | cons b l ih=>exact eqAll_c (by cases b<;>rfl) ih
theorem sl_mid {L:List Nat} (h:L.length=3∨L.length=4∨L.length=5):sliceA (dec L) (some 1) (some (-1)) none=L.map dA:=by
 match L,h with
 | [a,b,c],_=>kernel_rfl
 | [a,b,c,d],_=>kernel_rfl
 | [a,b,c,d,e],_=>kernel_rfl
 | [],h=>simp -iota at h
 | [_],h=>simp -iota at h
 | [_,_],h=>simp -iota at h
 | _::_::_::_::_::_::l,h=>simp -iota at h
noncomputable def evn (c:Nat):Bool:=decide (c % 2=0)
noncomputable def gI (a:AV):AV:=match isBool a with
 | some b=>.lit (.bool b)
 | none=>a
noncomputable def gJ (a:AV):AV:=match a with
 | .int i=>.lit (.bool (decide (Int.fmod i 2=0)))
 | a=>a
noncomputable def gH2 (a:AV):AV:=match a with
 | .int i=>.int (Int.fdiv i 2)
 | a=>a
theorem gI_dA {c:Nat} (h:c∈CC):gI (dA c)=.lit (.bool (evn c))∧isBool (dA c)=some (evn c):=by
 rcases cc_cases h with rfl | rfl | rfl | rfl | rfl | rfl | rfl | rfl<;>exact ⟨rfl,rfl⟩
theorem gJ_n (c:Nat):gJ (.int (c:Int))=.lit (.bool (evn c)):=by
 show AV.lit (.bool (decide (Int.fmod (c:Int) ((2:Nat):Int)=0)))=_
 rw [fmodN]
 unfold evn
 congr 2
 exact decide_eq_decide.mpr (by omega)
theorem gI_map {L:List Nat} (h:∀ c∈L,c∈CC):(L.map dA).map gI=(L.map evn).map fun b=>AV.lit (.bool b):=by
 rw [List.map_map,List.map_map]
 exact List.map_congr_left fun c hc=>(gI_dA (h c hc)).1
theorem gJ_map (L:List Nat):(nv L).map gJ=(L.map evn).map fun b=>AV.lit (.bool b):=by
 unfold nv
 rw [List.map_map,List.map_map]
 exact List.map_congr_left fun c _=>gJ_n c
theorem gH_map (L:List Nat):(nv L).map gH2=nv (L.map (· / 2)):=by
 unfold nv
 rw [List.map_map,List.map_map]
 exact List.map_congr_left fun c _=>by
  show AV.int (Int.fdiv (c:Int) 2)=_
  rw [fdiv2];rfl
section
variable {v:Vars} {H:List AO} {p q r:Nat} {N L:List Nat}
theorem lof_get {H:List AO} {p:Nat} {xs:List AV} (h:H[p]?=some (.list xs)):lof H p=some xs:=lof_pl h
theorem row_s (vo:za2 zc5 v=some (.obj p)) (hp:H[p]?=some (.list (nv L))) (hl:L.length≤5):aR v H=some (.obj H.length,H++[.list (nv (L.map (· / 2)))]):=by
 have:=comp_list (k:=kk_code) (fe:=zbh gFD (za8 kk_code) (za1 (AV.int 2))) (g:=gH2) (za5 vo H) hp (fun x hx acc=>by
  obtain ⟨c,_,rfl⟩:=List.mem_map.mp hx
  exact zb2 (za5 (x:=.int (c:Int)) (by rw [zbj,zan,if_pos rfl]) _) (za9 _ _ _) rfl) (by rw [nv_len];omega)
 rw [gH_map] at this
 exact this
theorem isin_s {a:AV} {b:Bool} {H:List AO} (h:isBool a=some b):dA2 (.lit (.builtin "isinstance")) [a,.lit (.type "bool")] [] H=some (.lit (.bool b),H):=by
 show bIsI [a,.lit (.type "bool")] H=_
 unfold bIsI
 show (isBool a).bind (fun b=>(litOf (.lit (.type "bool"))).bind fun v=>if v=.type "bool" then some (AV.lit (.bool b),H) else none)=_
 rw [h]
 show (if Value.type "bool"=Value.type "bool" then some (AV.lit (.bool b),H) else none)=_
 rw [if_pos rfl]
theorem bools_s (vl:za2 zdk v=some (.obj q)) (vo:za2 zc5 v=some (.obj p)) (hq:H[q]?=some (.list (dec L))) (hp:H[p]?=some (.list (nv L))) (h3:L.length=3∨L.length=4∨L.length=5) (hc:∀ c∈L,c∈CC) :
  ∃ G,zdv (gOf CmpOp.NotEq) aI aJ v H=some (false,H++G):=by
 have s1:cSlice (za8 zdk) (pSome (za1 (AV.int 1))) (pSome (cNeg (za1 (AV.int 1)))) pNone v H=some (.obj H.length,H++[.list (L.map dA)]) :=
  slice_obj (l:=some 1) (u:=some (-1)) (za5 vl H) rfl rfl (lof_get hq) (sl_mid h3) (by rw [List.length_map];omega)
 have c1:=comp_list (k:=kk_x) (fe:=zc1 dA2 (za1 (AV.lit (Value.builtin "isinstance"))) (zaa (za8 kk_x) (zaa (za1 (AV.lit (Value.type "bool"))) zcd)) kNil) (g:=gI) s1 (zav rfl) (fun x hx acc=>by
  obtain ⟨c,hm,rfl⟩:=List.mem_map.mp hx
  have g:=gI_dA (hc c hm)
  rw [g.1]
  exact call_s (zad (za5 (x:=dA c) (by rw [zbj,zan,if_pos rfl]) _) (zad (za9 _ _ _) (zc8 _ _))) (isin_s g.2)) (by rw [List.length_map];omega)
 rw [gI_map hc] at c1
 have hp2:(H++[AO.list (L.map dA)]++[AO.list ((L.map evn).map fun b=>AV.lit (.bool b))])[p]?=some (.list (nv L)):=by
  have hlt:=(List.getElem?_eq_some_iff.mp hp).1
  rw [List.append_assoc,List.getElem?_append_left hlt];exact hp
 have c2:=comp_list (k:=kk_code) (fe:=cCmp (gOf CmpOp.Eq) (zbh gMod (za8 kk_code) (za1 (AV.int 2))) (za1 (AV.int 0))) (g:=gJ) (za5 vo (H++[AO.list (L.map dA)]++[AO.list ((L.map evn).map fun b=>AV.lit (.bool b))])) hp2 (fun x hx acc=>by
  obtain ⟨c,_,rfl⟩:=List.mem_map.mp hx
  exact ccmp_s (zb2 (za5 (x:=.int (c:Int)) (by rw [zbj,zan,if_pos rfl]) _) (za9 _ _ _) rfl) (za9 _ _ _) (eqI _ _ _)) (by rw [nv_len];omega)
 rw [gJ_map] at c2
 refine ⟨[AO.list (L.map dA)]++[AO.list ((L.map evn).map fun b=>AV.lit (.bool b))]++[AO.list ((L.map evn).map fun b=>AV.lit (.bool b))],?_⟩
 have e:=zdj (g:=gOf CmpOp.NotEq) (fl:=aI) (fr:=aJ) c1 c2 (ne_lists (lof_app (zdz _ _) _) (zdz _ _) (bools_self _))
 rw [e]
 simp -iota only [List.append_assoc]
theorem same_s (vl:za2 zdk v=some (.obj q)) (vr:za2 zaj v=some (.obj r)) (hq:H[q]?=some (.list (dec L))) (hr:H[r]?=some (.list (nv (L.map (· / 2))))) (h3:L.length≤5) (hc:∀ c∈L,c∈CC) :
  ∃ G,aT1 v H=some (false,H++G):=by
 have n9:=list_s (zad (za9 (.int 9) v H) (zc8 _ _)) (by simp -iota)
 have l9:lof (H++[AO.list [.int 9]]) H.length=some [.int 9]:=zdz _ _
 have a1:=zb2 (g:=gAdd) n9 (za5 vr _) (add_lists l9 (lof_app (lof_get hr) _) (by simp -iota [nv_len];omega))
 generalize hHH:H++[AO.list [.int 9]]++[AO.list ([.int 9]++nv (L.map (· / 2)))]=HH at a1
 have lr:lof HH (H++[AO.list [.int 9]]).length=some ([.int 9]++nv (L.map (· / 2))):=by rw [← hHH];exact zdz _ _
 have m9:cList (zaa (cNeg (za1 (AV.int 9))) zcd) v HH=some (.obj HH.length,HH++[.list [.int (-9)]]):=list_s (zad (x:=.int (-9)) (H1:=HH) rfl (zc8 _ _)) (by simp -iota)
 have a2:=zb2 (g:=gAdd) a1 m9 (add_lists (lof_app lr _) (zdz _ _) (by simp -iota [nv_len];omega))
 refine ⟨[AO.list [.int 9]]++[AO.list ([.int 9]++nv (L.map (· / 2)))]++[.list [.int (-9)]]++[.list ([.int 9]++nv (L.map (· / 2))++[.int (-9)])],?_⟩
 have lq:lof (HH++[AO.list [.int (-9)]]++[AO.list ([.int 9]++nv (L.map (· / 2))++[.int (-9)])]) q=some (dec L):=by
  rw [← hHH];simp -iota only [List.append_assoc];exact lof_app (lof_get hq) _
 have e:=zdj (g:=gOf CmpOp.NotEq) (za5 vl H) a2 (ne_lists lq (zdz _ _) (eqL_dec hc))
 refine (show aT1 v H=_ from e).trans ?_
 rw [← hHH]
 simp -iota only [List.append_assoc]
theorem a5_s (vl:za2 zdk v=some (.obj q)) (vr:za2 zaj v=some (.obj r)) (vo:za2 zc5 v=some (.obj p)) (hq:H[q]?=some (.list (dec L))) (hr:H[r]?=some (.list (nv (L.map (· / 2))))) (hp:H[p]?=some (.list (nv L))) (h3:L.length=3∨L.length=4∨L.length=5) (hc:∀ c∈L,c∈CC) :
  ∃ G,A5 v H=some (.next,v,H++G):=by
 obtain ⟨G1,e1⟩:=same_s vl vr hq hr (by omega) hc
 have up:∀ {k:Nat} {o:AO},H[k]?=some o→(H++G1)[k]?=some o:=fun h=>by rw [List.getElem?_append_left (List.getElem?_eq_some_iff.mp h).1];exact h
 obtain ⟨G2',e2⟩:=bools_s vl vo (up hq) (up hp) h3 hc
 refine ⟨G1++G2',?_⟩
 have t:tOr aT1 (tOr (zdv (gOf CmpOp.NotEq) aI aJ) tFalse) v H=some (false,H++G1++G2'):=by
  rw [or_s e1,if_neg (by decide),or_s e2,if_neg (by decide)];rfl
 rw [← List.append_assoc]
 exact (if_s t).trans rfl
end
end
noncomputable section
theorem zbt {H G:List AO} {k:Nat} {o:AO} (h:H[k]?=some o):(H++G)[k]?=some o:=by
 rw [List.getElem?_append_left (List.getElem?_eq_some_iff.mp h).1];exact h
theorem phaseA {o:Obj} {ns:List Int} {L:List Nat} (hL:laidGo 0 (numsN ns) [.int 9,.int (-9)]=some (dec L)) (P:PS (numsN ns).length L) (hS:srtI ((zdr 0 (numsN ns)).map fun (c:Nat)=>(c:Int))=L.map fun (c:Nat)=>(c:Int)) :
  ∃ v H,(c_lawA dA2).1 [(zbp,.obj 1)] [.tab [],.arg o (ns.map .int)]=some (.next,v,H)∧za2 zal v=some (.int (ns.length:Int))∧za2 zaj v=some (.obj 11)∧za2 zc9 v=some (.obj 7)∧H[0]?=some (.tab [])∧H[1]?=some (.arg o (ns.map .int))∧H[11]?=some (.list (nv (L.map (· / 2)))) ∧
   H[7]?=some (.list [.int ((endA ns.length:Nat):Int),.int ((endB ns.length (numsN ns).length:Nat):Int)]):=by
 have hn:(numsN ns).length=3∨(numsN ns).length=4∨(numsN ns).length=5:=by rw [numsN_len];omega
 have h3:L.length=3∨L.length=4∨L.length=5:=by rw [P.len];exact hn
 generalize hT:ns.length=T
 generalize hH0:[AO.tab [],.arg o (ns.map .int)]=H0
 have s0:A0 [(zbp,.obj 1)] H0=some (.next,zab zal (.int (T:Int)) [(zbp,.obj 1)],H0):=by
  have:=len_list (f:=za8 zbp) (v:=[(zbp,.obj 1)]) (H:=H0) (k:=1) (xs:=ns.map .int) (za5 rfl _) (by rw [← hH0];rfl)
  rw [List.length_map,hT] at this
  exact as_s this
 have vs0:za2 zbp (zab zal (.int (T:Int)) [(zbp,AV.obj 1)])=some (.obj 1):=by rw [zae,if_neg (by decide +kernel)];rfl
 have vt0:za2 zal (zab zal (.int (T:Int)) [(zbp,AV.obj 1)])=some (.int (T:Int)):=zaz
 generalize zab zal (.int (T:Int)) [(zbp,AV.obj 1)]=v0 at s0 vs0 vt0
 have s1:=as_s (k:=zaf) (nums_s (o:=o) (ns:=ns) (H:=H0) hH0.symm vs0 (by rw [hT];exact vt0))
 rw [hT] at s1
 have l0:H0.length=2:=by rw [← hH0];rfl
 have t0:H0[0]?=some (.tab []):=by rw [← hH0];rfl
 have t1:H0[1]?=some (.arg o (ns.map .int)):=by rw [← hH0];rfl
 clear hH0
 generalize hH1:H0++[AO.list ((ns.take 5).map .int),.list (((ns.take 5).map .int).map gm6),.list [.int 1,.int 1,.int 1],.list (([.int 1,.int 1,.int 1]:List AV).drop T),.list (nv (numsN ns))]=H1 at s1
 have g6:H1[6]?=some (.list (nv (numsN ns))):=by rw [← hH1,List.getElem?_append_right (by omega),l0];rfl
 have l1:H1.length=7:=by rw [← hH1,List.length_append,l0];rfl
 have u0:H1[0]?=some (.tab []):=by rw [← hH1];exact zbt t0
 have u1:H1[1]?=some (.arg o (ns.map .int)):=by rw [← hH1];exact zbt t1
 clear hH1
 generalize hN:numsN ns=N at *
 have vt1:za2 zal (zab zaf (.obj 6) v0)=some (.int (T:Int)):=zac (by decide +kernel) vt0
 have vn1:za2 zaf (zab zaf (.obj 6) v0)=some (.obj 6):=zaz
 generalize zab zaf (.obj 6) v0=v1 at s1 vt1 vn1
 have s2:=as_s (k:=zc9) (ends_s vt1 vn1 (lof_pl g6) (by omega))
 rw [l1] at s2
 generalize hH2:H1++[AO.list [.int ((endA T:Nat):Int),.int ((endB T N.length:Nat):Int)]]=H2 at s2
 have l2:H2.length=8:=by rw [← hH2,List.length_append,l1];rfl
 have g7:H2[7]?=some (.list [.int ((endA T:Nat):Int),.int ((endB T N.length:Nat):Int)]):=by rw [← hH2];exact zav l1
 have g6':H2[6]?=some (.list (nv N)):=by rw [← hH2];exact zbt g6
 have w0:H2[0]?=some (.tab []):=by rw [← hH2];exact zbt u0
 have w1:H2[1]?=some (.arg o (ns.map .int)):=by rw [← hH2];exact zbt u1
 clear hH2
 have vt2:za2 zal (zab zc9 (.obj 7) v1)=some (.int (T:Int)):=zac (by decide +kernel) vt1
 have vn2:za2 zaf (zab zc9 (.obj 7) v1)=some (.obj 6):=zac (by decide +kernel) vn1
 have ve2:za2 zc9 (zab zc9 (.obj 7) v1)=some (.obj 7):=zaz
 generalize zab zc9 (.obj 7) v1=v2 at s2 vt2 vn2 ve2
 have s3:=as_s (k:=zc5) (order_s vn2 (lof_pl g6') (by omega) hS)
 rw [l2] at s3
 generalize hH3:H2++[AO.range 0 (N.length:Int) 1]++[AO.list ((zdr 0 N).map fun (c:Nat)=>AV.int (c:Int))]++[AO.list (nv L)]=H3 at s3
 have l3:H3.length=11:=by rw [← hH3,List.length_append,List.length_append,List.length_append,l2];rfl
 have g10:H3[10]?=some (.list (nv L)):=by rw [← hH3];exact zav (by rw [List.length_append,List.length_append,l2];rfl)
 have g7':H3[7]?=some (.list [.int ((endA T:Nat):Int),.int ((endB T N.length:Nat):Int)]):=by rw [← hH3];exact zbt (zbt (zbt g7))
 have g6'':H3[6]?=some (.list (nv N)):=by rw [← hH3];exact zbt (zbt (zbt g6'))
 have x0:H3[0]?=some (.tab []):=by rw [← hH3];exact zbt (zbt (zbt w0))
 have x1:H3[1]?=some (.arg o (ns.map .int)):=by rw [← hH3];exact zbt (zbt (zbt w1))
 clear hH3
 have vt3:za2 zal (zab zc5 (.obj 10) v2)=some (.int (T:Int)):=zac (by decide +kernel) vt2
 have vn3:za2 zaf (zab zc5 (.obj 10) v2)=some (.obj 6):=zac (by decide +kernel) vn2
 have ve3:za2 zc9 (zab zc5 (.obj 10) v2)=some (.obj 7):=zac (by decide +kernel) ve2
 have vo3:za2 zc5 (zab zc5 (.obj 10) v2)=some (.obj 10):=zaz
 have s3':cAs zc5 aS v2 H2=some (.next,zab zc5 (.obj 10) v2,H3):=s3
 generalize zab zc5 (.obj 10) v2=v3 at s3' vt3 vn3 ve3 vo3
 clear s3
 have r4:=row_s vo3 g10 (by omega)
 rw [l3] at r4
 generalize hH4:H3++[AO.list (nv (L.map (· / 2)))]=H4 at r4
 have l4:H4.length=12:=by rw [← hH4,List.length_append,l3];rfl
 have k11:H4[11]?=some (.list (nv (L.map (· / 2)))):=by rw [← hH4];exact zav l3
 have k10:H4[10]?=some (.list (nv L)):=by rw [← hH4];exact zbt g10
 have k7:H4[7]?=some (.list [.int ((endA T:Nat):Int),.int ((endB T N.length:Nat):Int)]):=by rw [← hH4];exact zbt g7'
 have k6:H4[6]?=some (.list (nv N)):=by rw [← hH4];exact zbt g6''
 have y0:H4[0]?=some (.tab []):=by rw [← hH4];exact zbt x0
 have y1:H4[1]?=some (.arg o (ns.map .int)):=by rw [← hH4];exact zbt x1
 clear hH4
 obtain ⟨G,lc⟩:=laid_call (lof_pl k6) (by omega) hL
 rw [l4] at lc
 have al:aL v3 H4=some (.obj 12,H4++.list (dec L)::G):=call_s (zad (za5 vn3 _) (zc8 _ _)) lc
 have s4:=tup2_s (k1:=zaj) (k2:=zdk) (zad r4 (zad al (zc8 _ _)))
 have vt4:za2 zal (zab zdk (.obj 12) (zab zaj (.obj 11) v3))=some (.int (T:Int)):=by rw [zae,if_neg (by decide +kernel),zae,if_neg (by decide +kernel)];exact vt3
 have ve4:za2 zc9 (zab zdk (.obj 12) (zab zaj (.obj 11) v3))=some (.obj 7):=by rw [zae,if_neg (by decide +kernel),zae,if_neg (by decide +kernel)];exact ve3
 have vo4:za2 zc5 (zab zdk (.obj 12) (zab zaj (.obj 11) v3))=some (.obj 10):=by rw [zae,if_neg (by decide +kernel),zae,if_neg (by decide +kernel)];exact vo3
 have vr4:za2 zaj (zab zdk (.obj 12) (zab zaj (.obj 11) v3))=some (.obj 11):=by rw [zae,if_neg (by decide +kernel),zae,if_pos rfl]
 have vl4:za2 zdk (zab zdk (.obj 12) (zab zaj (.obj 11) v3))=some (.obj 12):=zaz
 generalize zab zdk (.obj 12) (zab zaj (.obj 11) v3)=v4 at s4 vt4 ve4 vo4 vr4 vl4
 have k12:(H4++AO.list (dec L)::G)[12]?=some (.list (dec L)):=by rw [List.getElem?_append_right (by omega),l4];rfl
 obtain ⟨G5,s5⟩:=a5_s vl4 vr4 vo4 k12 (zbt k11) (zbt k10) h3 P.mem
 refine ⟨v4,H4++AO.list (dec L)::G++G5,?_,vt4,vr4,ve4,zbt (zbt y0),zbt (zbt y1),zbt (zbt k11),zbt (zbt k7)⟩
 rw [c_lawA_eq,zb5 s0,zb5 s1,zb5 s2,zb5 s3',zb5 s4]
 exact s5
end
noncomputable section
noncomputable def lawP (n e0 e1:Nat) (l:List Int):Bool:=lawE (rowOf n e1 l) e0 e1
noncomputable def FamOk (n e0 e1:Nat):Prop:=∀ M:List Nat,M.length=e1→M.Pairwise (·≤·)→(∀ x∈M,x < 6)→lawP n e0 e1 (M.map Int.ofNat)=true
structure Fams:Prop where
 a:FamOk 3 0 2
 b:FamOk 3 1 2
 c:FamOk 3 0 3
 d:FamOk 3 1 3
 e:FamOk 4 1 3
 f:FamOk 5 0 4
 g:FamOk 5 1 4
 h:FamOk 5 0 5
 i:FamOk 5 1 5
theorem rows_succ (m lo:Nat):rows (m + 1) lo=List.rec (motive:=fun _=>List (List Int)) [] (fun x _ acc=>appF ((rows m x).map (Int.ofNat x::·)) acc) (List.range' lo (6 - lo)):=rfl
theorem rows_in {m x:Nat} {l:List Int} (hl:l∈rows m x):∀ (L:List Nat),x∈L→Int.ofNat x::l∈List.rec (motive:=fun _=>List (List Int)) [] (fun x _ acc=>appF ((rows m x).map (Int.ofNat x::·)) acc) L
 | [],h=>nomatch h
 | y::L,h=>by
  show _∈appF ((rows m y).map (Int.ofNat y::·)) _
  rw [zc3]
  rcases List.mem_cons.mp h with rfl | h
  ·exact List.mem_append_left _ (List.mem_map.mpr ⟨l,hl,rfl⟩)
  ·exact List.mem_append_right _ (rows_in hl L h)
theorem rows_mem:∀ (m lo:Nat) (K:List Nat),K.length=m→K.Pairwise (·≤·)→(∀ x∈K,lo≤x∧x < 6)→K.map Int.ofNat∈rows m lo
 | 0,lo,[],_,_,_=>List.mem_singleton.mpr rfl
 | 0,_,_::_,h,_,_=>by simp -iota at h
 | m + 1,_,[],h,_,_=>by simp -iota at h
 | m + 1,lo,x::K,h,hp,hb=>by
  obtain ⟨p1,p2⟩:=List.pairwise_cons.mp hp
  have hx:=hb x (List.mem_cons_self ..)
  rw [rows_succ,List.map_cons]
  refine rows_in (rows_mem m x K (by simpa -iota using h) p2 fun y hy=>⟨p1 y hy,(hb y (List.mem_cons_of_mem _ hy)).2⟩) _ (List.mem_range'_1.mpr ⟨hx.1,by omega⟩)
theorem half_ok {k:Nat} {L:List Nat} (P:PS k L):(L.map (· / 2)).Pairwise (·≤·)∧∀ x∈L.map (· / 2),x < 6:=by
 refine ⟨List.pairwise_map.mpr (P.srt.imp fun h=>Nat.div_le_div_right h),fun x hx=>?_⟩
 obtain ⟨c,hc,rfl⟩:=List.mem_map.mp hx
 rcases cc_cases (P.mem c hc) with rfl | rfl | rfl | rfl | rfl | rfl | rfl | rfl<;>decide
theorem relL_app {σ:List Addr}:∀ {xs ys xs':List AV} {vs:List Value},(∀ ws,RelL σ xs ws→RelL σ xs' ws)→∀ zs:List AV,RelL σ (zs++xs) vs→RelL σ (zs++xs') vs
 | xs,ys,xs',vs,h,[],r=>h vs r
 | xs,ys,xs',[],h,z::zs,r=>r.elim
 | xs,ys,xs',v::vs,h,z::zs,r=>⟨r.1,relL_app (ys:=ys) h zs r.2⟩
theorem relL_rng {σ:List Addr}:∀ (M:List Nat) (vs:List Value),(∀ x∈M,x < 6)→RelL σ (nv M) vs→RelL σ (rngs M.length) vs
 | [],[],_,_=>trivial
 | [],_::_,_,r=>r.elim
 | x::M,[],_,r=>r.elim
 | x::M,v::vs,h,r=>by
  obtain ⟨⟨t,rfl⟩,r2⟩:=r
  exact ⟨⟨x,t,h x (List.mem_cons_self ..),rfl⟩,relL_rng M vs (fun y hy=>h y (List.mem_cons_of_mem _ hy)) r2⟩
theorem row_weak {σ:List Addr} {M:List Nat} {e1:Nat} (he:e1≤M.length) (hM:∀ x∈M,x < 6) (vs:List Value) (r:RelL σ (nv M) vs):RelL σ (rowOf M.length e1 ((M.take e1).map Int.ofNat)) vs:=by
 have e:nv M=nv (M.take e1)++nv (M.drop e1):=by
  unfold nv
  rw [← List.map_append,List.take_append_drop]
 rw [e] at r
 have e2:rowOf M.length e1 ((M.take e1).map Int.ofNat)=nv (M.take e1)++rngs (M.drop e1).length:=by
  unfold rowOf
  rw [zc3,List.length_drop]
  congr 1
  unfold nv
  rw [List.map_map];rfl
 rw [e2]
 exact relL_app (ys:=[]) (fun ws q=>relL_rng _ ws (fun x hx=>hM x (List.mem_of_mem_drop hx)) q) _ r
theorem rowOf_len {n e1:Nat} {l:List Int} (h:l.length=e1) (he:e1≤n):(rowOf n e1 l).length=n:=by
 unfold rowOf rngs
 rw [zc3,List.length_append,List.length_map,List.length_replicate];omega
theorem nT (T:Nat):(T≤3∧min 5 T + (3 - T)=3)∨(T=4∧min 5 T + (3 - T)=4)∨min 5 T + (3 - T)=5 :=
 match T with
 | 0 | 1 | 2 | 3=>.inl (by decide)
 | 4=>.inr (.inl (by decide))
 | T + 5=>.inr (.inr (by rw [Nat.min_eq_left (Nat.le_add_left 5 T),Nat.sub_eq_zero_of_le (Nat.le_trans (by decide) (Nat.le_add_left 5 T))]))
theorem fams_at (F:Fams) (T:Nat):FamOk (min 5 T + (3 - T)) (endA T) (endB T (min 5 T + (3 - T))):=by
 unfold endA endB
 rcases nT T with ⟨_,q⟩ | ⟨rfl,_⟩ | q
 ·rw [q]
  rcases Nat.mod_two_eq_zero_or_one (T + 1) with ha | ha<;>rcases Nat.mod_two_eq_zero_or_one (T / 2 + 1) with hb | hb<;>rw [ha,hb]
  ·exact F.c
  ·exact F.a
  ·exact F.d
  ·exact F.b
 ·exact F.e
 ·rw [q]
  rcases Nat.mod_two_eq_zero_or_one (T + 1) with ha | ha<;>rcases Nat.mod_two_eq_zero_or_one (T / 2 + 1) with hb | hb<;>rw [ha,hb]
  ·exact F.h
  ·exact F.f
  ·exact F.i
  ·exact F.g
theorem fams_use (F:Fams) {T:Nat} {L:List Nat} {n:Nat} (hn:n=min 5 T + (3 - T)) (P:PS n L):endB T n≤(L.map (· / 2)).length∧lawE (rowOf (L.map (· / 2)).length (endB T n) (((L.map (· / 2)).take (endB T n)).map Int.ofNat)) (endA T) (endB T n)=true:=by
 obtain ⟨q1,q2⟩:=half_ok P
 have hl:(L.map (· / 2)).length=n:=by rw [List.length_map,P.len]
 generalize L.map (· / 2)=M at q1 q2 hl
 have he:endB T n≤M.length:=hl▸Nat.sub_le _ _
 have fam:=fams_at F T
 rw [← hn] at fam
 rw [hl]
 exact ⟨hl▸he,fam _ (by rw [List.length_take];exact Nat.min_eq_left he) (q1.sublist (List.take_sublist _ _)) fun x hx=>q2 x (List.mem_of_mem_take hx)⟩
theorem fam0 {n e0 e1:Nat} (h:∀ l∈rows e1 0,lawP n e0 e1 l=true):FamOk n e0 e1:=fun _ a b c=>h _ (rows_mem _ _ _ a b fun x hx=>⟨Nat.zero_le _,c x hx⟩)
theorem fam1 {n m:Nat} (h:∀ x:Nat,∀ l∈rows m 0,lawP n 1 (m + 1) (Int.ofNat x::l)=true):FamOk n 1 (m + 1)
 | [],a,_,_=>nomatch a
 | x::_,a,b,c=>h x _ (rows_mem _ _ _ (Nat.succ.inj a) (List.pairwise_cons.mp b).2 fun y hy=>⟨Nat.zero_le _,c y (List.mem_cons_of_mem _ hy)⟩)
end
theorem TLA_ok {w:World} {h:Heap} {l:Addr} {vs:List Value} (X:(KF w).In h) (hl:h.get? l=some (lst vs)):TabOk (c0 w h l) TLA []:=by
 have K:KOut (KF w) [111,l]:=kout X hl
 refine ⟨fun a u e=>?_,fun k u q=>by simp -iota at q⟩
 have key:∀ p∈TLA,UFOk (c0 w h l) p.1 p.2:=by
  unfold TLA
  simp -iota only [List.forall_mem_cons]
  exact ⟨⟨_,.inl (u_bisr (c:=c0 w h l) X K)⟩,⟨_,.inl (u_bisl (c:=c0 w h l) X K)⟩,⟨_,.inl (u_insr (c:=c0 w h l) X K)⟩,⟨_,.inl (u_insl (c:=c0 w h l) X K)⟩,⟨_,.inl (u_laid (c:=c0 w h l) X K)⟩,fun _ h=>nomatch h⟩
 exact key (a,u) (zcl e)
theorem St.weak {c:Cx} {σ:List Addr} {H:List AO} {s:Shared} (S:St c σ H s) {k:Nat} {o:AO} (hk:c.nfx≤k) (h:∀ a o1,σ[k]?=some a→H[k]?=some o1→o1.At σ s.heap a→o.At σ s.heap a):St c σ (H.set k o) s:=by
 refine ⟨S.base,by rw [List.length_set];exact S.len,fun j a o' e e'=>?_,S.nodup,S.fresh,S.fix,fun j hj=>?_,S.live,S.nle⟩
 ·rw [List.getElem?_set] at e'
  split at e'
  ·rename_i q
   subst q
   split at e'
   ·rename_i q2
    obtain rfl:=sj e'
    obtain ⟨o1,ho⟩:=get2 q2
    exact h a o1 e ho (S.objs k a o1 e ho)
   ·exact nsf e'
  ·exact S.objs j a o' e e'
 ·rw [List.getElem?_set,if_neg (by omega)]
  exact S.fixed j hj
theorem law_script:((fnd 23).pos.map key).zip [AV.obj 1]=[(zbp,.obj 1)]:=by
 have:(fnd 23).pos.map key=[zbp]:=by
  have:(fnd 23).pos=(["script"]:List Str):=by kernel_rfl
  rw [this]
  simp -iota only [List.map_cons,List.map_nil]
  exact congrArg (·::[]) zc6
 rw [this];rfl
theorem law_first:(fnd 23).body=[za6 0 (fnd 23).body,za6 1 (fnd 23).body,za6 2 (fnd 23).body,za6 3 (fnd 23).body,za6 4 (fnd 23).body,za6 5 (fnd 23).body]++(fnd 23).body.drop 6:=by kernel_rfl
theorem lawV1_dot:look (key ".0") lawV1=none:=by kernel_rfl
theorem lawV1_at {x:Str} {av':AV} (h:look (key x) lawV1=some av'):(key x=zal∧av'=.rng 64)∨(key x=zc9∧av'=.obj 2)∨(key x=zaj∧av'=.obj 1):=by
 unfold lawV1 at h
 rw [zan] at h
 split at h
 ·rename_i q;exact .inl ⟨q.symm,(sj h).symm⟩
 rw [zan] at h
 split at h
 ·rename_i q;exact .inr (.inl ⟨q.symm,(sj h).symm⟩)
 rw [zan] at h
 split at h
 ·rename_i q;exact .inr (.inr ⟨q.symm,(sj h).symm⟩)
 ·exact nsf h
theorem law_runs (FM:Fams):LawRuns:=by
 intro w s mg mb l vs ns X Ng Nb hb nl bm hg hT hl hi hn
 have T:TopAt w s.heap mg mb:=⟨X,Ng,Nb,hb,nl,bm⟩
 have Ok:=c0_ok X Ng Nb hb nl hl
 have K:KOut (KF w) [111,l]:=kout X hl
 have O:TopOut w mg [111,l]:=by
  refine ⟨K,Ok.wg,Ok.wb,Ok.ws,fun b hb' hm=>?_⟩
  obtain ⟨b0,o,b1,b2,b3,b4,b5,b6⟩:=bm
  rw [b1] at hb';cases hb'
  rcases List.mem_cons.mp hm with q | hm
  ·subst q;rw [hT 111 (by simp -iota)] at b3;obtain rfl:=sj b3;cases b4
  ·simp -iota at hm;subst hm;rw [hl] at b3;obtain rfl:=sj b3
   have h9:Value.type "list"=Value.type "module":=b4
   injection h9 with h9
   exact absurd h9 (by decide)
 have U:UCells (c0 w s.heap l) (fnd 23) 126 (zdi (KF w) 126):=u_law (c:=c0 w s.heap l) X K
 have S:=st0 (w:=w) (l:=l) hT hl hi hn
 refine ⟨[.opq isTab,.arg (lst vs) (ns.map .int)],rfl,⟨_,rfl⟩,?_⟩
 intro Q E hq
 have Rm:Room callerA 11:=⟨rfl,by decide +kernel,by decide +kernel⟩
 have ra:RelL [111,l] [AV.obj 1] [Value.ref l]:=⟨⟨l,rfl,rfl⟩,trivial⟩
 refine U.toUBase.rec_ S fun fo ho hd hcd=>?_
 refine wpAny_call (codeAny_call_cells (by have:=Rm.depth;omega) ho hd (S.nolim Ok) hcd U.body (U.binds [.ref l] (by kernel_rfl)) U.clo (cells_kinds U) (fun s1 X1=>?_) (by rw [U.scope];exact U.co) (by rw [U.scope];exact U.gen) (by rw [U.scope];exact U.kind))
 obtain ⟨Fr0,hfr⟩:=frame_cells U S rfl ra (by kernel_rfl) X1
 rw [law_script] at Fr0
 obtain ⟨h1,tk,hs1⟩:=X1.toInCall.same
 have hk:∀ b o,s.heap.get? b=some o→h1.get? b=some o:=fun b o e=>by have:=X1.toInCall.keep b o e;rw [hs1] at this;exact this
 have S1:St (c0 w s.heap l) [111,l] [.tab [],.arg (lst vs) (ns.map .int)] s1:=S.keep X1.toInCall.keep
 have hfe:(callEnvC (zdi (KF w) 126) s.heap.objs.size 126).frame=some (callEnvC (zdi (KF w) 126) s.heap.objs.size 126).locals:=rfl
 generalize callEnvC (zdi (KF w) 126) s.heap.objs.size 126=env at Fr0 hfr hfe ⊢
 have hA:(callerA.deeper env).frames=some [env]:=rfl
 have nlen:=numsN_len ns
 refine laid_all (ns:=numsN ns) (by omega) (numsN_lt ns) fun L l1 P l3=>?_
 obtain ⟨v,H,hrun,vt,vr,ve,t0,t1,t11,t7⟩:=phaseA (o:=lst vs) l1 P l3
 have hc0:zbx (c0 w s.heap l) (zbv G2 TLA [] 4) 4:=zb3 (c:=c0 w s.heap l) (T:=TLA) (TL:=[]) Ok (TLA_ok X hl) 4
 rw [law_first]
 refine zdt (c:=c0 w s.heap l) (zbz Ok hc0 za0) ((Rm.deeper env).le (by decide)) _ Fr0 S1 ((c_lawA dA2).2 _ dA2_ok zb0 _ _ _ hrun) fun τ1 s2 a2 F2=>?_
 have A3:=AftS.leave (s:=s) hs1 hk a2 hfr
 have S2:=a2.st
 have σl:=S2.len
 have lt2:∀ {i:Nat} {o:AO},H[i]?=some o→i < ([111,l]++τ1).length:=fun h=>by rw [σl];exact (List.getElem?_eq_some_iff.mp h).1
 obtain ⟨ra',hra⟩:=get2 (L:=[111,l]++τ1) (n:=11) (lt2 t11)
 obtain ⟨ea,hea⟩:=get2 (L:=[111,l]++τ1) (n:=7) (lt2 t7)
 have h111:([111,l]++τ1)[0]?=some 111:=rfl
 have hl1:([111,l]++τ1)[1]?=some l:=rfl
 have neq:∀ {i j:Nat} {x y:Addr},([111,l]++τ1)[i]?=some x→([111,l]++τ1)[j]?=some y→i≠j→x≠y:=fun h1 h2 hij q=>hij (nodup_idx S2.nodup h1 (q▸h2))
 have mτ:∀ {i:Nat} {x:Addr},([111,l]++τ1)[i + 2]?=some x→x∈τ1:=fun h=>List.mem_of_getElem? (i:=_) h
 have hnr:s.heap.get? ra'=none:=A3.new _ (mτ (i:=9) hra)
 have hne:s.heap.get? ea=none:=A3.new _ (mτ (i:=5) hea)
 have hn2:∀ a∈fadr env,a∉[111,l]++τ1:=fun a ha q=>by
  rcases List.mem_cons.mp ha with z | z
  ·exact F2.outL (z▸q)
  ·obtain ⟨p,hp,hpe⟩:=List.mem_filterMap.mp z
   exact F2.outC p.1 a hpe q
 generalize hW:111::ra'::ea::fadr env=W
 have w1:111∈W:=hW▸List.mem_cons_self ..
 have w2:ra'∈W:=hW▸List.mem_cons_of_mem _ (List.mem_cons_self ..)
 have w3:ea∈W:=hW▸List.mem_cons_of_mem _ (List.mem_cons_of_mem _ (List.mem_cons_self ..))
 have w4:∀ a∈fadr env,a∈W:=fun a h=>hW▸List.mem_cons_of_mem _ (List.mem_cons_of_mem _ (List.mem_cons_of_mem _ h))
 have inW:∀ a∈W,a=111∨a=ra'∨a=ea∨a∈fadr env:=fun a h=>by
  rw [← hW] at h
  simpa -iota using h
 have hWf:∀ a∈W,s.heap.get? a=none∨a∈[111,l]:=fun a ha=>by
  rcases inW a ha with rfl | rfl | rfl | q
  ·exact .inr (List.mem_cons_self ..)
  ·exact .inl hnr
  ·exact .inl hne
  ·exact .inl (hfr a q)
 have hlW:l∉W:=fun q=>by
  rcases inW l q with q | q | q | q
  ·exact neq hl1 h111 (by decide) q
  ·exact neq hl1 hra (by decide) q
  ·exact neq hl1 hea (by decide) q
  ·exact hn2 l q (List.mem_of_getElem? hl1)
 have OW:TopOut w mg W:=TopOut.fresh T O hWf
 have T':TopAt w (eras s2.heap W) mg mb:=(T.keep O S2.base).keep OW fun b o hb e=>zd7 hb e
 obtain ⟨he1,hE⟩:=fams_use FM (T:=ns.length) nlen P
 have hrow:=(half_ok P).2
 generalize hM:L.map (· / 2)=M at t11 he1 hE hrow
 generalize endA ns.length=e0 at t7 hE
 rw [← numsN_len ns] at nlen
 generalize endB ns.length (numsN ns).length=e1 at t7 hE he1
 have S0':St (reC (c0 w s.heap l) s2.heap W [111] 0) [111,ra',ea] [.tab [],.list (nv M),.list [.int (Int.ofNat e0),.int (Int.ofNat e1)]] s2:=by
  refine rebase_st S2 rfl (fun j a o e e'=>?_) ?_ (fun j a e _=>?_) ⟨[ra',ea],rfl⟩ (Nat.zero_le _) (fun j hj=>absurd hj (Nat.not_lt_zero _))
  ·match j with
   | 0=>obtain rfl:=sj e;obtain rfl:=sj e';exact ⟨rfl,0,_,h111,t0,.inl rfl⟩
   | 1 =>
    obtain rfl:=sj e;obtain rfl:=sj e'
    refine ⟨?_,11,_,hra,t11,.inl rfl⟩
    show zb1 0 (nv M)=true
    unfold zb1 nv
    rw [List.all_map]
    exact List.all_eq_true.mpr fun x _=>rfl
   | 2=>obtain rfl:=sj e;obtain rfl:=sj e';exact ⟨rfl,7,_,hea,t7,.inl rfl⟩
   | j + 3=>exact nsf e
  ·have n1:=neq h111 hra (by decide)
   have n2:=neq h111 hea (by decide)
   have n3:=neq hra hea (by decide)
   simp -iota [n1,n2,n3]
  ·match j with
   | 0=>obtain rfl:=sj e;exact w1
   | 1=>obtain rfl:=sj e;exact w2
   | 2=>obtain rfl:=sj e;exact w3
   | j + 3=>exact nsf e
 have S':St (cxP w (eras s2.heap W) [111] 0) [111,ra',ea] (lawH1 (rowOf M.length e1 ((M.take e1).map Int.ofNat)) e0 e1) s2 :=
  S0'.weak (k:=1) (o:=.list (rowOf M.length e1 ((M.take e1).map Int.ofNat))) (Nat.zero_le _) fun a o1 ha ho x=>by
   obtain rfl:=sj ho
   obtain ⟨vs,n,q1,q2,q3⟩:=x
   refine ⟨vs,n,q1,row_weak he1 hrow vs q2,?_⟩
   rw [rowOf_len (by rw [List.length_map,List.length_take];omega) he1]
   rwa [nv_len] at q3
 have rel:∀ {i j:Nat} {x:Addr},([111,l]++τ1)[i]?=some x→[111,ra',ea][j]?=some x→∀ v,(AV.obj i).Rel ([111,l]++τ1) v→(AV.obj j).Rel [111,ra',ea] v:=fun h1 h2 v ⟨y,g1,g2⟩=>by
  rw [h1] at g1;obtain rfl:=sj g1;exact ⟨_,h2,g2⟩
 have F':SF (cxP w (eras s2.heap W) [111] 0) (fnd 23).sc lawV1 env [111,ra',ea] s2.heap:=by
  refine rebase_sfW F2 (fun a ha=>?_) (fun x av' hx=>?_) lawV1_dot w4
  ·rcases List.mem_cons.mp ha with rfl | ha
   ·exact List.mem_of_getElem? h111
   ·rcases List.mem_cons.mp ha with rfl | ha
    ·exact List.mem_of_getElem? hra
    ·rw [List.mem_singleton.mp ha];exact List.mem_of_getElem? hea
  ·rcases lawV1_at hx with ⟨q,rfl⟩ | ⟨q,rfl⟩ | ⟨q,rfl⟩
   ·rw [q,← zbj]
    exact ⟨_,vt,fun v ⟨t,e⟩=>⟨ns.length,t,by omega,e⟩⟩
   ·rw [q,← zbj]
    exact ⟨_,ve,rel hea rfl⟩
   ·rw [q,← zbj]
    exact ⟨_,vr,rel hra rfl⟩
 refine law_tail T' (Rm.deeper env) hA hfe S' F' hE fun τ' s5 H6 tabs a5 ht=>?_
 have a6:AftS (reC (c0 w s.heap l) s2.heap W [111] 0) [111,ra',ea] (H6.set 0 (.opq isTab)) env s2 τ' s5:=by
  refine ⟨a5.st.weak (k:=0) (o:=.opq isTab) (Nat.zero_le _) fun a o1 ha ho x=>?_,a5.pres,a5.new⟩
  rw [ht] at ho
  obtain rfl:=sj ho
  obtain ⟨vs,e,_⟩:=x
  exact ⟨_,e,_,rfl⟩
 have fin:Aft (c0 w s.heap l) [111,l] [.opq isTab,.arg (lst vs) (ns.map .int)] s [] s5:=by
  refine rebase_back S A3 a6 (fun a ha=>⟨?_,hWf a ha⟩) rfl (fun k hk=>absurd hk (Nat.not_lt_zero _)) List.nodup_nil (fun a ha=>nomatch ha) (fun k a o e e'=>?_)
  ·rcases hWf a ha with q | q
   ·exact .inr q
   ·exact .inl q
  ·match k with
   | 0 =>
    obtain rfl:=sj e;obtain rfl:=sj e'
    refine .inr ⟨rfl,0,.opq isTab,rfl,?_,.inl rfl⟩
    rw [List.getElem?_set,if_pos rfl,if_pos (List.getElem?_eq_some_iff.mp ht).1]
   | 1 =>
    obtain rfl:=sj e;obtain rfl:=sj e'
    refine .inl ⟨hlW,?_,1,_,hl1,t1,.inl rfl⟩
    show zb1 _ (ns.map .int)=true
    unfold zb1
    rw [List.all_map]
    exact List.all_eq_true.mpr fun x _=>rfl
   | k + 2=>exact nsf e
 exact hq [] s5 _ fin rfl
end Mine
namespace Mine
noncomputable def chk (p:List Int→Bool) (m i k:Nat):Bool:=allF p (takeF ((rows m 0).drop i) k)
theorem chk_all {p:List Int→Bool} {e k:Nat} (hk:0 < k) (m:Nat) (hm:(rows e 0).length≤m * k) (h:∀ i,i < m→chk p e (i * k) k=true):∀ l∈rows e 0,p l=true:=by
 intro l hl
 obtain ⟨j,hj⟩:=List.mem_iff_getElem?.mp hl
 have hjl:=(List.getElem?_eq_some_iff.mp hj).1
 have hi:j / k < m:=(Nat.div_lt_iff_lt_mul hk).mpr (Nat.lt_of_lt_of_le hjl hm)
 have:=h (j / k) hi
 unfold chk at this
 rw [allF_eq,takeF_eq] at this
 refine List.all_eq_true.mp this l ?_
 refine List.mem_of_getElem? (i:=j % k) ?_
 rw [List.getElem?_take_of_lt (Nat.mod_lt _ hk),List.getElem?_drop]
 rw [show j / k * k + j % k=j by rw [Nat.mul_comm];exact Nat.div_add_mod j k]
 exact hj
theorem up0 {P:Nat→Prop}:∀ i,i < 0→P i:=fun _ h=>absurd h (Nat.not_lt_zero _)
theorem upS {P:Nat→Prop} {m:Nat} (h:∀ i,i < m→P i) (c:P m):∀ i,i < m + 1→P i:=fun i hi=>(Nat.lt_succ_iff_lt_or_eq.mp hi).elim (h i) fun e=>e▸c
theorem chk_a0:chk (lawP 3 0 2) 2 (0 * 21) 21=true:=by decide +kernel
theorem chk_b0 (x:Nat):chk (fun l=>lawP 3 1 2 (Int.ofNat x::l)) 1 (0 * 21) 21=true:=by kernel_rfl
theorem chk_c0:chk (lawP 3 0 3) 3 (0 * 21) 21=true:=by decide +kernel
theorem chk_c1:chk (lawP 3 0 3) 3 (1 * 21) 21=true:=by decide +kernel
theorem chk_c2:chk (lawP 3 0 3) 3 (2 * 21) 21=true:=by decide +kernel
theorem chk_d0 (x:Nat):chk (fun l=>lawP 3 1 3 (Int.ofNat x::l)) 2 (0 * 21) 21=true:=by kernel_rfl
theorem chk_e0 (x:Nat):chk (fun l=>lawP 4 1 3 (Int.ofNat x::l)) 2 (0 * 21) 21=true:=by kernel_rfl
theorem chk_f0:chk (lawP 5 0 4) 4 (0 * 21) 21=true:=by decide +kernel
theorem chk_f1:chk (lawP 5 0 4) 4 (1 * 21) 21=true:=by decide +kernel
theorem chk_f2:chk (lawP 5 0 4) 4 (2 * 21) 21=true:=by decide +kernel
theorem chk_f3:chk (lawP 5 0 4) 4 (3 * 21) 21=true:=by decide +kernel
theorem chk_f4:chk (lawP 5 0 4) 4 (4 * 21) 21=true:=by decide +kernel
theorem chk_f5:chk (lawP 5 0 4) 4 (5 * 21) 21=true:=by decide +kernel
theorem chk_g0 (x:Nat):chk (fun l=>lawP 5 1 4 (Int.ofNat x::l)) 3 (0 * 21) 21=true:=by kernel_rfl
theorem chk_g1 (x:Nat):chk (fun l=>lawP 5 1 4 (Int.ofNat x::l)) 3 (1 * 21) 21=true:=by kernel_rfl
theorem chk_g2 (x:Nat):chk (fun l=>lawP 5 1 4 (Int.ofNat x::l)) 3 (2 * 21) 21=true:=by kernel_rfl
theorem chk_h0:chk (lawP 5 0 5) 5 (0 * 21) 21=true:=by decide +kernel
theorem chk_h1:chk (lawP 5 0 5) 5 (1 * 21) 21=true:=by decide +kernel
theorem chk_h2:chk (lawP 5 0 5) 5 (2 * 21) 21=true:=by decide +kernel
theorem chk_h3:chk (lawP 5 0 5) 5 (3 * 21) 21=true:=by decide +kernel
theorem chk_h4:chk (lawP 5 0 5) 5 (4 * 21) 21=true:=by decide +kernel
theorem chk_h5:chk (lawP 5 0 5) 5 (5 * 21) 21=true:=by decide +kernel
theorem chk_h6:chk (lawP 5 0 5) 5 (6 * 21) 21=true:=by decide +kernel
theorem chk_h7:chk (lawP 5 0 5) 5 (7 * 21) 21=true:=by decide +kernel
theorem chk_h8:chk (lawP 5 0 5) 5 (8 * 21) 21=true:=by decide +kernel
theorem chk_h9:chk (lawP 5 0 5) 5 (9 * 21) 21=true:=by decide +kernel
theorem chk_h10:chk (lawP 5 0 5) 5 (10 * 21) 21=true:=by decide +kernel
theorem chk_h11:chk (lawP 5 0 5) 5 (11 * 21) 21=true:=by decide +kernel
theorem chk_i0 (x:Nat):chk (fun l=>lawP 5 1 5 (Int.ofNat x::l)) 4 (0 * 21) 21=true:=by kernel_rfl
theorem chk_i1 (x:Nat):chk (fun l=>lawP 5 1 5 (Int.ofNat x::l)) 4 (1 * 21) 21=true:=by kernel_rfl
theorem chk_i2 (x:Nat):chk (fun l=>lawP 5 1 5 (Int.ofNat x::l)) 4 (2 * 21) 21=true:=by kernel_rfl
theorem chk_i3 (x:Nat):chk (fun l=>lawP 5 1 5 (Int.ofNat x::l)) 4 (3 * 21) 21=true:=by kernel_rfl
theorem chk_i4 (x:Nat):chk (fun l=>lawP 5 1 5 (Int.ofNat x::l)) 4 (4 * 21) 21=true:=by kernel_rfl
theorem chk_i5 (x:Nat):chk (fun l=>lawP 5 1 5 (Int.ofNat x::l)) 4 (5 * 21) 21=true:=by kernel_rfl
theorem fams:Fams:=⟨
 fam0 (chk_all (k:=21) (by decide) 1 (by decide +kernel) (upS up0 (chk_a0))),
 fam1 fun x=>chk_all (k:=21) (by decide) 1 (by decide +kernel) (upS up0 (chk_b0 x)),
 fam0 (chk_all (k:=21) (by decide) 3 (by decide +kernel) (upS (upS (upS up0 (chk_c0)) (chk_c1)) (chk_c2))),
 fam1 fun x=>chk_all (k:=21) (by decide) 1 (by decide +kernel) (upS up0 (chk_d0 x)),
 fam1 fun x=>chk_all (k:=21) (by decide) 1 (by decide +kernel) (upS up0 (chk_e0 x)),
 fam0 (chk_all (k:=21) (by decide) 6 (by decide +kernel) (upS (upS (upS (upS (upS (upS up0 (chk_f0)) (chk_f1)) (chk_f2)) (chk_f3)) (chk_f4)) (chk_f5))),
 fam1 fun x=>chk_all (k:=21) (by decide) 3 (by decide +kernel) (upS (upS (upS up0 (chk_g0 x)) (chk_g1 x)) (chk_g2 x)),
 fam0 (chk_all (k:=21) (by decide) 12 (by decide +kernel) (upS (upS (upS (upS (upS (upS (upS (upS (upS (upS (upS (upS up0 (chk_h0)) (chk_h1)) (chk_h2)) (chk_h3)) (chk_h4)) (chk_h5)) (chk_h6)) (chk_h7)) (chk_h8)) (chk_h9)) (chk_h10)) (chk_h11))),
 fam1 fun x=>chk_all (k:=21) (by decide) 6 (by decide +kernel) (upS (upS (upS (upS (upS (upS up0 (chk_i0 x)) (chk_i1 x)) (chk_i2 x)) (chk_i3 x)) (chk_i4 x)) (chk_i5 x))⟩
end Mine
theorem PySem.Challenge.cw_tc0011_01_holds : PySem.Challenge.rw_tc0011_01.Holds :=
 Mine.law_of_runs (Mine.law_runs Mine.fams)
