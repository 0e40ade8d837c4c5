import PyProof.Rows.All
import Wide.All
import OpenK.AllK
import Wide.FinOn
import KE.KSetIn
import KE.KxFormat
import PyProof.SliceMore
import PyProof.SliceStr2
import PyProof.StrLawsIdx
import PyProof.MeetsSeq3
import PySem.Challenge.RW_mu0002_05
open PySem PySem.W PySem.W.X PyProof.Rows
set_option Elab.async false
set_option maxRecDepth 100000
set_option linter.all false
namespace Mine
section
abbrev RP:=Result->Shared->Prop
abbrev VP:=Value->Shared->Prop
noncomputable abbrev pw:Program:=PySem.Challenge.pw_mu0002_05
noncomputable def D(l:Code):Sem Fin:=PySem.W.Fast.tw11892475500146522536 PySem.W.Fast.tw14364793385576792824 l
theorem GZ:denote table=D:=by
 rw[table_eq_tree]
 show @denote _=_
 rw[PySem.W.Fast.te11892475500146522536,PySem.W.Fast.te14364793385576792824]
 rfl
noncomputable def J4(l:Code):Bool:=PySem.W.ZFast.zw17772548960776305114 l
theorem KP(l:Code):l.quiet=J4 l:=congrFun PySem.W.ZFast.ze17772548960776305114 l
noncomputable abbrev An:=List (Addr×Obj)
noncomputable abbrev Gp:=GenState->Prop
noncomputable def Cl(l:Code):Gp:=λo=>o = .fresh l
noncomputable abbrev Gs:=List (Nat×Gp)
structure Cx where
 w:World
 h₀:Heap
 n₁:Nat
 kt:KT
 os:OsState
structure Cx.Ok(e:Cx):Prop where
 size:e.h₀.objs.size=e.n₁
 kt:e.kt.Holds e.h₀ 1 0
 lim:e.h₀.NoLimit
structure Rep(e:Cx)(f:An)(g:Gs)(b:Shared):Prop where
 get:∀c∈f,b.heap.get? c.1=some c.2
 nd:(f.map (·.1)).Nodup
 hi:∀c∈f,e.n₁<=c.1
 old:∀q h,e.h₀.get? q=some h->b.heap.get? q=some h
 size:e.n₁<=b.heap.objs.size
 gens:∀c∈g,∃o,b.gens[c.1]?=some o/\c.2 o
 gnd:(g.map (·.1)).Nodup
 bare:AllBare b.gens
 os:b.os=e.os
namespace Rep
variable{e:Cx}{f E M:An}{g t:Gs}{b:Shared}
theorem top(A:e.Ok)(a:Rep e f g b){k:Addr}{h:Obj}(i:e.kt.get k=some h):b.heap.get? k=some h:=by
 have P:=KT.Holds.get A.kt i
 rw[Nat.one_mul,Nat.add_zero] at P
 exact a.old _ _ P
theorem noLimit(A:e.Ok)(a:Rep e f g b):b.heap.NoLimit:=by
 obtain⟨a7,F,m⟩:=A.lim
 obtain⟨h,R,Q,H,hd,a5⟩:=F
 exact⟨a7,⟨h,R,Q,a.old _ _ H,hd,a5⟩,m⟩
theorem perm(a:Rep e f g b)(m:E.Perm f):Rep e E g b:=
 ⟨λc d=>a.get c (m.mem_iff.mp d),(m.map _).nodup_iff.mpr a.nd,λc d=>a.hi c (m.mem_iff.mp d),a.old,a.size,a.gens,a.gnd,a.bare,a.os⟩
theorem sub(a:Rep e f g b)(m:E.Sublist f):Rep e E g b:=
 ⟨λc d=>a.get c (m.subset d),a.nd.sublist (m.map _),λc d=>a.hi c (m.subset d),a.old,a.size,a.gens,a.gnd,a.bare,a.os⟩
theorem toks(a:Rep e f g b)(a9:Nat):Rep e f g {b with toks:=a9}:=⟨a.get,a.nd,a.hi,a.old,a.size,a.gens,a.gnd,a.bare,a.os⟩
theorem lt(a:Rep e f g b){c:Addr×Obj}(d:c∈f):c.1<b.heap.objs.size:=Heap.lt_size (a.get c d)
theorem push(a:Rep e f g b){h:Obj}(B:h.isFreed=false):Rep e ((b.heap.objs.size,h)::f) g {b with heap:=b.heap.push h}:=by
 refine⟨λc d=>?_,?_,λc d=>?_,λq L i=>Heap.get?_push_of_some _ (a.old q L i),?_,a.gens,a.gnd,a.bare,a.os⟩
 ·rcases List.mem_cons.mp d with rfl |d
  ·exact Heap.get?_push_size _ B
  ·exact Heap.get?_push_of_some _ (a.get c d)
 ·rw[List.map_cons]
  refine List.nodup_cons.mpr ⟨λz=>?_,a.nd⟩
  obtain⟨c,d,i⟩:=List.mem_map.mp z
  have:=a.lt d
  rw[i] at this
  exact Nat.lt_irrefl _ this
 ·rcases List.mem_cons.mp d with rfl |d
  ·exact a.size
  ·exact a.hi c d
 ·show e.n₁<=(b.heap.push h).objs.size
  rw[Heap.size_push]
  exact Nat.le_succ_of_le a.size
theorem alloc(a:Rep e (f++M) g b){h:Obj}(B:h.isFreed=false):Rep e ((f++[(b.heap.objs.size,h)])++M) g {b with heap:=b.heap.push h}:=by
 refine(a.push B).perm ?_
 rw[List.append_assoc]
 exact List.perm_middle
theorem update(A:e.Ok)(a:Rep e f g b){s:Nat}{k:Addr}{h:Obj}{p:Obj->Obj}(hi:f[s]?=some (k,h))(B:(p h).isFreed=false) :
  Rep e (f.set s (k,p h)) g {b with heap:=b.heap.update k p}:=by
 have z:(k,h)∈f:=List.mem_of_getElem? hi
 have H:=a.get _ z
 have K:Heap.SameBut k b.heap (b.heap.update k p):=Heap.SameBut.update ..
 have S:(b.heap.update k p).get? k=some (p h):=Heap.get?_update_self p H B
 have N:(f.set s (k,p h)).map (·.1)=f.map (·.1):=by
  apply List.ext_getElem?
  intro n
  rw[List.getElem?_map,List.getElem?_map,List.getElem?_set]
  by_cases x:s=n
  ·subst x
   rw[if_pos rfl]
   have a2:s<f.length:=(List.getElem?_eq_some_iff.mp hi).1
   rw[if_pos a2,hi]
   rfl
  ·rw[if_neg x]
 have F:=List.getElem?_eq_some_iff.mp hi
 refine⟨λc d=>?_,by rw[N]; exact a.nd,λc d=>?_,λq L i=>?_,?_,a.gens,a.gnd,a.bare,a.os⟩
 ·obtain⟨n,y,i⟩:=List.mem_iff_getElem.mp d
  have r:n<f.length:=by rw[List.length_set] at y; exact y
  rw[List.getElem_set] at i
  by_cases x:s=n
  ·rw[if_pos x] at i
   subst i
   exact S
  ·rw[if_neg x] at i
   subst i
   have a4:(f[n]'r).1≠k:=by
    intro a8
    have a3:=a.nd
    have T:(f.map (·.1))[s]'(by rw[List.length_map]; exact F.1)=k:=by rw[List.getElem_map,F.2]
    have X:(f.map (·.1))[n]'(by rw[List.length_map]; exact r)=k:=by rw[List.getElem_map]; exact a8
    exact x ((List.getElem_inj a3).mp (T.trans X.symm))
   exact(K.2 _ a4).trans (a.get _ (List.getElem_mem r))
 ·obtain⟨n,y,i⟩:=List.mem_iff_getElem.mp d
  have r:n<f.length:=by rw[List.length_set] at y; exact y
  have:c.1=(f[n]'r).1:=by
   have:=congrArg (λa6=>a6[n]?) N
   simp only[List.getElem?_map,List.getElem?_eq_getElem y,List.getElem?_eq_getElem r,Option.map_some,Option.some.injEq] at this
   rw[<-i]; exact this
  rw[this]
  exact a.hi _ (List.getElem_mem r)
 ·have a1:q<e.n₁:=A.size▸Heap.lt_size i
  have a0:e.n₁<=k:=a.hi _ z
  exact(K.2 q (Nat.ne_of_lt (Nat.lt_of_lt_of_le a1 a0))).trans (a.old q L i)
 ·show e.n₁<=(b.heap.update k p).objs.size
  rw[K.1]; exact a.size
theorem newGen(a:Rep e f (g++t) b)(l:Code):Rep e f ((g++[(b.gens.size,Cl l)])++t) {b with gens:=b.gens.push (.fresh l)}:=by
 have G:∀c∈g++t,c.1<b.gens.size:=λc d=>by
  obtain⟨o,this,_⟩:=a.gens c d
  exact(Array.getElem?_eq_some_iff.mp this).1
 have O:∀c∈g++t,∃o,(b.gens.push (.fresh l))[c.1]?=some o/\c.2 o:=λc d=>by
  obtain⟨o,i,m⟩:=a.gens c d
  refine⟨o,?_,m⟩
  rw[Array.getElem?_push_lt (G c d)]
  rw[Array.getElem?_eq_getElem (G c d)] at i
  exact i
 refine⟨a.get,a.nd,a.hi,a.old,a.size,λc d=>?_,?_,a.bare.push rfl,a.os⟩
 ·rw[List.append_assoc] at d
  rcases List.mem_append.mp d with d |d
  ·exact O c (List.mem_append_left _ d)
  ·rcases List.mem_cons.mp d with rfl |d
   ·exact⟨.fresh l,by show(b.gens.push _)[b.gens.size]?=_; rw[Array.getElem?_push_size],rfl⟩
   ·exact O c (List.mem_append_right _ d)
 ·have d:((g++[(b.gens.size,Cl l)])++t).Perm ((b.gens.size,Cl l)::(g++t)):=by
   rw[List.append_assoc]; exact List.perm_middle
  rw[(d.map _).nodup_iff,List.map_cons]
  refine List.nodup_cons.mpr ⟨λz=>?_,a.gnd⟩
  obtain⟨c,d,i⟩:=List.mem_map.mp z
  have:=G c d
  rw[i] at this
  exact Nat.lt_irrefl _ this
end Rep
end
section
structure Fm where
 k:Result->Sem Fin
 hd:Option Value
 g:Bool
 l:List Value
 c:Code
inductive FU where
 |ret (P:Result)
 |again (c:Code)
 |yld (q:Value) (b1:Bool) (l:List Value) (k:Resume->Sem Fin) (c:Code) (κ:List Fm)
 |tree (c:Code) (κ:List Fm) (a3:Sem Fin)
structure Room(d:Nat)(i:Around):Prop where
 depth:i.depth+d<=990
 units:i.units+2*d<=9890
 handled:i.handled=none
 frames:∃l,i.frames=some l
 guards:∃l,i.guards=some l
theorem Room.mono{d c1:Nat}{i:Around}(a:Room d i)(hd:c1<=d):Room c1 i:=
 ⟨by have:=a.depth; lia,by have:=a.units; lia,a.handled,a.frames,a.guards⟩
theorem WQ{L:Nat}{p:Prop}[d:Decidable p]{c8:p->Nat}{g:¬p->Nat}(r:∀a,c8 a<=L)(d1:∀a,g a<=L):dite p c8 g<=L:=by
 cases d with
 |isTrue a=>exact r a
 |isFalse a=>exact d1 a
theorem WP{L:Nat}{p:Prop}{d:Decidable p}:(if p then 1 else 0)<=L+1:=WQ (λ_=>Nat.le_add_left ..) λ_=>Nat.zero_le _
theorem WO(c:Code):c.frames<=3:=by
 cases c with
 |builtin id Q=>
  delta Code.frames Code.frames.match_1
  show dite _ _ _<=3
  repeat refine WQ (λa=>by subst a; exact Nat.le_of_ble_eq_true rfl) λ_=>?_
  exact WP
 |_=>
  delta Code.frames Code.frames.match_1
  exact WP
theorem Fp{c:Code}(a:c.isCaller=false):c.weight<=5:=by
 unfold Code.weight
 rw[a]
 exact Nat.add_le_add (Nat.add_le_add (Nat.add_le_add (WO c) (WP (L:=0))) (WP (L:=0))) (Nat.le_of_eq (if_neg Bool.false_ne_true))
theorem Gz(c:Code):c.cUnits<=10:=by
 have:=WO c
 cases c with
 |builtin id Q=>exact Nat.add_le_add (Nat.le_refl 1) (Nat.mul_le_mul_left 3 this)
 |call=>exact Nat.le_add_left ..
 |_=>exact Nat.le_trans (Nat.mul_le_mul_left 3 this) (Nat.le_add_left 9 1)
theorem Room.under{d:Nat}{i:Around}{c:Code}(a:Room d i)(b2:c.isCaller=false)(d6:5<=d):Room (d-5) (i.under c):=by
 have c6:=Fp b2
 have c5:=Gz c
 refine⟨?_,?_,a.handled,?_,?_⟩
 ·show i.depth+c.weight+(d-5)<=990
  have:=a.depth; lia
 ·show i.units+c.cUnits+2*(d-5)<=9890
  have:=a.units; lia
 ·obtain⟨l,F⟩:=a.frames
  exact⟨c.envs++l,by show pushEnvs _ _=_; rw[pushEnvs_eq,F]; rfl⟩
 ·obtain⟨l,F⟩:=a.guards
  exact⟨c.guards++l,by show pushGuards _ _=_; rw[pushGuards_eq,F]; rfl⟩
theorem Room.mark{d:Nat}{i:Around}(a:Room d i):Room d (i.mark none):=
 ⟨a.depth,a.units,by show(none:Option Value).or i.handled=none; rw[a.handled]; rfl,a.frames,a.guards⟩
noncomputable def Eg(c:Code)(κ:List Fm):Prop:=c.isCaller=false/\∀m∈κ,m.c.isCaller=false/\m.hd=none
noncomputable abbrev AK:=An×Gs
noncomputable def RepF(n:Cx)(R:An)(T:Gs)(e:AK)(b:Shared):Prop:=Rep n (R++e.1) (T++e.2) b
structure Spec where
 code:Code
 fp:An
 gfp:Gs:=[]
 nf:Nat:=0
 upd:List Nat->List Obj
 new:List Nat->An:=λ_=>[]
 gupd:List Nat->List Gp:=λ_=>[]
 gnew:List Nat->Gs:=λ_=>[]
 res:List Nat->Result
 d:Nat
 pool:Bool:=false
 pre:An:=[]
 post:List Nat->An:=λ_=>[]
 drop:Bool:=false
noncomputable def Spec.LenOk(S:Spec):Prop:=∀q,match S.drop with
 |false=>(S.upd q).length=S.fp.length
 |true=>S.upd q=[]
theorem Spec.lenOk{S:Spec}(hd:S.drop=false)(a1:∀q,(S.upd q).length=S.fp.length):S.LenOk:=λq=>by rw[hd]; exact a1 q
theorem Spec.lenOkD{S:Spec}(hd:S.drop=true)(a1:∀q,S.upd q=[]):S.LenOk:=λq=>by rw[hd]; exact a1 q
noncomputable def Spec.ins(S:Spec):An:=match S.pool with
 |true=>S.pre
 |false=>[]
noncomputable def Spec.outs(S:Spec)(q:List Nat):An:=match S.pool with
 |true=>S.post q
 |false=>[]
noncomputable def Am{β:Type}:List (Nat×β)->List β->List (Nat×β)
 |p::R,a8::d4=>(p.1,a8)::Am R d4
 |_,_=>[]
noncomputable def Ev(n:Cx)(d:Nat)(O:AK->End->Shared->Prop):List Str->AK->End->Shared->Prop
 |[],e=>O e
 |x::f,e=>λF b=>∃b3 l k c p h R T,F = .susp (.str x b3) false l k c p h/\RepF n R T e b/\∀B E,RepF n R T B E->∀i,Room d i->SegX (model pw n.w) i c (k (.send .none)) h E (Ev n d O f B)
theorem FG(n:Cx)(d:Nat)(O:AK->End->Shared->Prop)(a4:List Str):∀(f:List Str) (e:AK),Ev n d (Ev n d O a4) f e=Ev n d O (f++a4) e
 |[],e=>rfl
 |x::f,e=>by
  have a2:=λB=>FG n d O a4 f B
  simp only[List.cons_append,Ev]
  funext F b
  simp only[a2]
structure C9(h:List Frame)(L:Nat):Prop where
 depth:frameCount (h.map Frame.where_)<=L
 units:unitsOf (h.map Frame.where_)<=2*L
 split:splitAtGen h=none
 guarded:h.any Frame.guarded=false
 marks:(marksOver h (none,none)).1=none
noncomputable abbrev At(z e:AK):AK:=(z.1++e.1,z.2++e.2)
structure Spec.GOk(n:Cx)(a4:List Str)(S:Spec):Prop where
 len:S.LenOk
 glen:∀q,(S.gupd q).length=S.gfp.length
 run:∀(z:AK) (h:List Frame) (L d:Nat) (O:AK->End->Shared->Prop) (f:List Str),C9 h L->L+S.d<=d->∀(e:AK) (b:Shared),RepF n (S.fp++S.ins) S.gfp (At z e) b ->
  (∀q B E,q.length=S.nf->RepF n (Am S.fp (S.upd q)++S.new q++S.outs q) (Am S.gfp (S.gupd q)++S.gnew q) (At z B) E->∀i c,Room d i->SegX (model pw n.w) i c (leafOf (S.res q)) h E (Ev n d O f B)) ->
  ∀i,Room d i->SegX (model pw n.w) i S.code (denote table S.code) h b (Ev n d O (a4++f) e)
structure Md where
 Mean:List (List Str)->AK->Code->List Fm->Sem Fin->Shared->Prop
 K:List (List Str)->AK->FU->Shared->Prop
 d:Nat
structure Md.Ok(n:Cx)(M:Md):Prop where
 cmd0:∀{α:Type} {m:Sem α} {k:α->Sem Fin} {f e c κ b},(∀a5,wpAny (model pw n.w) a5 m (λQ E=>M.Mean f e c κ (k Q) E) (λ_ _=>False) b)->M.Mean f e c κ (m.wrap k .raise id id) b
 cmd:∀{α:Type} {m:Sem α} {k:α->Sem Fin} {f e c κ b},Eg c κ->5*(κ.length+1)<=M.d ->
  (∀a5,Room (M.d-5*(κ.length+1)) a5->wpAny (model pw n.w) a5 m (λQ E=>M.Mean f e c κ (k Q) E) (λ_ _=>False) b)->M.Mean f e c κ (m.wrap k .raise id id) b
 point:∀{l:List Value} {k:Unit->Sem Fin} {f e c κ b},M.Mean f e c κ (k ()) b->M.Mean f e c κ (.point l k) b
 alive:∀{Q:Addr} {a8:Obj} {k:Option Obj->Sem Fin} {f e c κ b},b.heap.get? Q=some a8->M.Mean f e c κ (k (some a8)) b->M.Mean f e c κ (.loadIfAlive Q k) b
 handled:∀{k:Option Value->Sem Fin} {f e c κ b},(∀m∈κ,m.hd=none)->M.Mean f e c κ (k none) b->M.Mean f e c κ (.handled false k) b
 call:∀{N:Code} {g:Bool} {l:List Value} {k:Result->Sem Fin} {hd f e c κ b},hd≠some byPass->M.Mean f e N (⟨k,hd,g,l,c⟩::κ) (denote table N) b->M.Mean f e c κ (.call N hd g l k) b
 again:∀{N:Code} {f e c κ b},N.quiet=true->M.Mean f e N κ (denote table N) b->M.Mean f e c κ (.pure (.again N)) b
 stop:∀{N:Code} {f e c b},N.quiet=true->M.K f e (.again N) b->M.Mean f e c [] (.pure (.again N)) b
 stopY:∀{q:Value} {b1:Bool} {l:List Value} {k:Resume->Sem Fin} {f e c κ b},M.K f e (.yld q b1 l k c κ) b->M.Mean f e c κ (.yield q b1 l k) b
 stopT:∀{a3:Sem Fin} {f e c κ b},M.K f e (.tree c κ a3) b->M.Mean f e c κ a3 b
 pop:∀{m:Fm} {P:Result} {f e c κ b},M.Mean f e m.c κ (m.k P) b->M.Mean f e c (m::κ) (leafOf P) b
 done:∀{P:Result} {f e c b},M.K f e (.ret P) b->M.Mean f e c [] (leafOf P) b
 yld:∀{x:Str} {b3:Tok} {l:List Value} {k:Resume->Sem Fin} {f e c κ b R T},(∀m∈κ,m.g=false)->RepF n R T e b->(∀B E,RepF n R T B E->M.Mean f B c κ (k (.send .none)) E) ->
  M.Mean ([x]::f) e c κ (.yield (.str x b3) false l k) b
 many:∀{S:Spec} {a4:List Str} {l:List Value} {k:Result->Sem Fin} {f e c κ b} {z:AK},S.GOk n a4->Eg c κ->(∀m∈κ,m.g=false)->S.d+5*(κ.length+1)<=M.d->RepF n (S.fp++S.ins) S.gfp (At z e) b ->
  (∀q B E,q.length=S.nf->RepF n (Am S.fp (S.upd q)++S.new q++S.outs q) (Am S.gfp (S.gupd q)++S.gnew q) (At z B) E->M.Mean f B c κ (k (S.res q)) E) ->
  M.Mean (a4::f) e c κ (.call S.code none false l k) b
noncomputable def ar(A:Around):List Fm->Around
 |[]=>A
 |m::κ=>((ar A κ).under m.c).mark m.hd
noncomputable def Hu(b6:World)(A:Around)(X:RP):List Fm->RP
 |[]=>X
 |m::κ=>postR pw b6 (ar A κ) m.c (postC pw b6 (ar A κ) (Hu b6 A X κ)) (postE (Hu b6 A X κ)) m.k
noncomputable def TP(n:Cx)(A:Around)(X:RP)(d:Nat)(o:AK):Md where
 Mean:=λf e c κ a3 b=>f=[]/\e=o->wpOwn (model pw n.w) (ar A κ) c a3 (postC pw n.w (ar A κ) (Hu n.w A X κ)) (postE (Hu n.w A X κ)) b
 K:=λf e c0 b=>f=[]/\e=o->match c0 with |.ret P=>X P b |.again c=>codeAny (model pw n.w) A c X b |.yld ..=>False |.tree ..=>False
 d:=d
theorem JE{A:Around}{d:Nat}(a:Room d A):∀(κ:List Fm),(∀m∈κ,m.c.isCaller=false/\m.hd=none)->5*κ.length<=d->Room (d-5*κ.length) (ar A κ)
 |[],_,_=>a
 |m::κ,w,a1=>by
  have c4:5*(κ.length+1)<=d:=a1
  have a9:=JE a κ (λx H=>w x (.tail _ H)) (by lia)
  have d5:=a9.under (w m (.head _)).1 (by lia)
  show Room (d-5*(κ.length+1)) (((ar A κ).under m.c).mark m.hd)
  rw[(w m (.head _)).2]
  have F:d-5*(κ.length+1)=d-5*κ.length-5:=by rfl
  rw[F]
  exact d5.mark
theorem H3{A:Around}(a:A.handled=none):∀(κ:List Fm),(∀m∈κ,m.hd=none)->(ar A κ).handled=none
 |[],_=>a
 |m::κ,w=>by
  show m.hd.or ((ar A κ).under m.c).handled=none
  rw[w m (.head _)]
  show(ar A κ).handled=none
  exact H3 a κ λx H=>w x (.tail _ H)
theorem CC(n:Cx)(A:Around)(X:RP)(d:Nat)(o:AK)(c2:Room d A):(TP n A X d o).Ok n where
 cmd0:=λ{α m k f e c κ b} a D=>by
  rw[<-Sem.bind_eq_wrap]
  exact wpOwn_bind (wpOwn_of_wpAny (wpAny_mono (a _) (λQ E x=>x D) λ_ _ x=>x.elim))
 cmd:=λ{α m k f e c κ b} a0 a1 a D=>by
  rw[<-Sem.bind_eq_wrap]
  refine wpOwn_bind (wpOwn_of_wpAny (wpAny_mono (a _ ?_) (λQ E x=>x D) λ_ _ x=>x.elim))
  have c4:5*(κ.length+1)<=d:=a1
  have a9:=(JE c2 κ a0.2 (by lia)).under a0.1 (by lia)
  have F:d-5*(κ.length+1)=d-5*κ.length-5:=by rfl
  show Room (d-5*(κ.length+1)) _
  rw[F]; exact a9
 point:=λa D=>fun Γ p b2 aΓ=>a D Γ p b2 aΓ
 alive:=λ{Q a8 k f e c κ b} b9 a D=>fun Γ p b2 aΓ=>by
  show Sem.wp _ _ (k (b.heap.get? Q)) _ _ _ _
  rw[b9]; exact a D Γ p b2 aΓ
 handled:=λ{k f e c κ b} w a D=>by
  refine y_handled _ _ _ _ _ _ _ _ _ ?_
  rw[H3 c2.handled κ w]
  exact a D
 call:=λ{N g l k hd f e c κ b} c3 a D=>y_call _ _ _ _ _ _ _ _ _ _ _ _ _ c3 (y_code _ _ _ _ _ _ (a D))
 again:=λ{N f e c κ b} a7 a D=>y_pure _ _ _ _ _ _ _ _ _ (y_again _ _ _ _ _ _ a7 (y_code _ _ _ _ _ _ (a D)))
 stop:=λ{N f e c b} a7 a D=>y_pure _ _ _ _ _ _ _ _ _ (y_again _ _ _ _ _ _ a7 (a D))
 stopY:=λa D=>(a D).elim
 stopT:=λa y=>(a y).elim
 pop:=λ{m P f e c κ b} a D=>by
  have c7:Hu n.w A X (m::κ) P b:=a D
  cases P with
  |ok c8=>exact y_pure _ _ _ _ _ _ _ _ _ (y_done _ _ _ _ _ _ c7)
  |error F=>exact y_raise _ _ _ _ _ _ _ _ _ (y_err _ _ _ c7)
 done:=λ{P f e c b} a D=>by
  have a:=a D
  cases P with
  |ok c8=>exact y_pure _ _ _ _ _ _ _ _ _ (y_done _ _ _ _ _ _ a)
  |error F=>exact y_raise _ _ _ _ _ _ _ _ _ (y_err _ _ _ a)
 yld:=λ_ _ _ D=>by cases D.1
 many:=λ_ _ _ _ _ _ D=>by cases D.1
inductive DQ(t:List Frame):List Fm->List Frame->Prop where
 |nil:DQ t [] t
 |cons {m:Fm} {p:Pos} {kp:List Value} {κ h}:DQ t κ h->DQ t (m::κ) (.ret m.k m.hd m.g m.l m.c p kp::h)
theorem C9.nil:C9 [] 0:=⟨Nat.le_refl _,Nat.le_refl _,rfl,rfl,rfl⟩
theorem DQ.split{t h:List Frame}{κ:List Fm}(a:DQ t κ h)(G:splitAtGen t=none):splitAtGen h=none:=by
 induction a with
 |nil=>exact G
 |cons _ a2=>simp[splitAtGen,a2]
theorem DQ.guarded{t h:List Frame}{κ:List Fm}(a:DQ t κ h)(G:t.any Frame.guarded=false)(w:∀m∈κ,m.g=false):h.any Frame.guarded=false:=by
 induction a with
 |nil=>exact G
 | @cons m p kp κ h _ a2=>
  rw[List.any_cons,a2 λx H=>w x (.tail _ H)]
  show(m.g||false)=false
  rw[w m (.head _)]; rfl
theorem DQ.marks{t h:List Frame}{κ:List Fm}(a:DQ t κ h)(G:(marksOver t (none,none)).1=none)(w:∀m∈κ,m.hd=none):(marksOver h (none,none)).1=none:=by
 induction a with
 |nil=>exact G
 | @cons m p kp κ h _ a2=>
  rw[marksOver_cons]
  show markOver m.hd (marksOver h (none,none)).1 _=none
  rw[w m (.head _)]
  exact a2 λx H=>w x (.tail _ H)
theorem DQ.count{t h:List Frame}{κ:List Fm}{L:Nat}(a:DQ t κ h)(G:C9 t L)(w:∀m∈κ,m.c.isCaller=false) :
  frameCount (h.map Frame.where_)<=L+5*κ.length/\unitsOf (h.map Frame.where_)<=2*(L+5*κ.length):=by
 induction a with
 |nil=>exact⟨by simpa using G.depth,by simpa using G.units⟩
 | @cons m p kp κ h _ a2=>
  obtain⟨Q,b7⟩:=a2 λx H=>w x (.tail _ H)
  have c6:=Fp (w m (.head _))
  have c5:=Gz m.c
  have F:(Frame.ret m.k m.hd m.g m.l m.c p kp).where_=(m.c,p):=rfl
  rw[List.map_cons,F,frameCount_cons,unitsOf_cons,List.length_cons]
  lia
theorem DQ.ok{t h:List Frame}{κ:List Fm}{L:Nat}(a:DQ t κ h)(G:C9 t L)(w:∀m∈κ,m.c.isCaller=false/\m.hd=none)(d1:∀m∈κ,m.g=false):C9 h (L+5*κ.length):=by
 obtain⟨Q,b7⟩:=a.count G λm H=>(w m H).1
 exact⟨Q,b7,a.split G.split,a.guarded G.guarded d1,a.marks G.marks λm H=>(w m H).2⟩
noncomputable def Vd(n:Cx)(z:AK)(t:List Frame)(d a6:Nat)(O:AK->End->Shared->Prop):Md where
 Mean:=λf e c κ a3 b=>∀o,e=At z o->∀i,Room d i->∀h,DQ t κ h->SegX (model pw n.w) i c a3 h b (Ev n d O f.flatten o)
 K:=λf e c0 b=>∀o,e=At z o->∀i,Room d i->match c0 with
  |.ret P=>∀c,SegX (model pw n.w) i c (leafOf P) t b (Ev n d O f.flatten o)
  |.again c=>SegX (model pw n.w) i c (denote table c) t b (Ev n d O f.flatten o)
  |.yld q b1 l k c κ=>∀h,DQ t κ h->SegX (model pw n.w) i c (.yield q b1 l k) h b (Ev n d O f.flatten o)
  |.tree c κ a3=>∀h,DQ t κ h->SegX (model pw n.w) i c a3 h b (Ev n d O f.flatten o)
 d:=a6
theorem HD{i:Around}{c:Code}{t h:List Frame}{κ:List Fm}{L d:Nat}(s:Room d i)(a:DQ t κ h)(G:C9 t L)(a0:Eg c κ)(a1:L+5*(κ.length+1)<=d) :
  Room (d-L-5*(κ.length+1)) (i.over c h):=by
 obtain⟨Q,b7⟩:=a.count G λm w=>(a0.2 m w).1
 have c6:=Fp a0.1
 have c5:=Gz c
 refine⟨?_,?_,?_,?_,?_⟩
 ·show i.depth+frameCount (h.map Frame.where_)+c.weight+(d-L-5*(κ.length+1))<=990
  have:=s.depth; lia
 ·show i.units+unitsOf (h.map Frame.where_)+c.cUnits+2*(d-L-5*(κ.length+1))<=9890
  have:=s.units; lia
 ·show(marksOver h (i.handled,i.handled)).1=none
  rw[s.handled]; exact a.marks G.marks λm w=>(a0.2 m w).2
 ·obtain⟨l,F⟩:=s.frames
  exact⟨c.envs++(envsOf (h.map Frame.where_)++l),by show pushEnvs _ (pushEnvs _ _)=_; rw[pushEnvs_eq,pushEnvs_eq,F]; rfl⟩
 ·obtain⟨l,F⟩:=s.guards
  exact⟨c.guards++(guardsOf (h.map Frame.where_)++l),by show pushGuards _ (pushGuards _ _)=_; rw[pushGuards_eq,pushGuards_eq,F]; rfl⟩
theorem JC(n:Cx)(z:AK)(t:List Frame)(L d a6:Nat)(O:AK->End->Shared->Prop)(G:C9 t L)(d8:L+a6<=d):(Vd n z t d a6 O).Ok n where
 cmd0:=λ{α m k f e c κ b} a o y i s h r=>
  s_cmd _ _ _ _ _ _ (wpAny_mono (a _) (λQ E x=>x o y i s h r) λ_ _ x=>x.elim)
 cmd:=λ{α m k f e c κ b} a0 a1 a o y i s h r=>by
  have c4:5*(κ.length+1)<=a6:=a1
  exact s_cmd _ _ _ _ _ _ (wpAny_mono (a _ ((HD s r G a0 (by lia)).mono (by show a6-_<=_; omega))) (λQ E x=>x o y i s h r) λ_ _ x=>x.elim)
 point:=λ{l k f e c κ b} a o y i s h r=>s_skim _ _ _ _ _ _ b (.point l k) 1 (a o y i s h r)
 alive:=λ{Q a8 k f e c κ b} b9 a o y i s h r=>s_alive _ _ _ _ _ _ _ _ _ _ _ _ _ _ b9 (a o y i s h r)
 handled:=λ{k f e c κ b} w a o y i s h r=>by
  refine s_handled _ _ _ _ _ _ b k ?_
  have F:(i.over c h).handled=none:=by
   show(marksOver h (i.handled,i.handled)).1=none
   rw[s.handled]; exact r.marks G.marks w
  rw[F]; exact a o y i s h r
 call:=λ{N g l k hd f e c κ b} c3 a o y i s h r=>s_call _ _ _ _ _ _ _ _ _ _ _ _ λp=>a o y i s _ (.cons (m:=⟨k,hd,g,l,c⟩) r)
 again:=λ{N f e c κ b} a7 a o y i s h r=>s_again _ _ _ _ _ _ _ _ a7 (a o y i s h r)
 stop:=λ{N f e c b} a7 a o y i s h r=>by cases r; exact s_again _ _ _ _ _ _ _ _ a7 (a o y i s)
 stopY:=λa o y i s h r=>a o y i s h r
 stopT:=λa o y i s h r=>a o y i s h r
 pop:=λ{m P f e c κ b} a o y i s h r=>by
  cases r with
  |cons r=>exact s_pop _ _ _ _ _ _ _ P _ rfl _ _ _ _ _ _ _ (a o y i s _ r)
 done:=λ{P f e c b} a o y i s h r=>by cases r; exact a o y i s c
 yld:=λ{x b3 l k f e c κ b R T} w b4 a o y i s h r=>by
  subst y
  refine s_yield _ _ _ _ _ _ _ _ _ _ (r.split G.split) (r.guarded G.guarded w) λp=>?_
  have d2:RepF n (R++z.1) (T++z.2) o b:=by
   show Rep n ((R++z.1)++o.1) ((T++z.2)++o.2) b
   rw[List.append_assoc,List.append_assoc]; exact b4
  refine⟨b3,l,k,c,p,h,R++z.1,T++z.2,rfl,d2,λB E b5 a5 b8=>a (At z B) E ?_ B rfl a5 b8 h r⟩
  have a9:Rep n ((R++z.1)++B.1) ((T++z.2)++B.2) E:=b5
  rw[List.append_assoc,List.append_assoc] at a9
  exact a9
 many:=λ{S a4 l k f e c κ b b0} c9 a0 w hd b4 a o y i s h r=>by
  subst y
  have d7:S.d+5*(κ.length+1)<=a6:=hd
  refine s_call _ _ _ _ _ _ _ _ _ _ _ _ λp=>?_
  have d0:DQ t (⟨k,none,false,l,c⟩::κ) (.ret k none false l c p []::h):=.cons (m:=⟨k,none,false,l,c⟩) r
  have ok:=d0.ok G (λm H=>by
   rcases List.mem_cons.mp H with rfl |H
   ·exact⟨a0.1,rfl⟩
   ·exact a0.2 m H) (λm H=>by
   rcases List.mem_cons.mp H with rfl |H
   ·rfl
   ·exact w m H)
  rw[List.length_cons] at ok
  have F:∀B,At (At b0 z) B=At b0 (At z B):=λB=>by
   show((b0.1++z.1)++B.1,(b0.2++z.2)++B.2)=_
   rw[List.append_assoc,List.append_assoc]
  rw[<-F] at b4
  refine c9.run (At b0 z) _ _ d O f.flatten ok (by lia) o b b4 (λq B E d3 b5 a5 N b8=>?_) i s
  rw[F] at b5
  exact s_pop _ _ _ _ _ _ _ _ _ rfl _ _ _ _ _ _ _ (a q _ E d3 b5 B rfl a5 b8 h r)
end
section
structure Spec.Ok(K:Cx)(S:Spec):Prop where
 len:S.LenOk
 glen:∀A,(S.gupd A).length=S.gfp.length
 run:∀a1,Room S.d a1->∀(a2:AK) (s:Shared) (a3:RP),RepF K (S.fp++S.ins) S.gfp a2 s ->
  (∀A a7,A.length=S.nf->RepF K (Am S.fp (S.upd A)++S.new A++S.outs A) (Am S.gfp (S.gupd A)++S.gnew A) a2 a7->a3 (S.res A) a7) ->
  ∀g p,wpAny (model pw K.w) a1 (.call S.code none g p .pure) a3 (λ_ _=>False) s
inductive Fb where
 |a (x:Addr)
 |c (x:Code)
 |o (x:An)
 |g (x:Gs)
 |s (x:Str)
 |k (x:List (Code×Pos)->Sem Fin)
 |t (x:Sem Fin)
noncomputable def DK{α:Type}:List α->Nat->Option α
 |[],_=>none
 |x::_,0=>some x
 |_::p,n+1=>DK p n
noncomputable def Ig{α:Type}:List α->Nat->α->List α
 |[],_,_=>[]
 |_::p,0,E=>E::p
 |x::p,n+1,E=>x::Ig p n E
theorem DN{α:Type}:∀(p:List α) (n:Nat),DK p n=p[n]?
 |[],_=>by simp[DK]
 |x::p,0=>rfl
 |x::p,n+1=>by rw[List.getElem?_cons_succ]; exact DN p n
theorem HU{α:Type}(E:α):∀(p:List α) (n:Nat),Ig p n E=p.set n E
 |[],_=>rfl
 |x::p,0=>rfl
 |x::p,n+1=>by rw[List.set_cons_succ]; exact congrArg _ (HU E p n)
noncomputable def BZ{α:Type}:List Nat->List α->Option (List α)
 |[],_=>some []
 |i::q,L=>match DK L i with
  |some y=>match BZ q L with
   |some z=>some (y::z)
   |none=>none
  |none=>none
noncomputable def D1{β:Type}:List Nat->List (Nat×β)->List β->List (Nat×β)
 |i::q,L,o::a0=>match DK L i with
  |some y=>Ig (D1 q L a0) i (y.1,o)
  |none=>L
 |_,L,_=>L
noncomputable def Bf{α:Type}(q:List Nat):Nat->List α->List α
 |_,[]=>[]
 |k,x::L=>match q.any (Nat.beq k) with
  |true=>Bf q (k+1) L
  |false=>x::Bf q (k+1) L
noncomputable def HQ{β:Type}(T:Bool)(q:List Nat)(L:List (Nat×β))(a0:List β):List (Nat×β):=match T with
 |false=>D1 q L a0
 |true=>Bf q 0 L
noncomputable def BL(l:Nat->Nat)(b:Nat):Nat->List Nat
 |0=>[]
 |n+1=>l b::BL l (b+1) n
noncomputable def AZ:List Nat->Bool
 |[]=>true
 |i::q=>match q.any (Nat.beq i) with
  |true=>false
  |false=>AZ q
noncomputable def DB(c:Code):Bool:=PySem.W.ZFast.zw2167841511373827401 c
theorem EP(c:Code):c.isCaller=DB c:=congrFun PySem.W.ZFast.ze2167841511373827401 c
noncomputable def Ej:List Fm->Bool
 |[]=>true
 |m::κ=>match DB m.c with
  |true=>false
  |false=>match m.hd with
   |some _=>false
   |none=>Ej κ
noncomputable def Du:List Fm->Bool
 |[]=>true
 |m::κ=>match m.hd with
   |some _=>false
   |none=>Du κ
noncomputable def CE:List Fm->Bool
 |[]=>true
 |m::κ=>match m.g with
  |true=>false
  |false=>CE κ
noncomputable def HX:List Fm->Nat
 |[]=>5
 |_::κ=>HX κ+5
noncomputable def Hj(N:List (Code×Pos)):Sem Unit:=match PySem.W.Fast.tw15066281185411960212 0 with
 |.stack k=>k N
 |t=>t
noncomputable def FL(x:Value)(N:List (Code×Pos)):Sem Unit:=match theTreesLotGoes x with
 |.stack k=>k N
 |t=>t
theorem Nx(x:Value):theTreesLotGoes x = .stack (FL x):=rfl
noncomputable def I6:Nat->Nat
 |0=>10139888712337904147300001983332972444938612
 |_=>2128753998966767838836
noncomputable def Kx:Nat->String
 |0=> "special-get-raises"
 |_=> "set-order"
theorem NT(i:Nat):PySem.W.S.codeS (Kx i)=I6 i:=by
 cases i with
 |zero=>decide +kernel
 |succ i=>show PySem.W.S.codeS "set-order" = 2128753998966767838836; decide +kernel
noncomputable def JY(n:Nat)(T:Bool)(r:Params):Params:={r with followText:=λz=>cond (Nat.beq (PySem.W.S.codeS z) n) T (r.followText z)}
theorem L7(i:Nat)(r:Params):JY (I6 i) (r.followText (Kx i)) r=r:=by
 have X:(λz=>cond (Nat.beq (PySem.W.S.codeS z) (I6 i)) (r.followText (Kx i)) (r.followText z))=r.followText:=by
  funext z
  cases h:Nat.beq (PySem.W.S.codeS z) (I6 i) with
  |false=>rfl
  |true=>
   have:z=Kx i:=PySem.code_inj _ _ (by
    rw[PySem.W.S.code_S,PySem.W.S.code_S,NT]
    exact Nat.eq_of_beq_eq_true h)
   rw[this]; rfl
 unfold JY
 rw[X]
inductive Ys where
 |one (x:Str)
 |many (S:List Nat->Spec) (q M:List Nat) (P:List Str)
noncomputable def Dh:List Ys->List (List Str)
 |[]=>[]
 |.one x::ys=>[x]::Dh ys
 |.many _ _ _ P::ys=>P::Dh ys
noncomputable def Ih(K:Cx):List Ys->Prop
 |[]=>True
 |.one _::ys=>Ih K ys
 |.many S _ _ P::ys=>(∀p,(S p).GOk K P)/\Ih K ys
structure Hy where
 out:FU
 L:An
 B:An
 G:Gs
 ys:List Ys
 eL:List Fb
 eR:List Fb
noncomputable def Gd{β:Type}(n:Nat)(k:Nat->β):β:=match n with
 |0=>k 0
 |m+1=>k (m+1)
theorem Dv{β:Type}(n:Nat)(k:Nat->β):Gd n k=k n:=by cases n <;> rfl
noncomputable abbrev Ty:=Code->List Fm->Sem Fin->An->An->Gs->Nat->List Fb->List Fb->List Ys->List Nat->List ((List Nat->Spec)×List Nat×List Nat)->Option Hy
noncomputable def Ln(f:Ty)(z:Result)(κ:List Fm):An->An->Gs->Nat->List Fb->List Fb->List Ys->List Nat->List ((List Nat->Spec)×List Nat×List Nat)->Option Hy:=match κ with
 |[]=>λL B G _ eL eR ys _ _=>some ⟨.ret z,L,B,G,ys,eL,eR⟩
 |m::κ=>f m.c κ (m.k z)
noncomputable def Dk(F:Nat)(l:Nat->Nat)(f:Ty)(c:Code)(κ:List Fm)(w:Code)(hd:Option Value)(k:Result->Sem Fin)(S:Spec)(q M:List Nat)(L B:An)(G:Gs)(b:Nat)(eL eR:List Fb)(ys:List Ys)(d:List Nat)(e:List ((List Nat->Spec)×List Nat×List Nat)):Option Hy:=
 match hd with
 |some _=>none
 |none=>match DB c with
  |true=>none
  |false=>match Ej κ with
   |false=>none
   |true=>match Nat.ble (S.d+HX κ) F with
    |false=>none
    |true=>match AZ q with
     |false=>none
     |true=>match AZ M with
      |false=>none
      |true=>match BZ q L with
       |none=>none
       |some a4=>match BZ M G with
        |none=>none
        |some a5=>Gd (b+S.nf) λH=>match S.pool with
         |false=>f c κ (k (S.res (BL l b S.nf))) (HQ S.drop q L (S.upd (BL l b S.nf))++S.new (BL l b S.nf)) B (D1 M G (S.gupd (BL l b S.nf))++S.gnew (BL l b S.nf)) H
          (.c w :: .o a4 :: .g a5::eL) (.c S.code :: .o S.fp :: .g S.gfp::eR) ys d e
         |true=>f c κ (k (S.res (BL l b S.nf))) (HQ S.drop q L (S.upd (BL l b S.nf))++S.new (BL l b S.nf)) (S.post (BL l b S.nf)) (D1 M G (S.gupd (BL l b S.nf))++S.gnew (BL l b S.nf)) H
          (.c w :: .o a4 :: .g a5 :: .o B::eL) (.c S.code :: .o S.fp :: .g S.gfp :: .o S.pre::eR) ys d e
noncomputable def Al(r:Params)(O:KT)(F:Nat)(l:Nat->Nat)(f:Ty)(c:Code)(κ:List Fm)(t:Sem Fin):An->An->Gs->Nat->List Fb->List Fb->List Ys->List Nat->List ((List Nat->Spec)×List Nat×List Nat)->Option Hy:=match t with
 |.pure a8=>match a8 with
  |.done Q=>Ln f (.ok Q) κ
  |.again w=>match J4 w with
   |false=>λ_ _ _ _ _ _ _ _ _=>none
   |true=>match κ with
    |[]=>λL B G b eL eR ys d e=>match d with
     |[]=>none
     |h::d=>match h with
      |0=>f w [] (D w) L B G b eL eR ys d e
      |_+1=>some ⟨.again w,L,B,G,ys,eL,eR⟩
    |m::κ=>f w (m::κ) (D w)
 |.raise X=>Ln f (.error X) κ
 |.rule _ k=>f c κ (k ())
 |.at _ k=>f c κ (k ())
 |.point _ k=>f c κ (k ())
 |.ask k=>λL B G b eL eR ys d e=>match d with
  |[]=>none
  |h::d=>match h with
   |0=>f c κ (k ⟨pw,r⟩) L B G b eL eR ys d e
   |i+1=>f c κ (k ⟨pw,JY (I6 i) true r⟩) L B G b (.t (k ⟨pw,JY (I6 i) true r⟩)::eL) (.t (k ⟨pw,JY (I6 i) false r⟩)::eR) ys d e
 |.load a _ k=>λL B G b eL eR ys d e=>match d with
  |[]=>none
  |h::d=>match h with
   |0=>match O.get a with
    |some o=>f c κ (k o) L B G b eL eR ys d e
    |none=>none
   |i+1=>match DK L i with
    |some y=>f c κ (k y.2) L B G b (.a a::eL) (.a y.1::eR) ys d e
    |none=>none
 |.loadIfAlive a k=>λL B G b eL eR ys d e=>match d with
  |[]=>none
  |h::d=>match h with
   |0=>match O.get a with
    |some o=>f c κ (k (some o)) L B G b eL eR ys d e
    |none=>none
   |i+1=>match DK L i with
    |some y=>f c κ (k (some y.2)) L B G b (.a a::eL) (.a y.1::eR) ys d e
    |none=>none
 |.update a _ Q k=>λL B G b eL eR ys d e=>match d with
  |[]=>none
  |h::d=>match h with
   |0=>none
   |i+1=>match DK L i with
    |some y=>match(Q y.2).isFreed with
     |true=>none
     |false=>f c κ (k ()) (Ig L i (y.1,Q y.2)) B G b (.a a::eL) (.a y.1::eR) ys d e
    |none=>none
 |.alloc o k=>λL B G b eL eR ys d e=>match o.isFreed with
  |true=>none
  |false=>Gd (b+1) λH=>f c κ (k (l b)) (L++[(l b,o)]) B G H eL eR ys d e
 |.fresh k=>λL B G b eL eR ys d e=>Gd (b+1) λH=>f c κ (k (l b)) L B G H eL eR ys d e
 |.handled b1 k=>match b1 with
  |true=>λ_ _ _ _ _ _ _ _ _=>none
  |false=>match Du κ with
   |false=>λ_ _ _ _ _ _ _ _ _=>none
   |true=>f c κ (k none)
 |.call w hd g p k=>λL B G b eL eR ys d e=>match d with
  |[]=>none
  |h::d=>match h with
   |0=>match okMark hd with
    |false=>none
    |true=>f w (⟨k,hd,g,p,c⟩::κ) (D w) L B G b eL eR ys d e
   |_+2=>match g with
    |true=>none
    |false=>match CE κ with
     |false=>none
     |true=>match ys with
      |.many S q M P::ys=>Dk F l f c κ w hd k (S (BL l 0 b)) q M L B G b eL eR ys d e
      |_=>none
   |1=>match e with
    |[]=>none
    |x::e=>Dk F l f c κ w hd k (x.1 (BL l 0 b)) x.2.1 x.2.2 L B G b eL eR ys d e
 |.newGen w k=>λL B G b eL eR ys d e=>Gd (b+1) λH=>f c κ (k (l b)) L B (G++[(l b,Cl w)]) H eL eR ys d e
 |.yield A a9 p k=>λL B G b eL eR ys d e=>match a9 with
  |true=>none
  |false=>match CE κ with
   |false=>none
   |true=>match A with
    |.str x _=>match ys with
     |.one E::ys=>f c κ (k (.send .none)) L B G b (.s x::eL) (.s E::eR) ys d e
     |_=>none
    |.ref a=>some ⟨.yld (.ref a) false p k c κ,L,B,G,ys,eL,eR⟩
    |_=>none
 |.stack k=>λL B G b eL eR ys d e=>match DB c with
  |true=>none
  |false=>match Ej κ with
   |false=>none
   |true=>match Nat.ble (HX κ) F with
    |false=>none
    |true=>match k [] with
     |.load a _ R=>match O.get a with
      |some o=>f c κ (R o) L B G b (.k k::eL) (.k (λN=>PySem.W.R.bindR (Hj N) λ_=>R o)::eR) ys d e
      |none=>none
     |.at _ R=>match R () with
      |.point p b0=>match p with
       |[]=>none
       |x::_=>match b0 () with
        |.at _ a6=>f c κ (a6 ()) L B G b (.k k::eL) (.k (λN=>PySem.W.R.bindR (FL x N) λ_=>a6 ())::eR) ys d e
        |_=>none
      |_=>none
     |_=>none
 |_=>λ_ _ _ _ _ _ _ _ _=>none
noncomputable def AE(r:Params)(O:KT)(F:Nat)(l:Nat->Nat):Nat->Ty
 |0=>λc κ t L B G _ eL eR ys _ _=>some ⟨.tree c κ t,L,B,G,ys,eL,eR⟩
 |n+1=>Al r O F l (AE r O F l n)
end
section
theorem M8{α:Type}{a2:List α}{i:Nat}{x X:α}(a:a2[i]?=some x):∃a3 c9,a2=a3++x::c9/\a2.set i X=a3++X::c9:=by
 obtain⟨c4,l9⟩:=List.getElem?_eq_some_iff.mp a
 refine⟨a2.take i,a2.drop (i+1),?_,?_⟩
 ·rw[<-l9,<-List.drop_eq_getElem_cons c4,List.take_append_drop]
 ·exact List.set_eq_take_append_cons_drop.trans (if_pos c4)
theorem EL{i:Nat}{l:List Nat}(a:AZ (i::l)=true):i∉l/\AZ l=true:=by
 unfold AZ at a
 cases r:l.any (Nat.beq i) with
 |true=>rw[r] at a; cases a
 |false=>
  rw[r] at a
  refine⟨λf1=>?_,a⟩
  have:=List.any_eq_false.mp r i f1
  exact this (Nat.beq_refl i)
theorem Iz{β:Type}:∀{l:List Nat} {b a9:List β},BZ l b=some a9->∀y∈a9,∃b0∈l,b[b0]?=some y:=by
 intro n5
 induction n5 with
 |nil=>
  intro _ _ a y c3
  cases a; cases c3
 |cons i l f3=>
  intro b a9 a y c3
  unfold BZ at a
  cases G:DK b i with
  |none=>rw[G] at a; cases a
  |some r=>
   rw[G] at a
   cases Q:BZ l b with
   |none=>rw[Q] at a; cases a
   |some d=>
    rw[Q] at a
    cases a
    rcases List.mem_cons.mp c3 with rfl |c3
    ·exact⟨i,.head _,(DN b i)▸G⟩
    ·obtain⟨b0,f6,a⟩:=f3 Q y c3
     exact⟨b0,.tail _ f6,a⟩
theorem D4{β:Type}{b:List (Nat×β)}(g4:(b.map (·.1)).Nodup):∀{l:List Nat} {a9:List (Nat×β)},AZ l=true->BZ l b=some a9 ->
  a9.length=l.length/\∃b6,b.Perm (a9++b6)/\∀e4:List β,e4.length=l.length->(D1 l b e4).Perm (Am a9 e4++b6)/\∀i,i∉l->(D1 l b e4)[i]?=b[i]?:=by
 intro l
 induction l with
 |nil=>
  intro a9 _ a
  cases a
  refine⟨rfl,b,List.Perm.refl _,λe4 i7=>?_⟩
  have:e4=[]:=List.length_eq_zero_iff.mp i7
  subst this
  exact⟨List.Perm.refl _,λ_ _=>rfl⟩
 |cons i l f3=>
  intro a9 hd a
  obtain⟨c2,hd⟩:=EL hd
  unfold BZ at a
  cases G:DK b i with
  |none=>rw[G] at a; cases a
  |some y=>
   rw[G] at a
   cases Q:BZ l b with
   |none=>rw[Q] at a; cases a
   |some d=>
    rw[Q] at a
    cases a
    obtain⟨m0,b6,c3,c4⟩:=f3 hd Q
    have j3:b[i]?=some y:=(DN b i)▸G
    have f1:y∈b6:=by
     have:y∈d++b6:=c3.mem_iff.mp (List.mem_of_getElem? j3)
     rcases List.mem_append.mp this with r |r
     ·exfalso
      obtain⟨b0,f6,a⟩:=Iz Q y r
      obtain⟨A,P⟩:=List.getElem?_eq_some_iff.mp j3
      obtain⟨M,l2⟩:=List.getElem?_eq_some_iff.mp a
      have:i=b0:=(List.getElem_inj (xs:=b.map (·.1)) (h₀:=by rw[List.length_map]; exact A) (h₁:=by rw[List.length_map]; exact M) g4).mp (by rw[List.getElem_map,List.getElem_map,P,l2])
      subst this
      exact c2 f6
     ·exact r
    obtain⟨g2,k,rfl⟩:=List.append_of_mem f1
    refine⟨by simp[m0],g2++k,?_,λe4 i7=>?_⟩
    ·refine c3.trans ?_
     have:(d++(g2++y::k)).Perm (y::(d++(g2++k))):=by
      rw[<-List.append_assoc,<-List.append_assoc]; exact List.perm_middle
     exact this
    ·cases e4 with
     |nil=>cases i7
     |cons a5 e4=>
      obtain⟨h8,f5⟩:=c4 e4 (by simpa using i7)
      have a4:D1 (i::l) b (a5::e4)=(D1 l b e4).set i (y.1,a5):=by
       show(match DK b i with |some y=>Ig (D1 l b e4) i (y.1,a5) |none=>b)=_
       rw[G]; exact HU _ _ _
      have l3:(D1 l b e4)[i]?=some y:=(f5 i c2).trans j3
      obtain⟨a3,c9,l4,l5⟩:=M8 (X:=(y.1,a5)) l3
      refine⟨?_,λb0 f6=>?_⟩
      ·rw[a4,l5]
       have A:(a3++y::c9).Perm (y::(a3++c9)):=List.perm_middle
       have M:(Am d e4++(g2++y::k)).Perm (y::(Am d e4++(g2++k))):=by
        rw[<-List.append_assoc,<-List.append_assoc]; exact List.perm_middle
       have f9:(y::(a3++c9)).Perm (y::(Am d e4++(g2++k))):=A.symm.trans ((l4▸h8).trans M)
       have g0:(a3++c9).Perm (Am d e4++(g2++k)):=f9.cons_inv
       exact List.perm_middle.trans (g0.cons (y.1,a5))
      ·rw[a4,List.getElem?_set_ne (λr=>f6 (by rw[<-r]; exact .head _))]
       exact f5 b0 λr=>f6 (.tail _ r)
theorem JW{l:List Nat}{e:Nat}:l.any (Nat.beq e)=true↔e∈l:=by
 rw[List.any_eq_true]
 constructor
 ·rintro ⟨x,d5,G⟩
  exact Nat.eq_of_beq_eq_true G▸d5
 ·intro a
  exact⟨e,a,Nat.beq_refl e⟩
theorem IT{α:Type}{l:List Nat}{i:Nat}:∀(b:List α) (e:Nat),i<e->Bf (i::l) e b=Bf l e b
 |[],_,_=>rfl
 |x::b,e,a=>by
  have G:(i::l).any (Nat.beq e)=l.any (Nat.beq e):=by
   rw[List.any_cons]
   have:Nat.beq e i=false:=by
    cases r:Nat.beq e i with
    |false=>rfl
    |true=>have:=Nat.eq_of_beq_eq_true r; omega
   rw[this,Bool.false_or]
  show(match(i::l).any (Nat.beq e) with |true=>Bf (i::l) (e+1) b |false=>x::Bf (i::l) (e+1) b)=(match l.any (Nat.beq e) with |true=>Bf l (e+1) b |false=>x::Bf l (e+1) b)
  rw[G,IT b (e+1) (by omega)]
theorem HV{α:Type}{l:List Nat}{y:α}:∀(b:List α) (e m:Nat),(e+m)∉l->b[m]?=some y->(Bf l e b).Perm (y::Bf ((e+m)::l) e b)
 |[],_,_,_,a=>by simp at a
 |x::b,e,0,f2,a=>by
  have l1:l.any (Nat.beq e)=false:=by
   cases r:l.any (Nat.beq e) with
   |false=>rfl
   |true=>exact absurd (JW.mp r) f2
  have P:((e+0)::l).any (Nat.beq e)=true:=JW.mpr (List.mem_cons_self ..)
  have l6:x=y:=by simpa using a
  have a3:Bf l e (x::b)=x::Bf l (e+1) b:=by rw[Bf,l1]
  have c9:Bf ((e+0)::l) e (x::b)=Bf ((e+0)::l) (e+1) b:=by rw[Bf,P]
  rw[a3,c9,IT b (e+1) (by omega),l6]
 |x::b,e,m+1,f2,a=>by
  have f3:=HV (l:=l) (y:=y) b (e+1) m (by rw[show e+1+m=e+(m+1) by omega]; exact f2) (by simpa using a)
  rw[show e+1+m=e+(m+1) by omega] at f3
  have G:((e+(m+1))::l).any (Nat.beq e)=l.any (Nat.beq e):=by
   rw[List.any_cons]
   have:Nat.beq e (e+(m+1))=false:=by
    cases r:Nat.beq e (e+(m+1)) with
    |false=>rfl
    |true=>have:=Nat.eq_of_beq_eq_true r; omega
   rw[this,Bool.false_or]
  cases r:l.any (Nat.beq e) with
  |true=>
   have a3:Bf l e (x::b)=Bf l (e+1) b:=by rw[Bf,r]
   have c9:Bf ((e+(m+1))::l) e (x::b)=Bf ((e+(m+1))::l) (e+1) b:=by rw[Bf,G,r]
   rw[a3,c9]; exact f3
  |false=>
   have a3:Bf l e (x::b)=x::Bf l (e+1) b:=by rw[Bf,r]
   have c9:Bf ((e+(m+1))::l) e (x::b)=x::Bf ((e+(m+1))::l) (e+1) b:=by rw[Bf,G,r]
   rw[a3,c9]
   exact(f3.cons x).trans (List.Perm.swap ..)
theorem GV{α:Type}{b:List α}:∀{l:List Nat} {a9:List α},AZ l=true->BZ l b=some a9->b.Perm (a9++Bf l 0 b):=by
 intro n5
 induction n5 with
 |nil=>
  intro a9 _ a
  have:a9=[]:=(Option.some.inj a).symm
  subst this
  have:∀(b:List α) (e:Nat),Bf [] e b=b:=λb=>by
   induction b with
   |nil=>intro _; rfl
   |cons x b f3=>intro e; rw[Bf]; show x::Bf [] (e+1) b=_; rw[f3]
  rw[this]; exact List.Perm.refl _
 |cons i l o2=>
  intro a9 hd a
  obtain⟨f2,i6⟩:=EL hd
  simp only[BZ] at a
  cases r:DK b i with
  |none=>rw[r] at a; cases a
  |some y=>
   cases b4:BZ l b with
   |none=>rw[r,b4] at a; cases a
   |some d=>
    rw[r,b4] at a
    have:a9=y::d:=(Option.some.inj a).symm
    subst this
    have f3:=o2 i6 b4
    have a5:=HV (l:=l) (y:=y) b 0 i (by rw[Nat.zero_add]; exact f2) ((DN b i)▸r)
    rw[Nat.zero_add] at a5
    exact f3.trans ((List.Perm.append_left d a5).trans List.perm_middle)
theorem HP{β:Type}{c9:Bool}{l:List Nat}{b a9 b6:List (Nat×β)}{e4:List β}(hd:AZ l=true)(c3:BZ l b=some a9)(y:b.Perm (a9++b6))(h7:a9.length=l.length)(c4:match c9 with |false=>e4.length=a9.length |true=>e4=[])(i0:∀e4:List β,e4.length=l.length->(D1 l b e4).Perm (Am a9 e4++b6)):(HQ c9 l b e4).Perm (Am a9 e4++b6):=by
 cases c9 with
 |false=>exact i0 e4 (c4.trans h7)
 |true=>
  have c4:e4=[]:=c4
  subst c4
  have G:Am a9 ([]:List β)=[]:=by cases a9 <;> rfl
  rw[G,List.nil_append]
  exact(List.perm_append_left_iff a9).mp ((GV hd c3).symm.trans y)
theorem Fq:∀{κ:List Fm},Ej κ=true->∀m∈κ,m.c.isCaller=false/\m.hd=none
 |[],_,_,f1=>by cases f1
 |m::κ,a,x,d5=>by
  unfold Ej at a
  cases G:DB m.c with
  |true=>rw[G] at a; cases a
  |false=>
   rw[G] at a
   cases Q:m.hd with
   |some _=>rw[Q] at a; cases a
   |none=>
    rw[Q] at a
    rcases List.mem_cons.mp d5 with rfl |d5
    ·exact⟨(EP _).trans G,Q⟩
    ·exact Fq a x d5
theorem Fl:∀{κ:List Fm},Du κ=true->∀m∈κ,m.hd=none
 |[],_,_,f1=>by cases f1
 |m::κ,a,x,d5=>by
  unfold Du at a
  cases Q:m.hd with
  |some _=>rw[Q] at a; cases a
  |none=>
   rw[Q] at a
   rcases List.mem_cons.mp d5 with rfl |d5
   ·exact Q
   ·exact Fl a x d5
theorem E2:∀{κ:List Fm},CE κ=true->∀m∈κ,m.g=false
 |[],_,_,f1=>by cases f1
 |m::κ,a,x,d5=>by
  unfold CE at a
  cases Q:m.g with
  |true=>rw[Q] at a; cases a
  |false=>
   rw[Q] at a
   rcases List.mem_cons.mp d5 with rfl |d5
   ·exact Q
   ·exact E2 a x d5
theorem HI:∀ κ:List Fm,HX κ=5*(κ.length+1)
 |[]=>rfl
 |m::κ=>by show HX κ+5=_; rw[HI κ,List.length_cons]; omega
theorem DP{g i4:Nat->Nat}:∀(n q:Nat),(∀i,q<=i->i<q+n->g i=i4 i)->BL g q n=BL i4 q n
 |0,_,_=>rfl
 |n+1,q,a=>by
  show g q::BL g (q+1) n=i4 q::BL i4 (q+1) n
  rw[a q (Nat.le_refl _) (by omega),DP n (q+1) λi A M=>a i (by omega) (by omega)]
theorem R2(k:List Nat)(q:Nat)(g:Nat->Nat)(a:∀i,i<k.length->g (q+i)=k.getD i 0):BL g q k.length=k:=by
 induction k generalizing q with
 |nil=>rfl
 |cons x k f3=>
  show g q::BL g (q+1) k.length=_
  rw[f3 (q+1) λi c2=>by rw[show q+1+i=q+(i+1) from by omega]; exact a (i+1) (by simp; omega)]
  have:=a 0 (by simp)
  rw[Nat.add_zero] at this
  rw[this]; rfl
theorem Jg{α:Type}(a3 d n d4:List α):((a3++d)++n++d4).Perm ((a3++n)++(d++d4)):=by
 rw[List.append_assoc,List.append_assoc,List.append_assoc]
 refine List.Perm.append_left _ ?_
 rw[<-List.append_assoc,<-List.append_assoc]
 exact List.Perm.append_right _ List.perm_append_comm
theorem Rep.gperm{c:Cx}{b:An}{t b8:Gs}{h:Shared}(L:Rep c b t h)(a:b8.Perm t):Rep c b b8 h:=
 ⟨L.get,L.nd,L.hi,L.old,L.size,λy c3=>L.gens y (a.mem_iff.mp c3),(a.map _).nodup_iff.mpr L.gnd,L.bare,L.os⟩
noncomputable def PO(c:Cx)(O:Md)(d:Hy):Prop:=d.eL=d.eR/\∀f h,RepF c (d.L++d.B) d.G f h->O.K (Dh d.ys) f d.out h
noncomputable abbrev Jw(c:Cx)(O:Md)(a5:Option Hy):Prop:=∃d,a5=some d/\PO c O d
theorem Jw.no{c:Cx}{O:Md}{o1:Prop}(a:Jw c O none):o1:=nomatch a.choose_spec.1
theorem Jw.fine{c:Cx}{O:Md}{d:Hy}(a:Jw c O (some d)):PO c O d:=by
 obtain⟨_,G,a⟩:=a
 exact Option.some.inj G▸a
noncomputable abbrev G2(q:Nat)(p g:Nat->Nat):Prop:=∀i,i<q->g i=p i
noncomputable abbrev Ex(c:Cx)(O:Md)(n:Nat)(w:Code)(κ:List Fm)(b0:Sem Fin)(b z:An)(t:Gs)(q:Nat)(a4 a6:List Fb)(E:List Ys)(H:List Nat)(K:List ((List Nat->Spec)×List Nat×List Nat))(p:Nat->Nat):Prop:=
 ∀g,G2 q p g->Jw c O (AE c.w.params c.kt O.d g n w κ b0 b z t q a4 a6 E H K)
noncomputable abbrev RH(c:Cx)(O:Md)(w:Code)(κ:List Fm)(b0:Sem Fin)(b z:An)(t:Gs)(a4 a6:List Fb)(E:List Ys):Prop:=
 a4=a6/\∀f h,RepF c (b++z) t f h->O.Mean (Dh E) f w κ b0 h
noncomputable def WE(c:Cx)(O:Md)(n:Nat):Prop:=∀{w κ b0 b z t q a4 a6 E H K p},(∀x∈K,∀a2,(x.1 a2).Ok c)->Ih c E->Ex c O n w κ b0 b z t q a4 a6 E H K p->RH c O w κ b0 b z t a4 a6 E
theorem Jd(p:Nat->Nat)(q a3:Nat):∃F:Nat->Nat,F q=a3/\G2 q p F:=
 ⟨λi=>if i=q then a3 else p i,if_pos rfl,λ_ c2=>if_neg (Nat.ne_of_lt c2)⟩
theorem G2.up{q:Nat}{p F g:Nat->Nat}(a:G2 q p F)(N:G2 (q+1) F g):G2 q p g:=λi c2=>(N i (Nat.lt_succ_of_lt c2)).trans (a i c2)
theorem G2.self{q:Nat}{g:Nat->Nat}:G2 q g g:=λ_ _=>rfl
theorem CG{α:Type}{a3 c9:α}{a2 m:List α}(a:a3::a2=c9::m):a3=c9/\a2=m:=List.cons.inj a
theorem Jw.nf{c:Cx}{O:Md}{m:Nat}{d4:Nat->Option Hy}(a:Jw c O (Gd m d4)):Jw c O (d4 m):=Dv m d4▸a
theorem Wy{c:Cx}{b z:An}{t:Gs}{f:AK}{h:Shared}{i:Nat}{y:Addr×Obj}(s:RepF c (b++z) t f h)(r:DK b i=some y):h.heap.get? y.1=some y.2:=
 s.get y (List.mem_append_left _ (List.mem_append_left _ (List.mem_of_getElem? ((DN b i)▸r))))
theorem WF{c:Cx}(d8:c.Ok){b z:An}{t:Gs}{f:AK}{h:Shared}{i:Nat}{y:Addr×Obj}{d4:Obj->Obj}(s:RepF c (b++z) t f h)(r:DK b i=some y)(b4:(d4 y.2).isFreed=false) :
  RepF c (Ig b i (y.1,d4 y.2)++z) t f {h with heap:=h.heap.update y.1 d4}:=by
 have f8:b[i]?=some (y.1,y.2):=(DN b i)▸r
 have c4:i<b.length:=(List.getElem?_eq_some_iff.mp f8).1
 have g3:i<(b++z).length:=by rw[List.length_append]; exact Nat.lt_of_lt_of_le c4 (Nat.le_add_right _ _)
 have a0:=Rep.update d8 s (s:=i) (k:=y.1) (h:=y.2) (p:=d4) (by rw[List.getElem?_append_left g3,List.getElem?_append_left c4]; exact f8) b4
 rw[List.set_append_left _ _ g3,List.set_append_left _ _ c4] at a0
 show Rep c (Ig b i (y.1,d4 y.2)++z++f.1) _ _
 rw[HU]; exact a0
theorem Kh{c:Cx}{O:Md}{w:Code}{κ:List Fm}{b i8:An}{t:Gs}{E g7:List Ys}{S:Spec}{l b7:List Nat}{e:Result->Sem Fin}{f0:Bool}{a2:List Value}(k3:S.LenOk)(k2:∀k,(S.gupd k).length=S.gfp.length)(j0:∀(o f:AK) h,RepF c (S.fp++S.ins) S.gfp (At o f) h->(∀k b5 B,k.length=S.nf->RepF c (Am S.fp (S.upd k)++S.new k++S.outs k) (Am S.gfp (S.gupd k)++S.gnew k) (At o b5) B->O.Mean (Dh g7) b5 w κ (e (S.res k)) B)->O.Mean (Dh E) f w κ (.call S.code none f0 a2 e) h)(c7:AZ l=true)(d6:AZ b7=true)(e7:BZ l b=some S.fp)(i2:BZ b7 t=some S.gfp)(f3:∀k,k.length=S.nf->∀b5 B,RepF c ((HQ S.drop l b (S.upd k)++S.new k)++(S.outs k++i8)) (D1 b7 t (S.gupd k)++S.gnew k) b5 B->O.Mean (Dh g7) b5 w κ (e (S.res k)) B){f:AK}{h:Shared}(s:RepF c (b++(S.ins++i8)) t f h):O.Mean (Dh E) f w κ (.call S.code none f0 a2 e) h:=by
 have k8:(b.map (·.1)).Nodup:=by
  have:=s.nd
  rw[List.map_append,List.map_append] at this
  exact(List.nodup_append.mp (List.nodup_append.mp this).1).1
 have k7:(t.map (·.1)).Nodup:=by
  have:=s.gnd
  rw[List.map_append] at this
  exact(List.nodup_append.mp this).1
 obtain⟨h7,b6,g5,i0⟩:=D4 k8 c7 e7
 obtain⟨g3,h1,j1,j9⟩:=D4 k7 d6 i2
 refine j0 (b6++i8,h1) f h ?_ (λk b5 B e0 c5=>f3 k e0 b5 B ?_)
 ·have a0:Rep c (b++(S.ins++i8)++f.1) (t++f.2) h:=s
  rw[List.append_assoc,List.append_assoc,<-List.append_assoc b] at a0
  show Rep c (S.fp++S.ins++(b6++i8++f.1)) (S.gfp++(h1++f.2)) h
  rw[List.append_assoc b6,<-List.append_assoc S.gfp]
  exact(a0.perm (((g5.append_right _).append_right _).trans (Jg _ _ _ _)).symm).gperm (j1.append_right _).symm
 ·have j8:(HQ S.drop l b (S.upd k)).Perm (Am S.fp (S.upd k)++b6):=HP c7 e7 g5 h7 (k3 k) (λe4 a=>(i0 e4 a).1)
  have e6:=(j9 (S.gupd k) ((k2 k).trans g3)).1
  have X:Rep c ((Am S.fp (S.upd k)++S.new k++S.outs k)++(b6++i8++b5.1)) ((Am S.gfp (S.gupd k)++S.gnew k)++(h1++b5.2)) B:=c5
  have G:=((j8.append_right (S.new k++S.outs k)).append_right (i8++b5.1)).trans (Jg _ _ _ _)
  rw[List.append_assoc _ i8,List.append_assoc (Am S.fp (S.upd k))] at X
  refine(X.perm ?_).gperm (((e6.append_right _).append_right _).trans (Jg _ _ _ _))
  show(HQ S.drop l b (S.upd k)++S.new k++(S.outs k++i8)++b5.1).Perm _
  rw[List.append_assoc _ (S.outs k++i8),List.append_assoc (S.outs k),<-List.append_assoc _ (S.outs k),List.append_assoc _ (S.new k)]
  exact G
section
variable{c:Cx}(d8:c.Ok){O:Md}(b2:O.Ok c){n:Nat}(b1:WE c O n){w:Code}{κ:List Fm}{b z:An}{t:Gs}{q:Nat}{a4 a6:List Fb}{E:List Ys}{H:List Nat}{K:List ((List Nat->Spec)×List Nat×List Nat)}{p:Nat->Nat}(a1:∀x∈K,∀a2,(x.1 a2).Ok c)(a7:Ih c E)
include b2 b1 a1 a7
theorem W3{d:Result}(o:∀g,G2 q p g->Jw c O (Ln (AE c.w.params c.kt O.d g n) d κ b z t q a4 a6 E H K)):RH c O w κ (leafOf d) b z t a4 a6 E:=by
 cases κ with
 |nil=>
  have e5:=(o p .self).fine
  exact⟨e5.1,λf h s=>b2.done (e5.2 f h s)⟩
 |cons m κ=>
  have a:=b1 a1 a7 o
  exact⟨a.1,λf h s=>b2.pop (a.2 f h s)⟩
theorem Wf{b3:Code}(o:Ex c O (n+1) w κ (.pure (.again b3)) b z t q a4 a6 E H K p):RH c O w κ (.pure (.again b3)) b z t a4 a6 E:=by
 have o:∀g,G2 q p g->Jw c O (Al c.w.params c.kt O.d g (AE c.w.params c.kt O.d g n) w κ (.pure (.again b3)) b z t q a4 a6 E H K):=o
 delta Al at o
 dsimp only at o
 cases r:J4 b3 with
 |false=>rw[r] at o; exact(o p .self).no
 |true=>
  have h8:b3.quiet=true:=(KP b3).trans r
  rw[r] at o
  cases κ with
  |nil=>
   cases H with
   |nil=>exact(o p .self).no
   |cons x H=>
    cases x with
    |zero=>
     have a:=b1 a1 a7 o
     exact⟨a.1,λf h s=>b2.again h8 (GZ▸a.2 f h s)⟩
    |succ x=>
     have e5:=(o p .self).fine
     exact⟨e5.1,λf h s=>b2.stop h8 (e5.2 f h s)⟩
  |cons m κ=>
   have a:=b1 a1 a7 o
   exact⟨a.1,λf h s=>b2.again h8 (GZ▸a.2 f h s)⟩
theorem Wq{e:Setting->Sem Fin}(o:Ex c O (n+1) w κ (.ask e) b z t q a4 a6 E H K p):RH c O w κ (.ask e) b z t a4 a6 E:=by
 cases H with
 |nil=>exact(o p .self).no
 |cons x H=>
  cases x with
  |zero=>
   have a:=b1 a1 a7 o
   exact⟨a.1,λf h s=>b2.cmd0 (m:=ask) (k:=e) λc8=>wpAny_askSetting (a.2 f h s)⟩
  |succ i=>
   have a:=b1 a1 a7 o
   refine⟨(CG a.1).2,λf h s=>b2.cmd0 (m:=ask) (k:=e) λc8=>wpAny_askSetting ?_⟩
   have P:=Fb.t.inj (CG a.1).1
   have G:=L7 i c.w.params
   have a0:=a.2 f h s
   show O.Mean (Dh E) f w κ (e ⟨pw,c.w.params⟩) h
   clear a s o
   generalize c.w.params.followText (Kx i)=c9 at G
   cases c9 with
   |true=>rw[G] at a0; exact a0
   |false=>rw[P,G] at a0; exact a0
include d8
theorem Wn{a3:Addr}{i1:Option Value}{e:Obj->Sem Fin}(o:Ex c O (n+1) w κ (.load a3 i1 e) b z t q a4 a6 E H K p):RH c O w κ (.load a3 i1 e) b z t a4 a6 E:=by
 cases H with
 |nil=>exact(o p .self).no
 |cons x H=>
  cases x with
  |zero=>
   have e3:∀k,c.kt.get a3=k->∀g,G2 q p g->Jw c O (match k with
    |some a5=>AE c.w.params c.kt O.d g n w κ (e a5) b z t q a4 a6 E H K
    |none=>none):=λk r=>by subst r; exact o
   clear o
   cases r:c.kt.get a3 with
   |none=>exact(e3 _ r p .self).no
   |some a5=>
    have a:=b1 a1 a7 (e3 _ r)
    exact⟨a.1,λf h s=>b2.cmd0 (m:=loadPart a3 i1) (k:=e) λc8=>wpAny_loadPart (s.top d8 r) (a.2 f h s)⟩
  |succ i=>
   have e3:∀k,DK b i=k->∀g,G2 q p g->Jw c O (match k with
    |some y=>AE c.w.params c.kt O.d g n w κ (e y.2) b z t q (.a a3::a4) (.a y.1::a6) E H K
    |none=>none):=λk r=>by subst r; exact o
   clear o
   cases r:DK b i with
   |none=>exact(e3 _ r p .self).no
   |some y=>
    have a:=b1 a1 a7 (e3 _ r)
    refine⟨(CG a.1).2,λf h s=>b2.cmd0 (m:=loadPart a3 i1) (k:=e) λc8=>wpAny_loadPart ?_ (a.2 f h s)⟩
    rw[Fb.a.inj (CG a.1).1]
    exact Wy s r
theorem We{a3:Addr}{e:Option Obj->Sem Fin}(o:Ex c O (n+1) w κ (.loadIfAlive a3 e) b z t q a4 a6 E H K p):RH c O w κ (.loadIfAlive a3 e) b z t a4 a6 E:=by
 cases H with
 |nil=>exact(o p .self).no
 |cons x H=>
  cases x with
  |zero=>
   have e3:∀k,c.kt.get a3=k->∀g,G2 q p g->Jw c O (match k with
    |some a5=>AE c.w.params c.kt O.d g n w κ (e (some a5)) b z t q a4 a6 E H K
    |none=>none):=λk r=>by subst r; exact o
   clear o
   cases r:c.kt.get a3 with
   |none=>exact(e3 _ r p .self).no
   |some a5=>
    have a:=b1 a1 a7 (e3 _ r)
    exact⟨a.1,λf h s=>b2.alive (s.top d8 r) (a.2 f h s)⟩
  |succ i=>
   have e3:∀k,DK b i=k->∀g,G2 q p g->Jw c O (match k with
    |some y=>AE c.w.params c.kt O.d g n w κ (e (some y.2)) b z t q (.a a3::a4) (.a y.1::a6) E H K
    |none=>none):=λk r=>by subst r; exact o
   clear o
   cases r:DK b i with
   |none=>exact(e3 _ r p .self).no
   |some y=>
    have a:=b1 a1 a7 (e3 _ r)
    refine⟨(CG a.1).2,λf h s=>b2.alive (a8:=y.2) ?_ (a.2 f h s)⟩
    rw[Fb.a.inj (CG a.1).1]
    exact Wy s r
theorem Wb{a3:Addr}{i1:Option Value}{d4:Obj->Obj}{e:Unit->Sem Fin}(o:Ex c O (n+1) w κ (.update a3 i1 d4 e) b z t q a4 a6 E H K p):RH c O w κ (.update a3 i1 d4 e) b z t a4 a6 E:=by
 cases H with
 |nil=>exact(o p .self).no
 |cons x H=>
  cases x with
  |zero=>exact(o p .self).no
  |succ i=>
   have e3:∀k,DK b i=k->∀g,G2 q p g->Jw c O (match k with
    |some y=>match(d4 y.2).isFreed with
     |true=>none
     |false=>AE c.w.params c.kt O.d g n w κ (e ()) (Ig b i (y.1,d4 y.2)) z t q (.a a3::a4) (.a y.1::a6) E H K
    |none=>none):=λk r=>by subst r; exact o
   clear o
   cases r:DK b i with
   |none=>exact(e3 _ r p .self).no
   |some y=>
    have k0:∀k,(d4 y.2).isFreed=k->∀g,G2 q p g->Jw c O (match k with
     |true=>none
     |false=>AE c.w.params c.kt O.d g n w κ (e ()) (Ig b i (y.1,d4 y.2)) z t q (.a a3::a4) (.a y.1::a6) E H K):=λk b4=>by subst b4; exact e3 _ r
    clear e3
    cases b4:(d4 y.2).isFreed with
    |true=>exact(k0 _ b4 p .self).no
    |false=>
     have a:=b1 a1 a7 (k0 _ b4)
     refine⟨(CG a.1).2,λf h s=>b2.cmd0 (m:=updatePart a3 i1 d4) (k:=e) λc8=>wpAny_updatePart (o:=y.2) ?_ (a.2 f _ ?_)⟩
     ·rw[Fb.a.inj (CG a.1).1]
      exact Wy s r
     ·rw[Fb.a.inj (CG a.1).1]
      exact WF d8 s r b4
omit d8
theorem Wh{a5:Obj}{e:Addr->Sem Fin}(o:Ex c O (n+1) w κ (.alloc a5 e) b z t q a4 a6 E H K p):RH c O w κ (.alloc a5 e) b z t a4 a6 E:=by
 have e3:∀k,a5.isFreed=k->∀g,G2 q p g->Jw c O (match k with
  |true=>none
  |false=>Gd (q+1) λl0=>AE c.w.params c.kt O.d g n w κ (e (g q)) (b++[(g q,a5)]) z t l0 a4 a6 E H K):=λk r=>by subst r; exact o
 clear o
 cases r:a5.isFreed with
 |true=>exact(e3 _ r p .self).no
 |false=>
  have T:∀F,G2 q p F->RH c O w κ (e (F q)) (b++[(F q,a5)]) z t a4 a6 E:=λF A=>b1 (p:=F) (q:=q+1) (H:=H) a1 a7 λg N=>by
   rw[<-N q (Nat.lt_succ_self q)]
   exact(e3 _ r g (A.up N)).nf
  refine⟨(T p .self).1,λf h s=>b2.cmd0 (m:=alloc a5) (k:=e) λc8=>wpAny_alloc ?_⟩
  obtain⟨F,G,A⟩:=Jd p q h.heap.objs.size
  have a0:=(T F A).2 f
  rw[G] at a0
  refine a0 _ ((Rep.alloc s r).perm (List.Perm.append_right _ ?_))
  rw[List.append_assoc,List.append_assoc]
  exact List.Perm.append_left _ List.perm_append_comm
theorem Wj{e:Nat->Sem Fin}(o:Ex c O (n+1) w κ (.fresh e) b z t q a4 a6 E H K p):RH c O w κ (.fresh e) b z t a4 a6 E:=by
 have T:∀F,G2 q p F->RH c O w κ (e (F q)) b z t a4 a6 E:=λF A=>b1 (p:=F) (q:=q+1) (H:=H) a1 a7 λg N=>by
  rw[<-N q (Nat.lt_succ_self q)]
  exact Jw.nf (d4:=λl0=>AE c.w.params c.kt O.d g n w κ (e (g q)) b z t l0 a4 a6 E H K) (o g (A.up N))
 refine⟨(T p .self).1,λf h s=>b2.cmd0 (m:=fresh) (k:=e) λc8=>wpAny_fresh ?_⟩
 obtain⟨F,G,A⟩:=Jd p q h.toks
 have a0:=(T F A).2 f
 rw[G] at a0
 exact a0 _ (Rep.toks s _)
theorem Wc{b3:Code}{e:Nat->Sem Fin}(o:Ex c O (n+1) w κ (.newGen b3 e) b z t q a4 a6 E H K p):RH c O w κ (.newGen b3 e) b z t a4 a6 E:=by
 have T:∀F,G2 q p F->RH c O w κ (e (F q)) b z (t++[(F q,Cl b3)]) a4 a6 E:=λF A=>b1 (p:=F) (q:=q+1) (H:=H) a1 a7 λg N=>by
  rw[<-N q (Nat.lt_succ_self q)]
  exact Jw.nf (d4:=λl0=>AE c.w.params c.kt O.d g n w κ (e (g q)) b z (t++[(g q,Cl b3)]) l0 a4 a6 E H K) (o g (A.up N))
 refine⟨(T p .self).1,λf h s=>b2.cmd0 (m:=newGen b3) (k:=e) λc8=>wpAny_newGen ?_⟩
 obtain⟨F,G,A⟩:=Jd p q h.gens.size
 have a0:=(T F A).2 f
 rw[G] at a0
 exact a0 _ (Rep.newGen s b3)
theorem W7{m3:Bool}{e:Option Value->Sem Fin}(o:Ex c O (n+1) w κ (.handled m3 e) b z t q a4 a6 E H K p):RH c O w κ (.handled m3 e) b z t a4 a6 E:=by
 cases m3 with
 |true=>exact(o p .self).no
 |false=>
  have e3:∀k,Du κ=k->∀g,G2 q p g->Jw c O ((match k with
   |false=>λ_ _ _ _ _ _ _ _ _=>none
   |true=>AE c.w.params c.kt O.d g n w κ (e none)) b z t q a4 a6 E H K):=λk r=>by subst r; exact o
  clear o
  cases r:Du κ with
  |false=>exact(e3 _ r p .self).no
  |true=>
   have a:=b1 a1 a7 (e3 _ r)
   exact⟨a.1,λf h s=>b2.handled (Fl r) (a.2 f h s)⟩
theorem Wd{k:Value}{h0:Bool}{a2:List Value}{e:Resume->Sem Fin}(o:Ex c O (n+1) w κ (.yield k h0 a2 e) b z t q a4 a6 E H K p):RH c O w κ (.yield k h0 a2 e) b z t a4 a6 E:=by
 cases h0 with
 |true=>exact(o p .self).no
 |false=>
  have o:∀g,G2 q p g->Jw c O (Al c.w.params c.kt O.d g (AE c.w.params c.kt O.d g n) w κ (.yield k false a2 e) b z t q a4 a6 E H K):=o
  delta Al at o
  dsimp only at o
  cases r:CE κ with
  |false=>rw[r] at o; exact(o p .self).no
  |true=>
   rw[r] at o
   cases k with
   |str x m5=>
    cases E with
    |nil=>exact(o p .self).no
    |cons X E=>
    cases X with
    |many=>exact(o p .self).no
    |one X=>
     have a:=b1 a1 (show Ih c E from a7) o
     refine⟨(CG a.1).2,λf h s=>?_⟩
     rw[Fb.s.inj (CG a.1).1]
     exact b2.yld (E2 r) s a.2
   |ref a3=>
    have e5:=(o p .self).fine
    exact⟨e5.1,λf h s=>b2.stopY (e5.2 f h s)⟩
   |_=>exact(o p .self).no
omit b2 a7 in
theorem W4{b3:Code}{hd:Option Value}{f0:Bool}{a2:List Value}{e:Result->Sem Fin}{S:Spec}{l b7:List Nat}{g7:List Ys}(i9:Ih c g7)(k3:S.LenOk)(k2:∀k,(S.gupd k).length=S.gfp.length)(j0:Eg w κ->S.d+5*(κ.length+1)<=O.d->∀(o f:AK) h,RepF c (S.fp++S.ins) S.gfp (At o f) h ->
   (∀k b5 B,k.length=S.nf->RepF c (Am S.fp (S.upd k)++S.new k++S.outs k) (Am S.gfp (S.gupd k)++S.gnew k) (At o b5) B->O.Mean (Dh g7) b5 w κ (e (S.res k)) B)->O.Mean (Dh E) f w κ (.call S.code none f0 a2 e) h)(o:∀g,G2 q p g->Jw c O (Dk O.d g (AE c.w.params c.kt O.d g n) w κ b3 hd e S l b7 b z t q a4 a6 g7 H K)):RH c O w κ (.call b3 hd f0 a2 e) b z t a4 a6 E:=by
 cases hd with
 |some _=>exact(o p .self).no
 |none=>
 have e3:∀m8,DB w=m8->∀m9,Ej κ=m9->∀n0,Nat.ble (S.d+HX κ) O.d=n0->∀n1,AZ l=n1->∀n7,AZ b7=n7->∀n8,BZ l b=n8->∀n9,BZ b7 t=n9->∀o0,S.pool=o0->∀g,G2 q p g->Jw c O (match m8 with
  |true=>none
  |false=>match m9 with
   |false=>none
   |true=>match n0 with
    |false=>none
    |true=>match n1 with
     |false=>none
     |true=>match n7 with
      |false=>none
      |true=>match n8 with
       |none=>none
       |some a9=>match n9 with
        |none=>none
        |some k4=>Gd (q+S.nf) λl0=>match o0 with
         |false=>AE c.w.params c.kt O.d g n w κ (e (S.res (BL g q S.nf))) (HQ S.drop l b (S.upd (BL g q S.nf))++S.new (BL g q S.nf)) z (D1 b7 t (S.gupd (BL g q S.nf))++S.gnew (BL g q S.nf)) l0
          (.c b3 :: .o a9 :: .g k4::a4) (.c S.code :: .o S.fp :: .g S.gfp::a6) g7 H K
         |true=>AE c.w.params c.kt O.d g n w κ (e (S.res (BL g q S.nf))) (HQ S.drop l b (S.upd (BL g q S.nf))++S.new (BL g q S.nf)) (S.post (BL g q S.nf)) (D1 b7 t (S.gupd (BL g q S.nf))++S.gnew (BL g q S.nf)) l0
          (.c b3 :: .o a9 :: .g k4 :: .o z::a4) (.c S.code :: .o S.fp :: .g S.gfp :: .o S.pre::a6) g7 H K):=
  λ_ b9 _ b4 _ c6 _ c7 _ d6 _ e7 _ i2 _ g6=>by subst b9 b4 c6 c7 d6 e7 i2 g6; exact o
 clear o
 cases b9:DB w with
 |true=>exact(e3 _ b9 _ rfl _ rfl _ rfl _ rfl _ rfl _ rfl _ rfl p .self).no
 |false=>
 cases b4:Ej κ with
 |false=>exact(e3 _ b9 _ b4 _ rfl _ rfl _ rfl _ rfl _ rfl _ rfl p .self).no
 |true=>
 cases c6:Nat.ble (S.d+HX κ) O.d with
 |false=>exact(e3 _ b9 _ b4 _ c6 _ rfl _ rfl _ rfl _ rfl _ rfl p .self).no
 |true=>
 cases c7:AZ l with
 |false=>exact(e3 _ b9 _ b4 _ c6 _ c7 _ rfl _ rfl _ rfl _ rfl p .self).no
 |true=>
 cases d6:AZ b7 with
 |false=>exact(e3 _ b9 _ b4 _ c6 _ c7 _ d6 _ rfl _ rfl _ rfl p .self).no
 |true=>
 cases e7:BZ l b with
 |none=>exact(e3 _ b9 _ b4 _ c6 _ c7 _ d6 _ e7 _ rfl _ rfl p .self).no
 |some a9=>
 cases i2:BZ b7 t with
 |none=>exact(e3 _ b9 _ b4 _ c6 _ c7 _ d6 _ e7 _ i2 _ rfl p .self).no
 |some k4=>
 have k0:=e3 _ b9 _ b4 _ c6 _ c7 _ d6 _ e7 _ i2
 clear e3
 have j0:=j0 ⟨(EP w).trans b9,Fq b4⟩ (HI κ▸Nat.le_of_ble_eq_true c6)
 have k5:∀k:List Nat,k.length=S.nf->∃F:Nat->Nat,G2 q p F/\BL F q S.nf=k:=λk e0=>by
  refine⟨λi=>if i<q then p i else k.getD (i-q) 0,λi c2=>if_pos c2,?_⟩
  rw[<-e0]
  refine R2 k q _ λi c2=>?_
  show(if q+i<q then _ else _)=_
  rw[if_neg (Nat.not_lt.mpr (Nat.le_add_right q i)),Nat.add_sub_cancel_left]
 have n2:∀{F g},G2 q p F->G2 (q+S.nf) F g->G2 q p g/\BL g q S.nf=BL F q S.nf:=λA N=>
  ⟨λi c2=>(N i (Nat.lt_of_lt_of_le c2 (Nat.le_add_right _ _))).trans (A i c2),DP _ _ λi _ c2=>N i c2⟩
 cases g6:S.pool with
 |false=>
  have T:∀F,G2 q p F->RH c O w κ (e (S.res (BL F q S.nf))) (HQ S.drop l b (S.upd (BL F q S.nf))++S.new (BL F q S.nf)) z (D1 b7 t (S.gupd (BL F q S.nf))++S.gnew (BL F q S.nf))
    (.c b3 :: .o a9 :: .g k4::a4) (.c S.code :: .o S.fp :: .g S.gfp::a6) g7:=λF A=>b1 (p:=F) (q:=q+S.nf) (H:=H) a1 i9 λg N=>by
   rw[<-(n2 A N).2]
   exact(k0 _ g6 g (n2 A N).1).nf
  have c0:=CG (T p .self).1
  have m6:=CG c0.2
  have m7:=CG m6.2
  refine⟨m7.2,λf h s=>?_⟩
  rw[Fb.c.inj c0.1]
  refine Kh (i8:=z) k3 k2 j0 c7 d6 (e7.trans (congrArg some (Fb.o.inj m6.1))) (i2.trans (congrArg some (Fb.g.inj m7.1))) (λk e0 b5 B c5=>?_) ?_
  ·obtain⟨F,A,j5⟩:=k5 k e0
   have a0:=(T F A).2 b5 B
   rw[j5] at a0
   have j2:S.outs k=[]:=by unfold Spec.outs; rw[g6]
   rw[j2] at c5
   exact a0 c5
  ·have f8:S.ins=[]:=by unfold Spec.ins; rw[g6]
   rw[f8]; exact s
 |true=>
  have T:∀F,G2 q p F->RH c O w κ (e (S.res (BL F q S.nf))) (HQ S.drop l b (S.upd (BL F q S.nf))++S.new (BL F q S.nf)) (S.post (BL F q S.nf)) (D1 b7 t (S.gupd (BL F q S.nf))++S.gnew (BL F q S.nf))
    (.c b3 :: .o a9 :: .g k4 :: .o z::a4) (.c S.code :: .o S.fp :: .g S.gfp :: .o S.pre::a6) g7:=λF A=>b1 (p:=F) (q:=q+S.nf) (H:=H) a1 i9 λg N=>by
   rw[<-(n2 A N).2]
   exact(k0 _ g6 g (n2 A N).1).nf
  have c0:=CG (T p .self).1
  have m6:=CG c0.2
  have m7:=CG m6.2
  have n6:=CG m7.2
  refine⟨n6.2,λf h s=>?_⟩
  rw[Fb.c.inj c0.1]
  refine Kh (i8:=[]) k3 k2 j0 c7 d6 (e7.trans (congrArg some (Fb.o.inj m6.1))) (i2.trans (congrArg some (Fb.g.inj m7.1))) (λk e0 b5 B c5=>?_) ?_
  ·obtain⟨F,A,j5⟩:=k5 k e0
   have a0:=(T F A).2 b5 B
   rw[j5] at a0
   have j2:S.outs k=S.post k:=by unfold Spec.outs; rw[g6]
   rw[j2,List.append_nil] at c5
   exact a0 c5
  ·have f8:S.ins=S.pre:=by unfold Spec.ins; rw[g6]
   rw[f8,List.append_nil,<-Fb.o.inj n6.1]; exact s
theorem Wm{b3:Code}{hd:Option Value}{f0:Bool}{a2:List Value}{e:Result->Sem Fin}(o:Ex c O (n+1) w κ (.call b3 hd f0 a2 e) b z t q a4 a6 E H K p):RH c O w κ (.call b3 hd f0 a2 e) b z t a4 a6 E:=by
 cases H with
 |nil=>exact(o p .self).no
 |cons x H=>
 cases x with
 |zero=>
  have e3:∀k,okMark hd=k->∀g,G2 q p g->Jw c O (match k with
   |false=>none
   |true=>AE c.w.params c.kt O.d g n b3 (⟨e,hd,f0,a2,w⟩::κ) (D b3) b z t q a4 a6 E H K):=λk r=>by subst r; exact o
  clear o
  cases r:okMark hd with
  |false=>exact(e3 _ r p .self).no
  |true=>
   have f4:hd≠some byPass:=by
    intro G
    subst G
    simp[okMark] at r
   have a:=b1 a1 a7 (e3 _ r)
   exact⟨a.1,λf h s=>b2.call f4 (GZ▸a.2 f h s)⟩
 |succ x=>
 have l4:∀{g},G2 q p g->BL g 0 q=BL p 0 q:=λN=>DP _ _ λi _ c2=>N i (Nat.zero_add q▸c2)
 cases x with
 |zero=>
  cases K with
  |nil=>exact(o p .self).no
  |cons X K=>
   have f7:(X.1 (BL p 0 q)).Ok c:=a1 _ (.head _) _
   refine W4 b1 (l:=X.2.1) (b7:=X.2.2) (p:=p) (q:=q) (H:=H) (λx d5=>a1 x (.tail _ d5)) a7 f7.len f7.glen (λf2 i6 T f h s d2=>?_) λg N=>?_
   ·exact b2.cmd (m:=Sem.call (X.1 (BL p 0 q)).code none f0 a2 .pure) (k:=e) f2 (Nat.le_trans (Nat.le_add_left _ _) i6) λc8 d1=>
     f7.run _ (d1.mono (Nat.le_sub_of_add_le i6)) (At T f) h _ s (λk B e0 c5=>d2 k f B e0 c5) f0 a2
   ·rw[<-l4 N]; exact o g N
 |succ x=>
  cases f0 with
  |true=>exact(o p .self).no
  |false=>
  have o:∀g,G2 q p g->Jw c O (Al c.w.params c.kt O.d g (AE c.w.params c.kt O.d g n) w κ (.call b3 hd false a2 e) b z t q a4 a6 E ((x+1+1)::H) K):=o
  delta Al at o
  dsimp only at o
  cases i3:CE κ with
  |false=>rw[i3] at o; exact(o p .self).no
  |true=>
  rw[i3] at o
  cases E with
  |nil=>exact(o p .self).no
  |cons X E=>
  cases X with
  |one X=>exact(o p .self).no
  |many g9 l b7 d7=>
   have f7:=a7.1 (BL p 0 q)
   refine W4 b1 (l:=l) (b7:=b7) (p:=p) (q:=q) (H:=H) a1 a7.2 f7.len f7.glen (λf2 i6 T f h s d2=>b2.many f7 f2 (E2 i3) i6 s d2) λg N=>?_
   rw[<-l4 N]; exact o g N
include d8
theorem Wg{e:List (Code×Pos)->Sem Fin}(o:Ex c O (n+1) w κ (.stack e) b z t q a4 a6 E H K p):RH c O w κ (.stack e) b z t a4 a6 E:=by
 have e3:∀m8,DB w=m8->∀m9,Ej κ=m9->∀n0,Nat.ble (HX κ) O.d=n0->∀n1,e []=n1->∀g,G2 q p g->Jw c O (match m8 with
  |true=>none
  |false=>match m9 with
   |false=>none
   |true=>match n0 with
    |false=>none
    |true=>match n1 with
     |.load a3 _ e6=>match c.kt.get a3 with
      |some a5=>AE c.w.params c.kt O.d g n w κ (e6 a5) b z t q (.k e::a4) (.k (λe1=>PySem.W.R.bindR (Hj e1) λ_=>e6 a5)::a6) E H K
      |none=>none
     |.at _ e6=>match e6 () with
      |.point a2 m2=>match a2 with
       |[]=>none
       |x::_=>match m2 () with
        |.at _ h9=>AE c.w.params c.kt O.d g n w κ (h9 ()) b z t q (.k e::a4) (.k (λe1=>PySem.W.R.bindR (FL x e1) λ_=>h9 ())::a6) E H K
        |_=>none
      |_=>none
     |_=>none):=λ_ b9 _ b4 _ c6 _ c7=>by subst b9 b4 c6 c7; exact o
 clear o
 cases b9:DB w with
 |true=>exact(e3 _ b9 _ rfl _ rfl _ rfl p .self).no
 |false=>
 cases b4:Ej κ with
 |false=>exact(e3 _ b9 _ b4 _ rfl _ rfl p .self).no
 |true=>
 cases c6:Nat.ble (HX κ) O.d with
 |false=>exact(e3 _ b9 _ b4 _ c6 _ rfl p .self).no
 |true=>
 have k0:=e3 _ b9 _ b4 _ c6
 clear e3
 have f4:5*(κ.length+1)<=O.d:=HI κ▸Nat.le_of_ble_eq_true c6
 generalize e []=b0 at k0
 cases b0 with
 |load a3 i1 e6=>
  have k6:∀k,c.kt.get a3=k->∀g,G2 q p g->Jw c O (match k with
   |some a5=>AE c.w.params c.kt O.d g n w κ (e6 a5) b z t q (.k e::a4) (.k (λe1=>PySem.W.R.bindR (Hj e1) λ_=>e6 a5)::a6) E H K
   |none=>none):=λk r=>by subst r; exact k0 _ rfl
  clear k0
  cases d6:c.kt.get a3 with
  |none=>exact(k6 _ d6 p .self).no
  |some a5=>
   have a:=b1 a1 a7 (k6 _ d6)
   refine⟨(CG a.1).2,λf h s=>?_⟩
   have j4:(Sem.stack e:Sem Fin)=(enterFrame 0).wrap (λ_=>e6 a5) .raise id id:=by
    rw[Fb.k.inj (CG a.1).1,PySem.W.Fast.te15066281185411960212]
    show Sem.stack (λe1=>PySem.W.R.bindR (Hj e1) λ_=>e6 a5)=Sem.stack (λe1=>(Hj e1).wrap (λ_=>e6 a5) .raise id id)
    refine congrArg Sem.stack (funext λe1=>?_)
    rw[<-Sem.bind_eq_wrap,PySem.W.R.bindR_eq]
   rw[j4]
   refine b2.cmd ⟨(EP w).trans b9,Fq b4⟩ f4 λc8 d1=>wpAny_enterFrame (s.noLimit d8) ?_ (a.2 f h s)
   have:=d1.depth
   show c8.depth<1000
   omega
 | «at» g5 e6=>
  have k6:∀b0,e6 ()=b0->∀g,G2 q p g->Jw c O (match b0 with
   |.point a2 m2=>match a2 with
    |[]=>none
    |x::_=>match m2 () with
     |.at _ h9=>AE c.w.params c.kt O.d g n w κ (h9 ()) b z t q (.k e::a4) (.k (λe1=>PySem.W.R.bindR (FL x e1) λ_=>h9 ())::a6) E H K
     |_=>none
   |_=>none):=λk r=>by subst r; exact k0 _ rfl
  clear k0
  generalize e6 ()=b0 at k6
  cases b0 with
  |point a2 m2=>
   cases a2 with
   |nil=>exact(k6 _ rfl p .self).no
   |cons x a2=>
    have n3:∀b0,m2 ()=b0->∀g,G2 q p g->Jw c O (match b0 with
     |.at _ h9=>AE c.w.params c.kt O.d g n w κ (h9 ()) b z t q (.k e::a4) (.k (λe1=>PySem.W.R.bindR (FL x e1) λ_=>h9 ())::a6) E H K
     |_=>none):=λk r=>by subst r; exact k6 _ rfl
    clear k6
    generalize m2 ()=b0 at n3
    cases b0 with
    | «at» j1 h9=>
     have a:=b1 a1 a7 (n3 _ rfl)
     refine⟨(CG a.1).2,λf h s=>?_⟩
     have j4:(Sem.stack e:Sem Fin)=(theTreesLotGoes x).wrap (λ_=>h9 ()) .raise id id:=by
      rw[Fb.k.inj (CG a.1).1,Nx]
      show Sem.stack (λe1=>PySem.W.R.bindR (FL x e1) λ_=>h9 ())=Sem.stack (λe1=>(FL x e1).wrap (λ_=>h9 ()) .raise id id)
      refine congrArg Sem.stack (funext λe1=>?_)
      rw[<-Sem.bind_eq_wrap,PySem.W.R.bindR_eq]
     rw[j4]
     exact b2.cmd0 λc8=>wpAny_theTreesLotGoes (a.2 f h s)
    |_=>exact(n3 _ rfl p .self).no
  |_=>exact(k6 _ rfl p .self).no
 |_=>exact(k0 _ rfl p .self).no
end
theorem Wp{c:Cx}(d8:c.Ok){O:Md}(b2:O.Ok c)(n:Nat):WE c O n:=by
 induction n with
 |zero=>
  intro w κ b0 b z t q a4 a6 E H K p _ _ o
  exact⟨(o p .self).fine.1,λf h s=>b2.stopT ((o p .self).fine.2 f h s)⟩
 |succ n b1=>
  intro w κ b0 b z t q a4 a6 E H K p a1 a7 o
  cases b0 with
  |pure l7=>
   cases l7 with
   |done d4=>exact W3 b2 b1 a1 a7 o
   |again b3=>exact Wf b2 b1 a1 a7 o
  |raise G=>exact W3 b2 b1 a1 a7 o
  |rule m4 e=>
   have a:=b1 a1 a7 o
   exact⟨a.1,λf h s=>b2.cmd0 (m:=rule m4) (k:=e) λc8=>wpAny_rule (a.2 f h s)⟩
  | «at» y e=>
   have a:=b1 a1 a7 o
   exact⟨a.1,λf h s=>b2.cmd0 (m:=standAt y) (k:=e) λc8=>wpAny_standAt (a.2 f h s)⟩
  |point a2 e=>
   have a:=b1 a1 a7 o
   exact⟨a.1,λf h s=>b2.point (a.2 f h s)⟩
  |ask e=>exact Wq b2 b1 a1 a7 o
  |load a3 i1 e=>exact Wn d8 b2 b1 a1 a7 o
  |loadIfAlive a3 e=>exact We d8 b2 b1 a1 a7 o
  |update a3 i1 d4 e=>exact Wb d8 b2 b1 a1 a7 o
  |alloc a5 e=>exact Wh b2 b1 a1 a7 o
  |fresh e=>exact Wj b2 b1 a1 a7 o
  |handled m3 e=>exact W7 b2 b1 a1 a7 o
  |newGen b3 e=>exact Wc b2 b1 a1 a7 o
  |call b3 hd f0 a2 e=>exact Wm b2 b1 a1 a7 o
  |yield k h0 a2 e=>exact Wd b2 b1 a1 a7 o
  |stack e=>exact Wg d8 b2 b1 a1 a7 o
  |_=>exact(o p .self).no
theorem Cd{c:Cx}(d8:c.Ok){O:Md}(b2:O.Ok c)(n:Nat)(w:Code)(κ:List Fm)(b0:Sem Fin)(b z:An)(t:Gs)(q:Nat)(a4 a6:List Fb)(E:List Ys)(H:List Nat)(K:List ((List Nat->Spec)×List Nat×List Nat))(p:Nat->Nat)(a1:∀x∈K,∀a2,(x.1 a2).Ok c)(a7:Ih c E)(o:Ex c O n w κ b0 b z t q a4 a6 E H K p):RH c O w κ b0 b z t a4 a6 E:=Wp d8 b2 n a1 a7 o
theorem Spec.of_code{c:Cx}{S:Spec}(c4:∀k,(S.upd k).length=S.fp.length)(f5:∀k,(S.gupd k).length=S.gfp.length)(a:∀R,Room S.d R->∀(f:AK) (h:Shared) (L:RP),RepF c (S.fp++S.ins) S.gfp f h ->
   (∀k B,k.length=S.nf->RepF c (Am S.fp (S.upd k)++S.new k++S.outs k) (Am S.gfp (S.gupd k)++S.gnew k) f B->L (S.res k) B)->codeAny (model pw c.w) R S.code L h)(hd:S.drop=false:=by rfl):S.Ok c:=
 ⟨Spec.lenOk hd c4,f5,λR d1 f h L s d2 f0 a2=>y_start _ _ _ _ _ _ _ _ _ _ _ _ (λx=>by cases x) (a _ d1.mark f h _ s λk B e0 c5=>wpAny_pure (d2 k B e0 c5))⟩
theorem Spec.of_codeD{c:Cx}{S:Spec}(hd:S.drop=true)(c4:∀k,S.upd k=[])(f5:∀k,(S.gupd k).length=S.gfp.length)(a:∀R,Room S.d R->∀(f:AK) (h:Shared) (L:RP),RepF c (S.fp++S.ins) S.gfp f h ->
   (∀k B,k.length=S.nf->RepF c (S.new k++S.outs k) (Am S.gfp (S.gupd k)++S.gnew k) f B->L (S.res k) B)->codeAny (model pw c.w) R S.code L h):S.Ok c:=
 ⟨Spec.lenOkD hd c4,f5,λR d1 f h L s d2 f0 a2=>y_start _ _ _ _ _ _ _ _ _ _ _ _ (λx=>by cases x) (a _ d1.mark f h _ s λk B e0 c5=>wpAny_pure (d2 k B e0 (by
  have G:Am S.fp (S.upd k)=[]:=by rw[c4 k]; cases S.fp <;> rfl
  rw[G,List.nil_append]; exact c5)))⟩
theorem Spec.of_call{c:Cx}{S:Spec}{d4:Value}{k9:List Value}(l8:S.code = .call d4 ⟨k9,[]⟩)(c4:∀k,(S.upd k).length=S.fp.length)(f5:∀k,(S.gupd k).length=S.gfp.length)(a:∀R,Room S.d R->∀(f:AK) (h:Shared) (k1:VP),RepF c (S.fp++S.ins) S.gfp f h ->
   (∀k B d,k.length=S.nf->S.res k = .ok (.ret d)->RepF c (Am S.fp (S.upd k)++S.new k++S.outs k) (Am S.gfp (S.gupd k)++S.gnew k) f B->k1 d B)->wpAny (model pw c.w) R (call d4 k9) k1 (λ_ _=>False) h)(hd:S.drop=false:=by rfl):S.Ok c:=by
 refine⟨Spec.lenOk hd c4,f5,λR d1 f h L m1 d2 f0 a2=>?_⟩
 have a0:=a R d1 f h (λd B=>L (.ok (.ret d)) B) m1 λk B d e0 G c5=>G▸d2 k B e0 c5
 intro Γ y aΓ
 have X:=a0 Γ y aΓ
 rw[call,Sem.wp_runValue] at X
 rw[l8]
 exact wpCode_mono (λd B r=>by
  cases d with
  |error G=>exact r.elim
  |ok d4=>cases d4 <;> first |exact r |exact r.elim) X
noncomputable def C4(a5:Option Hy)(l b7:List Nat):List Fb×Option (FU×Option An×An×Option Gs×List Ys×Bool×Bool):=match a5 with
 |some d=>(d.eL,some (d.out,BZ l d.L,d.B,BZ b7 d.G,d.ys,AZ l,AZ b7))
 |none=>([],none)
noncomputable def C5(a5:Option Hy)(d3:FU)(b z:An)(t:Gs)(E:List Ys):List Fb×Option (FU×Option An×An×Option Gs×List Ys×Bool×Bool):=match a5 with
 |some d=>(d.eR,some (d3,some b,z,some t,E,true,true))
 |none=>([],some (d3,some b,z,some t,E,true,true))
theorem EY{a5:Option Hy}{l b7:List Nat}{d3:FU}{b z:An}{t:Gs}{E:List Ys}(a:C4 a5 l b7=C5 a5 d3 b z t E) :
  ∃d,a5=some d/\d.eL=d.eR/\d.out=d3/\BZ l d.L=some b/\d.B=z/\BZ b7 d.G=some t/\d.ys=E/\AZ l=true/\AZ b7=true:=by
 cases a5 with
 |none=>cases a
 |some d=>
  simp only[C4,C5,Prod.mk.injEq,Option.some.injEq] at a
  exact⟨d,rfl,a.1,a.2.1,a.2.2.1,a.2.2.2.1,a.2.2.2.2.1,a.2.2.2.2.2.1,a.2.2.2.2.2.2.1,a.2.2.2.2.2.2.2⟩
theorem Rep.picked{c:Cx}{b c1 f:An}{t:Gs}{h:Shared}{l:List Nat}(L:Rep c (b++f) t h)(hd:AZ l=true)(c3:BZ l b=some c1):Rep c (c1++f) t h:=by
 have g4:(b.map (·.1)).Nodup:=by
  have:=L.nd
  rw[List.map_append] at this
  exact(List.nodup_append.mp this).1
 obtain⟨_,b6,y,_⟩:=D4 g4 hd c3
 have a0:Rep c (c1++b6++f) t h:=L.perm (y.append_right _).symm
 refine a0.sub ?_
 rw[List.append_assoc]
 exact List.Sublist.append_left (List.sublist_append_right _ _) _
theorem Rep.gsub{c:Cx}{b:An}{t b8:Gs}{h:Shared}(L:Rep c b t h)(a:b8.Sublist t):Rep c b b8 h:=
 ⟨L.get,L.nd,L.hi,L.old,L.size,λy c3=>L.gens y (a.subset c3),L.gnd.sublist (a.map _),L.bare,L.os⟩
theorem Rep.gpicked{c:Cx}{b:An}{t b8 f:Gs}{h:Shared}{l:List Nat}(L:Rep c b (t++f) h)(hd:AZ l=true)(c3:BZ l t=some b8):Rep c b (b8++f) h:=by
 have g4:(t.map (·.1)).Nodup:=by
  have:=L.gnd
  rw[List.map_append] at this
  exact(List.nodup_append.mp this).1
 obtain⟨_,b6,y,_⟩:=D4 g4 hd c3
 have a0:Rep c b (b8++b6++f) h:=L.gperm (y.append_right _).symm
 refine a0.gsub ?_
 rw[List.append_assoc]
 exact List.Sublist.append_left (List.sublist_append_right _ _) _
theorem Rep.pickedB{c:Cx}{b c1 z f:An}{t:Gs}{h:Shared}{l:List Nat}(L:Rep c (b++z++f) t h)(hd:AZ l=true)(c3:BZ l b=some c1):Rep c (c1++z++f) t h:=by
 rw[List.append_assoc] at L ⊢
 exact L.picked hd c3
noncomputable def qA(d9:Params)(n4:KT)(a8 n:Nat)(w:Code)(b0:Sem Fin)(b z:An)(t:Gs)(E:List Ys)(H:List Nat)(K:List ((List Nat->Spec)×List Nat×List Nat))(l b7:List Nat)(g:Nat->Nat):List Fb×Option (FU×Option An×An×Option Gs×List Ys×Bool×Bool):=
 C4 (AE d9 n4 a8 g n w [] b0 b z t 0 [] [] E H K) l b7
noncomputable def qB(d9:Params)(n4:KT)(a8 n:Nat)(w:Code)(b0:Sem Fin)(b z:An)(t:Gs)(E:List Ys)(H:List Nat)(K:List ((List Nat->Spec)×List Nat×List Nat))(d3:(Nat->Nat)->FU)(c1 e8:(Nat->Nat)->An)(b8:(Nat->Nat)->Gs)(g:Nat->Nat):List Fb×Option (FU×Option An×An×Option Gs×List Ys×Bool×Bool):=
 C5 (AE d9 n4 a8 g n w [] b0 b z t 0 [] [] E H K) (d3 g) (c1 g) (e8 g) (b8 g) []
theorem run_codeB{c:Cx}(d8:c.Ok){R:Around}{a8 n:Nat}(d1:Room a8 R){w:Code}{b z:An}{t:Gs}{H:List Nat}{K:List ((List Nat->Spec)×List Nat×List Nat)}{l b7:List Nat}{d3:(Nat->Nat)->FU}{c1 e8:(Nat->Nat)->An}{b8:(Nat->Nat)->Gs}(a1:∀x∈K,∀a2,(x.1 a2).Ok c)(o:qA c.w.params c.kt a8 n w (D w) b z t [] H K l b7=qB c.w.params c.kt a8 n w (D w) b z t [] H K d3 c1 e8 b8){f:AK}{h:Shared}{L:RP}(s:RepF c (b++z) t f h)(d2:∀g B,RepF c (c1 g++e8 g) (b8 g) f B->match d3 g with |.ret d=>L d B |.again b3=>codeAny (model pw c.w) R b3 L B |.yld ..=>False |.tree ..=>False):codeAny (model pw c.w) R w L h:=by
 have a0:=(Cd d8 (CC c R L a8 f d1) n w [] (D w) b z t 0 [] [] [] H K (λ_=>0) a1 trivial λg _=>?_).2 f h s
 ·refine y_code _ _ _ _ _ _ ?_
  have X:=a0 ⟨rfl,rfl⟩
  rw[<-GZ] at X
  exact X
 ·obtain⟨d,A,M,f9,g0,h2,h3,i5,h4,h5⟩:=EY (congrFun o g)
  refine⟨d,A,M,λb5 B c5 h6=>?_⟩
  obtain⟨_,rfl⟩:=h6
  have X:RepF c (c1 g++d.B) (b8 g) b5 B:=Rep.gpicked (Rep.pickedB c5 h4 g0) h5 h3
  rw[h2] at X
  have:=d2 g B X
  rw[f9]
  exact this
theorem run_code{c:Cx}(d8:c.Ok){R:Around}{a8 n:Nat}(d1:Room a8 R){w:Code}{b:An}{t:Gs}{H:List Nat}{K:List ((List Nat->Spec)×List Nat×List Nat)}{l b7:List Nat}{d3:(Nat->Nat)->FU}{c1:(Nat->Nat)->An}{b8:(Nat->Nat)->Gs}(a1:∀x∈K,∀a2,(x.1 a2).Ok c)(o:qA c.w.params c.kt a8 n w (D w) b [] t [] H K l b7=qB c.w.params c.kt a8 n w (D w) b [] t [] H K d3 c1 (λ_=>[]) b8){f:AK}{h:Shared}{L:RP}(s:RepF c b t f h)(d2:∀g B,RepF c (c1 g) (b8 g) f B->match d3 g with |.ret d=>L d B |.again b3=>codeAny (model pw c.w) R b3 L B |.yld ..=>False |.tree ..=>False):codeAny (model pw c.w) R w L h:=
 run_codeB d8 d1 (z:=[]) (e8:=λ_=>[]) a1 o (by rw[List.append_nil]; exact s) λg B a=>d2 g B (by rw[List.append_nil] at a; exact a)
theorem run_genB{c:Cx}(d8:c.Ok){o:AK}{d0:List Frame}{g1 a8 e9 n:Nat}{d9:AK->End->Shared->Prop}(j6:C9 d0 g1)(hd:g1+e9<=a8){w:Code}{b z:An}{t:Gs}{E:List Ys}{d7:List Str}{H:List Nat}{K:List ((List Nat->Spec)×List Nat×List Nat)}{l b7:List Nat}{d3:(Nat->Nat)->FU}{c1 e8:(Nat->Nat)->An}{b8:(Nat->Nat)->Gs}(a1:∀x∈K,∀a2,(x.1 a2).Ok c)(a7:Ih c E)(c0:qA c.w.params c.kt e9 n w (D w) b z t E H K l b7=qB c.w.params c.kt e9 n w (D w) b z t E H K d3 c1 e8 b8){f:AK}{h:Shared}(s:RepF c (b++z) t (At o f) h)(d2:∀g b5 B,RepF c (c1 g++e8 g) (b8 g) (At o b5) B->∀R,Room a8 R->match d3 g with
   |.ret d=>∀w,SegX (model pw c.w) R w (leafOf d) d0 B (Ev c a8 d9 d7 b5)
   |.again b3=>SegX (model pw c.w) R b3 (denote table b3) d0 B (Ev c a8 d9 d7 b5)
   |.yld k h0 a2 e w κ=>∀e2,DQ d0 κ e2->SegX (model pw c.w) R w (.yield k h0 a2 e) e2 B (Ev c a8 d9 d7 b5)
   |.tree w κ b0=>∀e2,DQ d0 κ e2->SegX (model pw c.w) R w b0 e2 B (Ev c a8 d9 d7 b5)){R:Around}(d1:Room a8 R):SegX (model pw c.w) R w (denote table w) d0 h (Ev c a8 d9 ((Dh E).flatten++d7) f):=by
 have a0:=(Cd d8 (JC c o d0 g1 a8 e9 (Ev c a8 d9 d7) j6 hd) n w [] (D w) b z t 0 [] [] E H K (λ_=>0) a1 a7 λg _=>?_).2 (At o f) h s
 ·have X:=a0 f rfl R d1 d0 .nil
  rw[<-GZ] at X
  rw[<-FG]
  exact X
 ·obtain⟨d,A,M,f9,g0,h2,h3,i5,h4,h5⟩:=EY (congrFun c0 g)
  refine⟨d,A,M,λb5 B c5 g8 h6 c8 j7=>?_⟩
  subst h6
  have X:RepF c (c1 g++d.B) (b8 g) (At o g8) B:=Rep.gpicked (Rep.pickedB c5 h4 g0) h5 h3
  rw[h2] at X
  have:=d2 g g8 B X c8 j7
  rw[f9,i5]
  exact this
theorem run_genTr{c:Cx}(d8:c.Ok){o:AK}{d0:List Frame}{g1 a8 e9 n:Nat}{d9:AK->End->Shared->Prop}(j6:C9 d0 g1)(hd:g1+e9<=a8){w:Code}{b0:Sem Fin}{b z:An}{t:Gs}{E:List Ys}{d7:List Str}{H:List Nat}{K:List ((List Nat->Spec)×List Nat×List Nat)}{l b7:List Nat}{d3:(Nat->Nat)->FU}{c1 e8:(Nat->Nat)->An}{b8:(Nat->Nat)->Gs}(a1:∀x∈K,∀a2,(x.1 a2).Ok c)(a7:Ih c E)(c0:qA c.w.params c.kt e9 n w b0 b z t E H K l b7=qB c.w.params c.kt e9 n w b0 b z t E H K d3 c1 e8 b8){f:AK}{h:Shared}(s:RepF c (b++z) t (At o f) h)(d2:∀g b5 B,RepF c (c1 g++e8 g) (b8 g) (At o b5) B->∀R,Room a8 R->match d3 g with
   |.ret d=>∀w,SegX (model pw c.w) R w (leafOf d) d0 B (Ev c a8 d9 d7 b5)
   |.again b3=>SegX (model pw c.w) R b3 (denote table b3) d0 B (Ev c a8 d9 d7 b5)
   |.yld k h0 a2 e w κ=>∀e2,DQ d0 κ e2->SegX (model pw c.w) R w (.yield k h0 a2 e) e2 B (Ev c a8 d9 d7 b5)
   |.tree w κ b0=>∀e2,DQ d0 κ e2->SegX (model pw c.w) R w b0 e2 B (Ev c a8 d9 d7 b5)){R:Around}(d1:Room a8 R):SegX (model pw c.w) R w b0 d0 h (Ev c a8 d9 ((Dh E).flatten++d7) f):=by
 have a0:=(Cd d8 (JC c o d0 g1 a8 e9 (Ev c a8 d9 d7) j6 hd) n w [] b0 b z t 0 [] [] E H K (λ_=>0) a1 a7 λg _=>?_).2 (At o f) h s
 ·have X:=a0 f rfl R d1 d0 .nil
  rw[<-FG]
  exact X
 ·obtain⟨d,A,M,f9,g0,h2,h3,i5,h4,h5⟩:=EY (congrFun c0 g)
  refine⟨d,A,M,λb5 B c5 g8 h6 c8 j7=>?_⟩
  subst h6
  have X:RepF c (c1 g++d.B) (b8 g) (At o g8) B:=Rep.gpicked (Rep.pickedB c5 h4 g0) h5 h3
  rw[h2] at X
  have:=d2 g g8 B X c8 j7
  rw[f9,i5]
  exact this
end
section
noncomputable def PF(b:Array Nat)(e:Nat->Bool)(g h:Nat):Bool:=
 cond (Nat.beq g 0) (cond (Nat.beq h (List.length b.toList)) (PySem.W.R.anyR b.toList e) (Array.any b e g h)) (Array.any b e g h)
theorem Pr: @Array.any Nat=PF:=by
 funext b e g h
 unfold PF
 cases a:Nat.beq g 0 with
 |false=>rfl
 |true=>
  cases h2:Nat.beq h (List.length b.toList) with
  |false=>rfl
  |true=>
   have m:=Nat.eq_of_beq_eq_true a
   have n:=Nat.eq_of_beq_eq_true h2
   subst m n
   show _=PySem.W.R.anyR b.toList e
   rw[<-PySem.W.R.anyR_eq,Array.any_toList]
   rfl
structure Uh(f:Builtin):Type
set_option maxHeartbeats 0 in
noncomputable def Qw:∀d:Array Nat->(Nat->Bool)->Nat->Nat->Bool,@Array.any Nat=d->Builtin:=by
 intro d a
 refine(?k:Uh ?f->Builtin) ?h2
 case h2=>
  have i:Uh PySem.W.Fast.tw4202317264376624991:=⟨⟩
  delta PySem.W.Fast.tw4202317264376624991 at i
  rw[a] at i
  exact i
 case k=>
  intro _
  exact ?f
theorem Ob:PySem.W.Fast.tw4202317264376624991=Qw (@Array.any Nat) rfl:=by kernel_rfl
theorem Qs:∀d a,Qw (@Array.any Nat) rfl=Qw d a:=by intro d a; subst a; rfl
noncomputable def Se:Builtin:=Qw PF Pr
theorem Qa:PySem.W.Fast.tw4202317264376624991=Se:=Ob.trans (Qs _ _)
noncomputable def SH(id:String):Option Builtin:=
 cond (Nat.beq (PySem.W.S.codeS id) 29827186395103491166823348853) (some Se) (PySem.W.Fast.tw14364793385576792824 id)
theorem Nt:PySem.W.S.codeS "type.__new__" = 29827186395103491166823348853:=by decide +kernel
theorem QW:treeTable "type.__new__" = some PySem.Builtin.«type.__new__»:=by kernel_rfl
theorem Qy:treeTable=SH:=by
 funext id
 unfold SH
 cases a:Nat.beq (PySem.W.S.codeS id) 29827186395103491166823348853 with
 |false=>exact congrFun PySem.W.Fast.te14364793385576792824 id
 |true=>
  have l:id = "type.__new__":=PySem.code_inj _ _ (by
   rw[PySem.W.S.code_S,PySem.W.S.code_S,Nt]
   exact Nat.eq_of_beq_eq_true a)
  subst l
  show _=some Se
  rw[QW,PySem.W.Fast.te4202317264376624991,Qa]
end
section
structure Wx(l:Program):Type
set_option maxHeartbeats 0 in
noncomputable def pG:∀f:List Nat->Str,(∀c,Str.ofString c=f (c.toList.map Char.toNat))->Program:=by
 intro f b
 refine(?k:Wx ?f->Program) ?h2
 case h2=>
  have g:Wx PySem.Challenge.pw_mu0002_05:=⟨⟩
  delta PySem.Challenge.pw_mu0002_05 at g
  rw[show @Str.ofString=λc=>f (c.toList.map Char.toNat) from funext b] at g
  dsimp only[String.reduceToList,List.map,Char.reduceToNat] at g
  exact g
 case k=>
  intro _
  exact ?f
noncomputable def Ww(a:List Nat):Bool:=@List.rec Nat (λ_=>Bool) true (λn _ i=>cond (Nat.ble n 55295) i false) a
noncomputable def W8(a:List Nat):Str:=Str.ofString (String.ofList (a.map Char.ofNat))
noncomputable def Wi(a:List Nat):Str:=⟨⟨a⟩⟩
noncomputable def WB(a:List Nat):Str:=cond (Ww a) ⟨⟨a⟩⟩ (W8 a)
theorem Wo(h:Char):Char.ofNat h.toNat=h:=by simp
theorem W6(c:String):Str.ofString c=W8 (c.toList.map Char.toNat):=by
 unfold W8
 rw[List.map_map,show Char.ofNat∘Char.toNat=id from funext Wo,List.map_id,String.ofList_toList]
theorem Ws{n:Nat}(b:n<=55295):(Char.ofNat n).toNat=n:=by
 have:n.isValidChar:=Or.inl (by lia)
 simp[Char.ofNat,this,Char.toNat,Char.ofNatAux]
theorem Wa:∀{a:List Nat},Ww a=true->(a.map Char.ofNat).map Char.toNat=a
 |[],_=>rfl
 |n::a,b=>by
  have e:cond (Nat.ble n 55295) (Ww a) false=true:=b
  cases d:Nat.ble n 55295 with
  |false=>rw[d] at e; cases e
  |true=>rw[d] at e; rw[List.map_cons,List.map_cons,Wa e,Ws (Nat.le_of_ble_eq_true d)]
theorem Wu:W8=WB:=by
 funext a
 unfold WB
 cases b:Ww a with
 |false=>rfl
 |true=>
  show W8 a=⟨⟨a⟩⟩
  unfold W8
  rw[Str.ofString_eq_toList,String.toList_ofList,Wa b]
theorem WC{f:List Nat->Str}(d:W8=f):∃b,pG W8 W6=pG f b:=by subst d; exact⟨W6,rfl⟩
theorem Wl(c:String):Str.ofString c=Wi (c.toList.map Char.toNat):=Str.ofString_eq_toList c
noncomputable def LX:Program:=pG Wi Wl
theorem Wv:PySem.Challenge.pw_mu0002_05=pG W8 W6:=by kernel_rfl
theorem Wt(b):pG WB b=pG Wi Wl:=by kernel_rfl
theorem Wk:PySem.Challenge.pw_mu0002_05=LX:=by
 obtain⟨b,d⟩:=WC Wu
 exact Wv.trans (d.trans (Wt b))
end
section
structure Ew(D:Nat)(a b:Shared):Prop where
 get:∀g e,g<D->a.heap.get? g=some e->b.heap.get? g=some e
 size:a.heap.objs.size<=b.heap.objs.size
 gens:b.gens=a.gens
 os:b.os=a.os
theorem RepF.off{z:Cx}{G:An}{F:Gs}{t:AK}{a b:Shared}(c1:z.Ok)(m:RepF z G F t a)(c:Ew a.heap.objs.size a b):RepF z G F t b:=by
 have m:Rep z (G++t.1) (F++t.2) a:=m
 show Rep z (G++t.1) (F++t.2) b
 refine⟨λq H=>?_,m.nd,m.hi,λg e k=>?_,Nat.le_trans m.size c.size,λq H=>?_,m.gnd,?_,?_⟩
 ·exact c.get _ _ (Heap.lt_size (m.get q H)) (m.get q H)
 ·exact c.get _ _ (Heap.lt_size (m.old g e k)) (m.old g e k)
 ·rw[c.gens]; exact m.gens q H
 ·rw[c.gens]; exact m.bare
 ·rw[c.os]; exact m.os
theorem Ew.same{D:Nat}{a b f:Shared}(d:Ew D a b)(o:Heap.SameBut D b.heap f.heap)(p:f.gens=b.gens)(l:f.os=b.os):Ew D a f:=
 ⟨λg e k c=>(o.2 g (Nat.ne_of_lt k)).trans (d.get g e k c),by rw[o.1]; exact d.size,p.trans d.gens,l.trans d.os⟩
theorem Ew.toks{D:Nat}{a b f:Shared}(d:Ew D a b)(o:f.heap=b.heap)(p:f.gens=b.gens)(l:f.os=b.os):Ew D a f:=⟨λg e k c=>by rw[o]; exact d.get g e k c,by rw[o]; exact d.size,p.trans d.gens,l.trans d.os⟩
theorem Ew.push{a b:Shared}{e:Obj}(o:b.heap=a.heap.push e)(p:b.gens=a.gens)(l:b.os=a.os):Ew a.heap.objs.size a b:=
 ⟨λg c5 k c=>by rw[o]; exact Heap.get?_push_of_some e c,by rw[o,Heap.size_push]; exact Nat.le_succ _,p,l⟩
section
variable{h:World}{x:Around}{y:VP}{r:Env}
theorem Kr{D:Nat}{a b:Shared}{S:Str->Bool}{s:Nat}{d:Str}{n:Nat}{i:Bool->Shared->Prop}(w:b.heap.SetOf (strKind pw h) D S s)(k:s+1<scanBound)(l:Ew D a b)(c:∀f,Ew D a f->f.heap.SetOf (strKind pw h) D (λX=>S X||decide (X=d)) (if S d then s else s+1)->i (!S d) f):wpAny (model pw h) x (setAdd D (.str d n)) i y b:=by
 unfold setAdd
 refine wpAny_holding (wpAny_bind ((strKind pw h).pyHash (strKind_is pw h d n) ?_))
 refine wpAny_setAddHashed_of (s:={b with toks:=b.toks+1}) (strKind_is pw h d n) rfl w k λc3 b4 a3=>?_
 exact c _ (Ew.same l b4 rfl rfl) a3
theorem M3{D:Nat}{a b:Shared}{S:Str->Bool}{s:Nat}{i:Unit->Shared->Prop}(w:b.heap.SetOf (strKind pw h) D S s)(l:Ew D a b)(c:∀f,Ew D a f->f.heap.SetOf (strKind pw h) D S s->i () f):wpAny (model pw h) x (setUnled D) i y b:=by
 obtain⟨e,R,c2,n,p,a8,hd,a7,b2,k,T,b3⟩:=w
 have a9:({n with led:=false}:SetTable).fits R.size=true:=by cases n; exact T
 unfold setUnled
 refine wpAny_bind (wpAny_setState_of p hd T ?_)
 dsimp only
 refine wpAny_storeSet_of p hd ?_ (fits_of_scanBound k)
 obtain⟨_,w⟩:=SetOf_store (knd:=strKind pw h) p a8 hd a7 b2 k a9
 rw[b3] at w
 exact c _ (Ew.same l (Heap.SameBut.update b.heap D (Obj.putSet R {n with led:=false})) rfl rfl) w
theorem OC{a:Shared}{A:Nat}{e:Obj}{Q:Array Value}{i:Bool->Shared->Prop}(B:r.code = .ref A)(l:a.heap.get? A=some e)(hd:e.data = .fields Q)(c:∀g,i g a):wpAny (model pw h) x (inMainModule r) i y a:=by
 unfold inMainModule
 try dsimp only
 rw[B]
 split
 ·exact wpAny_pure (c _)
 ·refine wpAny_bind (wpAny_fieldsOf l hd ?_)
  split
  ·exact wpAny_bind (wpAny_askSetting (wpAny_pure (c _)))
  ·exact wpAny_pure (c _)
theorem OH{a:Shared}{a0:PySem.Expr}{d E O:Str}{K L n:Nat}{M N q b8:Pos}{c0:Sem Value}{i:Bool->Shared->Prop}{A:Nat}{e:Obj}{Q:Array Value}(b0:∀i:VP,i (.str O n) a->wpAny (model pw h) x (eval a0 r) i y a)(B:r.code = .ref A)(l:a.heap.get? A=some e)(hd:e.data = .fields Q)(b1:behindInMarks .In (.Set [.Constant (.str d) K M,.Constant (.str E) L N] 0 q)=true)(c:∀b,Ew a.heap.objs.size a b->i (decide (O=d)||decide (O=E)) b) :
  wpAny (model pw h) x (isTrue (.Compare a0 [.In] [.Set [.Constant (.str d) K M,.Constant (.str E) L N] 0 q] b8) r c0) i y a:=by
 refine kdi_test b1 (b0 _ ?_)
 rw[arm_eval_Set]
 refine wpAny_bind (wpAny_standAt ?_)
 refine wpAny_bind (OC B l hd λg=>?_)
 rw[kds_star _ (by rfl),List.map_map]
 refine kds_core (ts:=(evalEach [.Constant (.str d) K M,.Constant (.str E) L N] r).map λn=>do let b9 <-n; standAt q; pure b9) rfl rfl (by show 2<=30; decide) rfl λP=>?_
 refine kds_all q _ _ _ ?_
 show wpAny _ _ (eval (.Constant (.str d) K M) r) _ _ _
 rw[arm_eval_Constant]
 refine wpAny_mkText ?_
 show wpAny _ _ (eval (.Constant (.str E) L N) r) _ _ _
 rw[arm_eval_Constant]
 refine wpAny_mkText ?_
 have a2:(a.heap.push {cls:=.type "set",dict:=none,data:=.set #[] 0 (.fresh 0 0 P)}).SetOf (strKind pw h) a.heap.objs.size (λ_=>false) 0:=
  ⟨_,#[],0,_,Heap.get?_push_size _ rfl,⟨rfl,rfl,rfl⟩,rfl,λo B=>by simp at B,λc4=>by simp,by decide,by rfl,rfl⟩
 refine kds_fill_cons (Kr (s:=0) a2 (by decide) (Ew.push rfl rfl rfl) λc6 b5 a4=>?_)
 refine kds_fill_cons (Kr a4 (by simp; decide) b5 λc7 b6 a5=>?_)
 refine kds_fill_nil rfl ?_
 refine kdi_mark (M3 a5 b6 λa1 b7 a6=>?_)
 refine wpAny_inSet_of (strKind_is pw h O n) rfl a6 ?_
 refine wpAny_truthy_bool ?_
 have:=c _ (Ew.toks (f:={a1 with toks:=a1.toks+1}) b7 rfl rfl rfl)
 simpa using this
end
end
section
section
variable{α:Type}[DecidableEq α]
noncomputable def Y:Nat->List α->List α->Option (List α)
 |0,_,_=>none
 |_+1,[],[]=>some []
 |n+1,f::o,[]=>(Y n o []).map (f :: ·)
 |n+1,[],h::i=>(Y n [] i).map (h :: ·)
 |n+1,f::o,h::i=>if f∈i then(if h∈o then none else(Y n (f::o) i).map (h :: ·)) else if h=f then(Y n o i).map (f :: ·) else(Y n o (h::i)).map (f :: ·)
theorem Gt:∀(n:Nat) {o i a4:List α},Y n o i=some a4->o.Nodup->i.Nodup->∀{b Q:α} {x O N P:Nat},o[x]?=some b->i[O]?=some b->o[N]?=some Q->i[P]?=some Q->x<N->O<P:=by
 intro n
 induction n with
 |zero=>intro o i a4 c; cases c
 |succ n s=>
  intro o i a4 c nA nB b Q x O N P l m y w S
  cases o with
  |nil=>simp at l
  |cons f o=>
  cases i with
  |nil=>simp at m
  |cons h i=>
  obtain⟨b6,b0⟩:=List.nodup_cons.mp nA
  obtain⟨b1,b2⟩:=List.nodup_cons.mp nB
  unfold Y at c
  by_cases a0:f∈i
  ·rw[if_pos a0] at c
   by_cases G:h∈o
   ·rw[if_pos G] at c; cases c
   ·rw[if_neg G] at c
    have c0:f≠h:=λd=>b1 (d▸a0)
    have c1:h∉f::o:=λr=>by
     rcases List.mem_cons.mp r with d |d
     ·exact c0 d.symm
     ·exact G d
    cases F:Y n (f::o) i with
    |none=>rw[F] at c; cases c
    |some b5=>
     have X:∀{K H:Nat} {M:α},(f::o)[K]?=some M->(h::i)[H]?=some M->∃D,H=D+1:=λ{K H M} a1 a2=>by
      cases H with
      |zero=>
       rw[List.getElem?_cons_zero] at a2
       cases a2
       exact absurd (List.mem_of_getElem? a1) c1
      |succ D=>exact⟨D,rfl⟩
     obtain⟨D,rfl⟩:=X l m
     obtain⟨c3,rfl⟩:=X y w
     rw[List.getElem?_cons_succ] at m w
     have:=s F nA b2 l m y w S
     lia
  ·rw[if_neg a0] at c
   by_cases G:h=f
   ·subst G
    rw[if_pos rfl] at c
    cases F:Y n o i with
    |none=>rw[F] at c; cases c
    |some b5=>
     cases N with
     |zero=>lia
     |succ N=>
      rw[List.getElem?_cons_succ] at y
      have c2:Q∈o:=List.mem_of_getElem? y
      cases P with
      |zero=>
       rw[List.getElem?_cons_zero] at w
       cases w
       exact absurd c2 b6
      |succ P=>
       rw[List.getElem?_cons_succ] at w
       cases O with
       |zero=>exact Nat.succ_pos _
       |succ O=>
        rw[List.getElem?_cons_succ] at m
        cases x with
        |zero=>
         rw[List.getElem?_cons_zero] at l
         cases l
         exact absurd (List.mem_of_getElem? m) b1
        |succ x=>
         rw[List.getElem?_cons_succ] at l
         have:=s F b0 b2 l m y w (by lia)
         lia
   ·rw[if_neg G] at c
    have b9:f∉h::i:=λr=>by
     rcases List.mem_cons.mp r with d |d
     ·exact G d.symm
     ·exact a0 d
    cases F:Y n o (h::i) with
    |none=>rw[F] at c; cases c
    |some b5=>
     have X:∀{K H:Nat} {M:α},(f::o)[K]?=some M->(h::i)[H]?=some M->∃D,K=D+1:=λ{K H M} a1 a2=>by
      cases K with
      |zero=>
       rw[List.getElem?_cons_zero] at a1
       cases a1
       exact absurd (List.mem_of_getElem? a2) b9
      |succ D=>exact⟨D,rfl⟩
     obtain⟨D,rfl⟩:=X l m
     obtain⟨c3,rfl⟩:=X y w
     rw[List.getElem?_cons_succ] at l y
     exact s F b0 nB l m y w (by lia)
noncomputable abbrev Sg(α:Type):=List α×List α×List α
noncomputable def fA(a:List (Sg α)):List α:=a.flatMap λt=>t.1++t.2.2
noncomputable def fB(a:List (Sg α)):List α:=a.flatMap λt=>t.2.1++t.2.2
noncomputable def fM(a:List (Sg α)):List α:=a.flatMap λt=>t.1++(t.2.1++t.2.2)
noncomputable def G9(a:List (Sg α)):List α:=a.flatMap λt=>t.1
noncomputable def Fv(a:List (Sg α)):List α:=a.flatMap λt=>t.2.1
noncomputable def fE(a:List (Sg α)):List α:=a.flatMap λt=>t.2.2
noncomputable def HM:List (Sg α)->Prop
 |[]=>True
 |t::a=>(t.2.1≠[]->t.2.2=[]->fA a=[])/\HM a
noncomputable def C3(n:Nat)(a:List (Sg α)):Prop:=HM a->(fA a).Nodup->(fB a).Nodup->(∀b∈G9 a,b∉fB a)->(∀b∈Fv a,b∉fA a)->(fA a).length+(fB a).length<n->Y n (fA a) (fB a)=some (fM a)
theorem WD{n:Nat}{f:α}{q g d:List α}{a:List (Sg α)}(s:C3 n ((q,g,d)::a)):C3 (n+1) ((f::q,g,d)::a):=by
 intro k nA nB l m B
 have s:=s k (List.nodup_cons.mp nA).2 nB (λb e=>l b (List.mem_cons_of_mem _ e)) (λb e r=>m b e (List.mem_cons_of_mem _ r)) (by
  have y:(fA ((f::q,g,d)::a)).length=(fA ((q,g,d)::a)).length+1:=rfl
  have w:(fB ((f::q,g,d)::a)).length=(fB ((q,g,d)::a)).length:=rfl
  rw[y,w] at B
  lia)
 have a3:f∉fB ((f::q,g,d)::a):=l f (List.mem_cons_self ..)
 have E:fA ((f::q,g,d)::a)=f::fA ((q,g,d)::a):=rfl
 have z:fB ((f::q,g,d)::a)=fB ((q,g,d)::a):=rfl
 have R:fM ((f::q,g,d)::a)=f::fM ((q,g,d)::a):=rfl
 rw[z] at a3
 rw[E,z,R]
 cases b3:fB ((q,g,d)::a) with
 |nil=>
  rw[b3] at s
  show(Y n _ []).map _=_
  rw[s]; rfl
 |cons h i=>
  rw[b3] at s a3
  show(if f∈i then _ else if h=f then _ else(Y n _ (h::i)).map _)=_
  rw[if_neg (λc=>a3 (List.mem_cons_of_mem _ c)),if_neg (λc=>a3 (by rw[c]; exact List.mem_cons_self ..)),s]; rfl
theorem WH{n:Nat}{h:α}{g d:List α}{a:List (Sg α)}(s:C3 n (([],g,d)::a)):C3 (n+1) (([],h::g,d)::a):=by
 intro k nA nB l m B
 have E:fA (([],h::g,d)::a)=fA (([],g,d)::a):=rfl
 have z:fB (([],h::g,d)::a)=h::fB (([],g,d)::a):=rfl
 have R:fM (([],h::g,d)::a)=h::fM (([],g,d)::a):=rfl
 have a6:h∉fA (([],h::g,d)::a):=m h (List.mem_cons_self ..)
 have s:=s ⟨λ_ A=>k.1 (by simp) A,k.2⟩ nA (List.nodup_cons.mp nB).2 (λb e r=>l b e (List.mem_cons_of_mem _ r)) (λb e=>m b (List.mem_cons_of_mem _ e)) (by
  rw[z,List.length_cons,E] at B; lia)
 rw[E] at a6
 rw[E,z,R]
 cases d with
 |nil=>
  have b8:fA (([],g,[])::a)=[]:=k.1 (by simp) rfl
  rw[b8] at s ⊢
  show(Y n [] _).map _=_
  rw[s]; rfl
 |cons b d=>
  have b7:fA (([],g,b::d)::a)=b::fA (([],[],d)::a):=rfl
  rw[b7] at s a6 ⊢
  have e:b∈fB (([],g,b::d)::a):=by simp[fB]
  show(if b∈_ then(if h∈_ then none else(Y n _ _).map _) else _)=_
  rw[if_pos e,if_neg (λc=>a6 (List.mem_cons_of_mem _ c)),s]; rfl
theorem WI{n:Nat}{b:α}{d:List α}{a:List (Sg α)}(s:C3 n (([],[],d)::a)):C3 (n+1) (([],[],b::d)::a):=by
 intro k nA nB l m B
 have E:fA (([],[],b::d)::a)=b::fA (([],[],d)::a):=rfl
 have z:fB (([],[],b::d)::a)=b::fB (([],[],d)::a):=rfl
 have R:fM (([],[],b::d)::a)=b::fM (([],[],d)::a):=rfl
 have s:=s ⟨λc=>absurd rfl c,k.2⟩ (List.nodup_cons.mp nA).2 (List.nodup_cons.mp nB).2 (λx S r=>l x S (List.mem_cons_of_mem _ r)) (λx S r=>m x S (List.mem_cons_of_mem _ r)) (by
  rw[E,z,List.length_cons,List.length_cons] at B; lia)
 rw[E,z,R]
 rw[z] at nB
 show(if b∈_ then _ else if b=b then(Y n _ _).map _ else _)=_
 rw[if_neg (List.nodup_cons.mp nB).1,if_pos rfl,s]; rfl
theorem Ip(n:Nat):∀a:List (Sg α),C3 n a:=by
 induction n with
 |zero=>intro a _ _ _ _ _ c; exact absurd c (Nat.not_lt_zero _)
 |succ n s=>
  intro a
  induction a with
  |nil=>intro _ _ _ _ _ _; rfl
  |cons t a c8=>
   obtain⟨q,g,d⟩:=t
   cases q with
   |cons f q=>exact WD (s _)
   |nil=>
    cases g with
    |cons h g=>exact WH (s _)
    |nil=>
     cases d with
     |cons b d=>exact WI (s _)
     |nil=>intro k; exact c8 k.2
theorem F5{a:List (Sg α)}{b:α}:b∈fA a↔b∈G9 a∨b∈fE a:=by
 simp only[fA,G9,fE,List.mem_flatMap,List.mem_append]
 constructor
 ·rintro ⟨t,p,c |c⟩
  ·exact .inl ⟨t,p,c⟩
  ·exact .inr ⟨t,p,c⟩
 ·rintro (⟨t,p,c⟩ |⟨t,p,c⟩)
  ·exact⟨t,p,.inl c⟩
  ·exact⟨t,p,.inr c⟩
theorem F3{a:List (Sg α)}{b:α}:b∈fB a↔b∈Fv a∨b∈fE a:=by
 simp only[fB,Fv,fE,List.mem_flatMap,List.mem_append]
 constructor
 ·rintro ⟨t,p,c |c⟩
  ·exact .inl ⟨t,p,c⟩
  ·exact .inr ⟨t,p,c⟩
 ·rintro (⟨t,p,c⟩ |⟨t,p,c⟩)
  ·exact⟨t,p,.inl c⟩
  ·exact⟨t,p,.inr c⟩
theorem EU:∀{a:List (Sg α)},(fA a).Nodup->∀b∈G9 a,b∉fE a
 |[],_,b,e=>by simp[G9] at e
 |(q,g,d)::a,L,b,e=>λA=>by
  have L:(q++d++fA a).Nodup:=L
  obtain⟨a8,a9,T⟩:=List.nodup_append.mp L
  obtain⟨c6,c7,a7⟩:=List.nodup_append.mp a8
  have e:b∈q++G9 a:=e
  have A:b∈d++fE a:=A
  rcases List.mem_append.mp e with c |c <;> rcases List.mem_append.mp A with k |k
  ·exact a7 b c b k rfl
  ·exact T b (List.mem_append_left _ c) b (F5.mpr (.inr k)) rfl
  ·exact T b (List.mem_append_right _ k) b (F5.mpr (.inl c)) rfl
  ·exact EU a9 b c k
theorem GP:∀{a:List (Sg α)},(fB a).Nodup->∀b∈Fv a,b∉fE a
 |[],_,b,e=>by simp[Fv] at e
 |(q,g,d)::a,L,b,e=>λA=>by
  have L:(g++d++fB a).Nodup:=L
  obtain⟨a8,a9,T⟩:=List.nodup_append.mp L
  obtain⟨c6,c7,a7⟩:=List.nodup_append.mp a8
  have e:b∈g++Fv a:=e
  have A:b∈d++fE a:=A
  rcases List.mem_append.mp e with c |c <;> rcases List.mem_append.mp A with k |k
  ·exact a7 b c b k rfl
  ·exact T b (List.mem_append_left _ c) b (F3.mpr (.inr k)) rfl
  ·exact T b (List.mem_append_right _ k) b (F3.mpr (.inl c)) rfl
  ·exact GP a9 b c k
theorem Mh{n:Nat}{a:List (Sg α)}(k:HM a)(nA:(fA a).Nodup)(nB:(fB a).Nodup)(c:∀b∈G9 a,b∉Fv a)(B:(fA a).length+(fB a).length<n):Y n (fA a) (fB a)=some (fM a):=
 Ip n a k nA nB (λb e r=>(F3.mp r).elim (c b e) (EU nA b e)) (λb e r=>(F5.mp r).elim (λa5=>c b a5 e) (GP nB b e)) B
theorem PK{a:List (Sg α)}(nA:(fA a).Nodup)(nB:(fB a).Nodup)(c:∀b∈G9 a,b∉Fv a)(d:fA a=fB a):fM a=fA a:=by
 have l:G9 a=[]:=List.eq_nil_iff_forall_not_mem.mpr λb e=>by
  have:b∈fB a:=d▸F5.mpr (.inl e)
  exact(F3.mp this).elim (c b e) (EU nA b e)
 have m:Fv a=[]:=List.eq_nil_iff_forall_not_mem.mpr λb e=>by
  have:b∈fA a:=d▸F3.mpr (.inl e)
  exact(F5.mp this).elim (λa5=>c b a5 e) (GP nB b e)
 have b4:∀t∈a,t.1=[]/\t.2.1=[]:=λt p=>⟨List.flatMap_eq_nil_iff.mp l t p,List.flatMap_eq_nil_iff.mp m t p⟩
 unfold fM fA
 clear nA nB c d l m
 induction a with
 |nil=>rfl
 |cons t a s=>
  rw[List.flatMap_cons,List.flatMap_cons,s λt p=>b4 t (List.mem_cons_of_mem _ p)]
  obtain⟨c4,c5⟩:=b4 t (List.mem_cons_self ..)
  rw[c4,c5]; rfl
end
end
section
noncomputable def lQ:OpenLaw:={prog:=LX,name:=Wi [108,97,119],about:=[Wi [117,110,105,102,105,101,100,95,100,105,102,102]],foot:=2,most:=some 63,bound:=none,writes:=false}
theorem WL:Str.ofString "law" = Wi [108,97,119]:=by kernel_rfl
theorem W9:Str.ofString "unified_diff" = Wi [117,110,105,102,105,101,100,95,100,105,102,102]:=by kernel_rfl
theorem WA:PySem.Challenge.rw_mu0002_05=lQ:=by
 show({prog:=PySem.Challenge.pw_mu0002_05,name:=Str.ofString "law",about:=[Str.ofString "unified_diff"],foot:=2,most:=some 63,bound:=none,writes:=false}:OpenLaw)=lQ
 rw[Wk,WL,W9,lQ]
set_option maxHeartbeats 0 in
theorem WG(a:lQ.row.wellSaid=true->lQ.row.Holds):OpenLaw.Holds lQ:=by
 o_law
 exact a (by assumption)
theorem WJ(a:PySem.Challenge.rw_mu0002_05.row.wellSaid=true->PySem.Challenge.rw_mu0002_05.row.Holds):PySem.Challenge.rw_mu0002_05.Holds:=by
 rw[WA] at a ⊢
 exact WG a
end
section
noncomputable abbrev S(z:List Nat):Str:=⟨⟨z⟩⟩
noncomputable abbrev N0:Str:=S [47,99,108,97,105,109,47,99,117,116,46,112,121]
noncomputable abbrev N1:Str:=S [99,112,121,51,49,51,46,100,105,102,102,108,105,98]
noncomputable abbrev N2:Str:=S [114,101,115,116]
noncomputable abbrev N3:Str:=S [107,105,110,100]
noncomputable abbrev N4:Str:=S [108,105,110,101]
noncomputable abbrev N5:Str:=S [45,45,45,32,10]
noncomputable abbrev N6:Str:=S [43,43,43,32,10]
noncomputable abbrev N7:Str:=S [103,101,116,95,103,114,111,117,112,101,100,95,111,112,99,111,100,101,115]
noncomputable abbrev N8:Str:=S [83,101,113,117,101,110,99,101,77,97,116,99,104,101,114,46,103,101,116,95,103,114,111,117,112,101,100,95,111,112,99,111,100,101,115]
noncomputable abbrev N9:Str:=S [77,97,116,99,104]
noncomputable abbrev NF:Str:=S [83,101,113,117,101,110,99,101,77,97,116,99,104,101,114]
noncomputable abbrev NL:Str:=S [117,110,105,102,105,101,100,95,100,105,102,102]
noncomputable abbrev Nk:Str:=S [95,99,51,95,109,101,114,103,101]
noncomputable abbrev Oz:Str:=S [95,102,111,114,109,97,116,95,114,97,110,103,101,95,117,110,105,102,105,101,100]
noncomputable abbrev ON:Str:=S [95,99,104,101,99,107,95,116,121,112,101,115]
noncomputable abbrev Py:Str:=S [95,108,97,119,95,108,105,110,101]
noncomputable abbrev Oa:Str:=S [114,101,112,108,97,99,101]
noncomputable abbrev Pd:Str:=S [100,101,108,101,116,101]
noncomputable abbrev OP:Str:=S [105,110,115,101,114,116]
noncomputable abbrev Qb:Str:=S [95,95,100,111,99,95,95]
noncomputable abbrev Sw:Str:=S [108,97,119,95,109,117,48,48,48,50,95,48,53]
noncomputable abbrev Rz:Str:=S [95,95,105,110,105,116,95,95]
noncomputable abbrev RI:Str:=S [115,101,116,95,115,101,113,115]
noncomputable abbrev RA:Str:=S [115,101,116,95,115,101,113,49]
noncomputable abbrev RG:Str:=S [115,101,116,95,115,101,113,50]
noncomputable abbrev S2:Str:=S [102,105,110,100,95,108,111,110,103,101,115,116,95,109,97,116,99,104]
noncomputable abbrev RM:Str:=S [103,101,116,95,109,97,116,99,104,105,110,103,95,98,108,111,99,107,115]
noncomputable abbrev RO:Str:=S [103,101,116,95,111,112,99,111,100,101,115]
noncomputable abbrev UD:Str:=S [95,95,102,105,114,115,116,108,105,110,101,110,111,95,95]
noncomputable abbrev Tl:Str:=S [95,95,115,116,97,116,105,99,95,97,116,116,114,105,98,117,116,101,115,95,95]
noncomputable abbrev TC:Str:=S [83,101,113,117,101,110,99,101,77,97,116,99,104,101,114,46,95,95,105,110,105,116,95,95]
noncomputable abbrev TM:Str:=S [83,101,113,117,101,110,99,101,77,97,116,99,104,101,114,46,115,101,116,95,115,101,113,115]
noncomputable abbrev V8:Str:=S [83,101,113,117,101,110,99,101,77,97,116,99,104,101,114,46,115,101,116,95,115,101,113,49]
noncomputable abbrev Ul:Str:=S [83,101,113,117,101,110,99,101,77,97,116,99,104,101,114,46,115,101,116,95,115,101,113,50]
noncomputable abbrev Ts:Str:=S [83,101,113,117,101,110,99,101,77,97,116,99,104,101,114,46,95,95,99,104,97,105,110,95,98]
noncomputable abbrev T9:Str:=S [83,101,113,117,101,110,99,101,77,97,116,99,104,101,114,46,102,105,110,100,95,108,111,110,103,101,115,116,95,109,97,116,99,104]
noncomputable abbrev Tp:Str:=S [83,101,113,117,101,110,99,101,77,97,116,99,104,101,114,46,103,101,116,95,109,97,116,99,104,105,110,103,95,98,108,111,99,107,115]
noncomputable abbrev Tu:Str:=S [83,101,113,117,101,110,99,101,77,97,116,99,104,101,114,46,103,101,116,95,111,112,99,111,100,101,115]
noncomputable def B6:Stmt:=.Pass default
noncomputable def W{α:Type}(h:α):List α->Nat->α
 |[],_=>h
 |x::_,0=>x
 |_::z,e+1=>W h z e
noncomputable def C2(M:Nat):Stmt:=W B6 LX.main.body M
noncomputable def SO:Stmt->List Stmt
 |.ClassDef _ _ _ O _ _ _ _ _ _ _=>O
 |_=>[]
noncomputable def AQ(M R:Nat):Stmt:=W B6 (SO (C2 M)) R
noncomputable def SB:Stmt->Str
 |.Expr (.Constant (.str n) _ _) _=>n
 |_=>S []
noncomputable def ke(a:Params)(n:Str)(T:Nat)(a2:Value):DictEntry:=⟨PyData.keyHash a n,.str n T,a2⟩
noncomputable def B2:Stmt->List Stmt
 |.FunctionDef _ _ O _ _ _ _ _ _ _=>O
 |_=>[]
noncomputable abbrev C(z:List Nat)(M:Nat):Nat:=W 0 z M
def T7:Nat->Nat->List Nat->List Nat
 |0,_,H=>H
 |f+1,e,H=>match Nat.ble e 1 with
  |true=>H
  |false=>T7 f (e / 64) (e % 64::H)
def hd(e:Nat):List Nat:=T7 2000 e []
def Br:Stmt->Arguments
 |.FunctionDef _ H _ _ _ _ _ _ _ _=>H
 |_=>default
noncomputable def BF:Stmt->Scope
 |.FunctionDef _ _ _ _ _ _ a0 _ _ _=>a0
 |_=>default
noncomputable def Ec(a1:Stmt):Str:=match B2 a1 with
 |.Expr (.Constant (.str n) _ _) _::_=>n
 |_=>S []
noncomputable def SM(a:Params):Obj:=⟨(.type PySem.W.SL.s14018661285674007319x4),none,(.dict ⟨[ke a (S [95,95,110,97,109,101,95,95]) 1 (.str (S [98,117,105,108,116,105,110,115]) 160),ke a Qb 2 (.builtin "builtins.__doc__:str#opaque"),ke a (S [95,95,112,97,99,107,97,103,101,95,95]) 3 (.builtin "builtins.__package__:str#opaque"),ke a (S [95,95,108,111,97,100,101,114,95,95]) 4 (.builtin "builtins.__loader__:shared#opaque"),ke a (S [95,95,115,112,101,99,95,95]) 5 (.builtin PySem.W.SL.s11665532747177232413x24),ke a (S [95,95,98,117,105,108,100,95,99,108,97,115,115,95,95]) 6 (.builtin PySem.W.SL.s15183661809925369436x15),ke a (S [95,95,105,109,112,111,114,116,95,95]) 7 (.builtin PySem.W.SL.s13915890719876406383x10),ke a (S [97,98,115]) 8 (.builtin PySem.W.SL.s13459172003223722735x3),ke a (S [97,108,108]) 9 (.builtin PySem.W.SL.s10557405761357834076x3),ke a (S [97,110,121]) 10 (.builtin PySem.W.SL.s4233737765568776869x3),ke a (S [97,115,99,105,105]) 11 (.builtin PySem.W.SL.s2508922471967985374x5),ke a (S [98,105,110]) 12 (.builtin PySem.W.SL.s15574269061696679450x3),ke a (S [98,114,101,97,107,112,111,105,110,116]) 13 (.builtin PySem.W.SL.s6016482663378992977x10),ke a (S [99,97,108,108,97,98,108,101]) 14 (.builtin PySem.W.SL.s5596568736180474577x8),ke a (S [99,104,114]) 15 (.builtin PySem.W.SL.s2839554839881490554x3),ke a (S [99,111,109,112,105,108,101]) 16 (.builtin PySem.W.SL.s725004073602090463x7),ke a (S [100,101,108,97,116,116,114]) 17 (.builtin PySem.W.SL.s9436932552931045734x7),ke a (S [100,105,114]) 18 (.builtin PySem.W.SL.s2754603736356183583x3),ke a (S [100,105,118,109,111,100]) 19 (.builtin PySem.W.SL.s15185746759980889043x6),ke a (S [101,118,97,108]) 20 (.builtin PySem.W.SL.s8192189862530294059x4),ke a (S [101,120,101,99]) 21 (.builtin PySem.W.SL.s7038307821325472102x4),ke a (S [102,111,114,109,97,116]) 22 (.builtin PySem.W.SL.s5662562618415449548x6),ke a (S [103,101,116,97,116,116,114]) 23 (.builtin PySem.W.SL.s15281542589158584767x7),ke a (S [103,108,111,98,97,108,115]) 24 (.builtin PySem.W.SL.s17651547275483570877x7),ke a (S [104,97,115,97,116,116,114]) 25 (.builtin PySem.W.SL.s4036449017235975746x7),ke a (S [104,97,115,104]) 26 (.builtin PySem.W.SL.s8879979712987360175x4),ke a (S [104,101,120]) 27 (.builtin PySem.W.SL.s1801250619170735830x3),ke a (S [105,100]) 28 (.builtin PySem.W.SL.s17659931425627118568x2),ke a (S [105,110,112,117,116]) 29 (.builtin PySem.W.SL.s6063217899685152688x5),ke a (S [105,115,105,110,115,116,97,110,99,101]) 30 (.builtin PySem.W.SL.s8008927332132565319x10),ke a (S [105,115,115,117,98,99,108,97,115,115]) 31 (.builtin PySem.W.SL.s3544116645089599534x10),ke a (S [105,116,101,114]) 32 (.builtin PySem.W.SL.s13761710972054866084x4),ke a (S [97,105,116,101,114]) 33 (.builtin PySem.W.SL.s12896375587409280029x5),ke a (S [108,101,110]) 34 (.builtin PySem.W.SL.s13014049009108672802x3),ke a (S [108,111,99,97,108,115]) 35 (.builtin PySem.W.SL.s13935586738268321596x6),ke a (S [109,97,120]) 36 (.builtin PySem.W.SL.s8200498257699607233x3),ke a (S [109,105,110]) 37 (.builtin PySem.W.SL.s14114244577727609259x3),ke a (S [110,101,120,116]) 38 (.builtin PySem.W.SL.s1499430450269397089x4),ke a (S [97,110,101,120,116]) 39 (.builtin PySem.W.SL.s8755793994789770505x5),ke a (S [111,99,116]) 40 (.builtin PySem.W.SL.s15725212667919936108x3),ke a (S [111,114,100]) 41 (.builtin PySem.W.SL.s15791221867095933363x3),ke a (S [112,111,119]) 42 (.builtin PySem.W.SL.s81309575031448614x3),ke a (S [112,114,105,110,116]) 43 (.builtin PySem.W.SL.s8069831620301644142x5),ke a (S [114,101,112,114]) 44 (.builtin PySem.W.SL.s10061844253413749634x4),ke a (S [114,111,117,110,100]) 45 (.builtin PySem.W.SL.s9496514870978017513x5),ke a (S [115,101,116,97,116,116,114]) 46 (.builtin PySem.W.SL.s8899691144933366716x7),ke a (S [115,111,114,116,101,100]) 47 (.builtin PySem.W.SL.s15201008993051130160x6),ke a (S [115,117,109]) 48 (.builtin PySem.W.SL.s741896355592496720x3),ke a (S [118,97,114,115]) 49 (.builtin PySem.W.SL.s17925004256654032244x4),ke a (S [78,111,110,101]) 50 .none,ke a (S [69,108,108,105,112,115,105,115]) 51 .ellipsis,ke a (S [78,111,116,73,109,112,108,101,109,101,110,116,101,100]) 52 .notImplemented,ke a (S [70,97,108,115,101]) 53 (.bool false),ke a (S [84,114,117,101]) 54 (.bool true),ke a (S [98,111,111,108]) 55 (.type PySem.W.SL.s11695548795398191787x4),ke a (S [109,101,109,111,114,121,118,105,101,119]) 56 (.type PySem.W.SL.s4156966113859768872x10),ke a (S [98,121,116,101,97,114,114,97,121]) 57 (.type PySem.W.SL.s9501651726347032510x9),ke a (S [98,121,116,101,115]) 58 (.type PySem.W.SL.s15722918466584999320x5),ke a (S [99,108,97,115,115,109,101,116,104,111,100]) 59 (.type PySem.W.SL.s591115383303110208x11),ke a (S [99,111,109,112,108,101,120]) 60 (.type PySem.W.SL.s15721156781594690315x7),ke a (S [100,105,99,116]) 61 (.type PySem.W.SL.s14018661285674007319x4),ke a (S [101,110,117,109,101,114,97,116,101]) 62 (.type PySem.W.SL.s14340494229221121180x9),ke a (S [102,105,108,116,101,114]) 63 (.type PySem.W.SL.s13429844117177748173x6),ke a (S [102,108,111,97,116]) 64 (.type PySem.W.SL.s16463266125957815391x5),ke a (S [102,114,111,122,101,110,115,101,116]) 65 (.type PySem.W.SL.s4922535414793169389x9),ke a (S [112,114,111,112,101,114,116,121]) 66 (.type PySem.W.SL.s8101838861749082086x8),ke a (S [105,110,116]) 67 (.type PySem.W.SL.s7066276694103001551x3),ke a (S [108,105,115,116]) 68 (.type PySem.W.SL.s9222952809800978799x4),ke a (S [109,97,112]) 69 (.type PySem.W.SL.s462964344163437139x3),ke a (S [111,98,106,101,99,116]) 70 (.type PySem.W.SL.s2742458400755230247x6),ke a (S [114,97,110,103,101]) 71 (.type PySem.W.SL.s1438033511350832697x5),ke a (S [114,101,118,101,114,115,101,100]) 72 (.type PySem.W.SL.s14365286008749172514x8),ke a (S [115,101,116]) 73 (.type PySem.W.SL.s3642769012341782148x3),ke a (S [115,108,105,99,101]) 74 (.type PySem.W.SL.s4674234679698826739x5),ke a (S [115,116,97,116,105,99,109,101,116,104,111,100]) 75 (.type PySem.W.SL.s16656946322747308186x12),ke a (S [115,116,114]) 76 (.type PySem.W.SL.s10796804682411823810x3),ke a (S [115,117,112,101,114]) 77 (.type PySem.W.SL.s4290257624100764138x5),ke a (S [116,117,112,108,101]) 78 (.type PySem.W.SL.s2766695959194262286x5),ke a (S [116,121,112,101]) 79 (.type PySem.W.SL.s17162191345867700912x4),ke a (S [122,105,112]) 80 (.type PySem.W.SL.s14339709457334898076x3),ke a (S [95,95,100,101,98,117,103,95,95]) 81 (.bool true),ke a (S [66,97,115,101,69,120,99,101,112,116,105,111,110]) 82 (.type PySem.W.SL.s4278001404047624695x13),ke a (S [66,97,115,101,69,120,99,101,112,116,105,111,110,71,114,111,117,112]) 83 (.type PySem.W.SL.s6585700554429387442x18),ke a (S [69,120,99,101,112,116,105,111,110]) 84 (.type PySem.W.SL.s5946037652744460706x9),ke a (S [71,101,110,101,114,97,116,111,114,69,120,105,116]) 85 (.type PySem.W.SL.s7410770068591931388x13),ke a (S [75,101,121,98,111,97,114,100,73,110,116,101,114,114,117,112,116]) 86 (.type PySem.W.SL.s11817881795495490833x17),ke a (S [83,121,115,116,101,109,69,120,105,116]) 87 (.type PySem.W.SL.s15679963881808890155x10),ke a (S [65,114,105,116,104,109,101,116,105,99,69,114,114,111,114]) 88 (.type PySem.W.SL.s3871700062485845797x15),ke a (S [65,115,115,101,114,116,105,111,110,69,114,114,111,114]) 89 (.type PySem.W.SL.s7689518266570723881x14),ke a (S [65,116,116,114,105,98,117,116,101,69,114,114,111,114]) 90 (.type PySem.W.SL.s9001593270443806431x14),ke a (S [66,117,102,102,101,114,69,114,114,111,114]) 91 (.type PySem.W.SL.s6882542574934516792x11),ke a (S [69,79,70,69,114,114,111,114]) 92 (.type PySem.W.SL.s14403400214490484960x8),ke a (S [73,109,112,111,114,116,69,114,114,111,114]) 93 (.type PySem.W.SL.s14457978657717015782x11),ke a (S [76,111,111,107,117,112,69,114,114,111,114]) 94 (.type PySem.W.SL.s1753610191782819921x11),ke a (S [77,101,109,111,114,121,69,114,114,111,114]) 95 (.type PySem.W.SL.s14119380538032626715x11),ke a (S [78,97,109,101,69,114,114,111,114]) 96 (.type PySem.W.SL.s11437920000406562045x9),ke a (S [79,83,69,114,114,111,114]) 97 (.type PySem.W.SL.s10852414792293593619x7),ke a (S [82,101,102,101,114,101,110,99,101,69,114,114,111,114]) 98 (.type PySem.W.SL.s14816307405966870543x14),ke a (S [82,117,110,116,105,109,101,69,114,114,111,114]) 99 (.type PySem.W.SL.s8682627914449686677x12),ke a (S [83,116,111,112,65,115,121,110,99,73,116,101,114,97,116,105,111,110]) 100 (.type PySem.W.SL.s4428170145600203450x18),ke a (S [83,116,111,112,73,116,101,114,97,116,105,111,110]) 101 (.type PySem.W.SL.s5991306692159431302x13),ke a (S [83,121,110,116,97,120,69,114,114,111,114]) 102 (.type PySem.W.SL.s16067994140765818257x11),ke a (S [83,121,115,116,101,109,69,114,114,111,114]) 103 (.type PySem.W.SL.s2327743974964600596x11),ke a (S [84,121,112,101,69,114,114,111,114]) 104 (.type PySem.W.SL.s2804747833354056582x9),ke a (S [86,97,108,117,101,69,114,114,111,114]) 105 (.type PySem.W.SL.s6070975301684473832x10),ke a (S [87,97,114,110,105,110,103]) 106 (.type PySem.W.SL.s14270485950484850486x7),ke a (S [70,108,111,97,116,105,110,103,80,111,105,110,116,69,114,114,111,114]) 107 (.type PySem.W.SL.s12041534306414923332x18),ke a (S [79,118,101,114,102,108,111,119,69,114,114,111,114]) 108 (.type PySem.W.SL.s2531307568338490285x13),ke a (S [90,101,114,111,68,105,118,105,115,105,111,110,69,114,114,111,114]) 109 (.type PySem.W.SL.s631175304937289666x17),ke a (S [66,121,116,101,115,87,97,114,110,105,110,103]) 110 (.type PySem.W.SL.s5144983644357021410x12),ke a (S [68,101,112,114,101,99,97,116,105,111,110,87,97,114,110,105,110,103]) 111 (.type PySem.W.SL.s18039099521571816885x18),ke a (S [69,110,99,111,100,105,110,103,87,97,114,110,105,110,103]) 112 (.type PySem.W.SL.s6011586214260557989x15),ke a (S [70,117,116,117,114,101,87,97,114,110,105,110,103]) 113 (.type PySem.W.SL.s5430567037509283100x13),ke a (S [73,109,112,111,114,116,87,97,114,110,105,110,103]) 114 (.type PySem.W.SL.s8117915138073963741x13),ke a (S [80,101,110,100,105,110,103,68,101,112,114,101,99,97,116,105,111,110,87,97,114,110,105,110,103]) 115 (.type PySem.W.SL.s3423317712779056401x25),ke a (S [82,101,115,111,117,114,99,101,87,97,114,110,105,110,103]) 116 (.type PySem.W.SL.s2007317383269046180x15),ke a (S [82,117,110,116,105,109,101,87,97,114,110,105,110,103]) 117 (.type PySem.W.SL.s17481586968713580700x14),ke a (S [83,121,110,116,97,120,87,97,114,110,105,110,103]) 118 (.type PySem.W.SL.s2450899226349176912x13),ke a (S [85,110,105,99,111,100,101,87,97,114,110,105,110,103]) 119 (.type PySem.W.SL.s16626165730633575011x14),ke a (S [85,115,101,114,87,97,114,110,105,110,103]) 120 (.type PySem.W.SL.s14288496050688921416x11),ke a (S [66,108,111,99,107,105,110,103,73,79,69,114,114,111,114]) 121 (.type PySem.W.SL.s5735081916595925998x15),ke a (S [67,104,105,108,100,80,114,111,99,101,115,115,69,114,114,111,114]) 122 (.type PySem.W.SL.s3865607918536308442x17),ke a (S [67,111,110,110,101,99,116,105,111,110,69,114,114,111,114]) 123 (.type PySem.W.SL.s13337502604062700212x15),ke a (S [70,105,108,101,69,120,105,115,116,115,69,114,114,111,114]) 124 (.type PySem.W.SL.s13114017843053701147x15),ke a (S [70,105,108,101,78,111,116,70,111,117,110,100,69,114,114,111,114]) 125 (.type PySem.W.SL.s17467278006356818441x17),ke a (S [73,110,116,101,114,114,117,112,116,101,100,69,114,114,111,114]) 126 (.type PySem.W.SL.s17722149559621369488x16),ke a (S [73,115,65,68,105,114,101,99,116,111,114,121,69,114,114,111,114]) 127 (.type PySem.W.SL.s7855274175708717672x17),ke a (S [78,111,116,65,68,105,114,101,99,116,111,114,121,69,114,114,111,114]) 128 (.type PySem.W.SL.s13351283678309829046x18),ke a (S [80,101,114,109,105,115,115,105,111,110,69,114,114,111,114]) 129 (.type PySem.W.SL.s6668348653404991179x15),ke a (S [80,114,111,99,101,115,115,76,111,111,107,117,112,69,114,114,111,114]) 130 (.type PySem.W.SL.s12913350958174193794x18),ke a (S [84,105,109,101,111,117,116,69,114,114,111,114]) 131 (.type PySem.W.SL.s16115879512475548326x12),ke a (S [73,110,100,101,110,116,97,116,105,111,110,69,114,114,111,114]) 132 (.type PySem.W.SL.s15920661018069861047x16),ke a (S [95,73,110,99,111,109,112,108,101,116,101,73,110,112,117,116,69,114,114,111,114]) 133 (.type PySem.W.SL.s10779130036587390575x21),ke a (S [73,110,100,101,120,69,114,114,111,114]) 134 (.type PySem.W.SL.s7801419657504700863x10),ke a (S [75,101,121,69,114,114,111,114]) 135 (.type PySem.W.SL.s1688129525768580628x8),ke a (S [77,111,100,117,108,101,78,111,116,70,111,117,110,100,69,114,114,111,114]) 136 (.type PySem.W.SL.s1031832959479892071x19),ke a (S [78,111,116,73,109,112,108,101,109,101,110,116,101,100,69,114,114,111,114]) 137 (.type PySem.W.SL.s8991790508128307865x19),ke a (S [80,121,116,104,111,110,70,105,110,97,108,105,122,97,116,105,111,110,69,114,114,111,114]) 138 (.type PySem.W.SL.s14539662485746970245x23),ke a (S [82,101,99,117,114,115,105,111,110,69,114,114,111,114]) 139 (.type PySem.W.SL.s11643622729373238714x14),ke a (S [85,110,98,111,117,110,100,76,111,99,97,108,69,114,114,111,114]) 140 (.type PySem.W.SL.s3386828779285465597x17),ke a (S [85,110,105,99,111,100,101,69,114,114,111,114]) 141 (.type PySem.W.SL.s13042696260734638735x12),ke a (S [66,114,111,107,101,110,80,105,112,101,69,114,114,111,114]) 142 (.type PySem.W.SL.s18239426817015966623x15),ke a (S [67,111,110,110,101,99,116,105,111,110,65,98,111,114,116,101,100,69,114,114,111,114]) 143 (.type PySem.W.SL.s1270395311379034370x22),ke a (S [67,111,110,110,101,99,116,105,111,110,82,101,102,117,115,101,100,69,114,114,111,114]) 144 (.type PySem.W.SL.s10696252587037064777x22),ke a (S [67,111,110,110,101,99,116,105,111,110,82,101,115,101,116,69,114,114,111,114]) 145 (.type PySem.W.SL.s7852717498200857586x20),ke a (S [84,97,98,69,114,114,111,114]) 146 (.type PySem.W.SL.s6377248116197321094x8),ke a (S [85,110,105,99,111,100,101,68,101,99,111,100,101,69,114,114,111,114]) 147 (.type PySem.W.SL.s3834378056692298002x18),ke a (S [85,110,105,99,111,100,101,69,110,99,111,100,101,69,114,114,111,114]) 148 (.type PySem.W.SL.s17586630440231065808x18),ke a (S [85,110,105,99,111,100,101,84,114,97,110,115,108,97,116,101,69,114,114,111,114]) 149 (.type PySem.W.SL.s15234114252648025395x21),ke a (S [69,120,99,101,112,116,105,111,110,71,114,111,117,112]) 150 (.type PySem.W.SL.s8496462677383758984x14),ke a (S [69,110,118,105,114,111,110,109,101,110,116,69,114,114,111,114]) 151 (.type PySem.W.SL.s10852414792293593619x7),ke a (S [73,79,69,114,114,111,114]) 152 (.type PySem.W.SL.s10852414792293593619x7),ke a (S [111,112,101,110]) 153 (.builtin PySem.W.SL.s16789243406116112673x4),ke a (S [113,117,105,116]) 154 (.builtin PySem.W.SL.s14400166428656793546x20),ke a (S [101,120,105,116]) 155 (.builtin PySem.W.SL.s5857708277339239366x20),ke a (S [99,111,112,121,114,105,103,104,116]) 156 (.builtin "builtins.copyright#opaque"),ke a (S [99,114,101,100,105,116,115]) 157 (.builtin "builtins.credits#opaque"),ke a (S [108,105,99,101,110,115,101]) 158 (.builtin "builtins.license#opaque"),ke a (S [104,101,108,112]) 159 (.builtin PySem.W.SL.s7804999707787243718x20)]⟩ 159),⟨[]⟩⟩
noncomputable def Sq(a:Params):Obj:=⟨.none,none,(.dict ⟨[]⟩ 0),⟨[]⟩⟩
noncomputable def RF(a:Params):Obj:=⟨(.type PySem.W.SL.s14018661285674007319x4),none,(.dict ⟨[ke a (S [95,95,110,97,109,101,95,95]) 165 (.str Sw 657),ke a Qb 166 .none,ke a (S [95,95,112,97,99,107,97,103,101,95,95]) 167 .none,ke a (S [95,95,108,111,97,100,101,114,95,95]) 168 (.builtin PySem.W.SL.s7097527257260152453x26),ke a (S [95,95,115,112,101,99,95,95]) 169 .none,ke a (S [95,95,97,110,110,111,116,97,116,105,111,110,115,95,95]) 170 (.ref 6),ke a (S [95,95,98,117,105,108,116,105,110,115,95,95]) 171 (.ref 4),ke a (S [95,95,102,105,108,101,95,95]) 173 (.str N0 172),ke a (S [95,95,99,97,99,104,101,100,95,95]) 174 .none,ke a (S [95,119,97,108,108]) 193 (.ref 21),ke a (S [95,116,117,112,108,101,103,101,116,116,101,114]) 252 (.ref 60),ke a N9 380 (.ref 135),ke a (S [95,99,97,108,99,117,108,97,116,101,95,114,97,116,105,111]) 388 (.ref 145),ke a NF 591 (.ref 242),ke a Oz 602 (.ref 253),ke a NL 637 (.ref 261),ke a ON 647 (.ref 268),ke a Nk 656 (.ref 273),ke a Py 667 (.ref 280),ke a (S [108,97,119]) 673 (.ref 285)]⟩ 20),⟨[]⟩⟩
noncomputable def O6(a:Params):Obj:=⟨(.type PySem.W.SL.s5856160107412720595x4),none,(.fields ⟨[(.str (S [95,95,110,101,119,95,95]) 274),(.str (S [77,97,116,99,104,46,95,95,110,101,119,95,95]) 275),(.str N0 276),(.int (29) 0),(.int (4) 0),(.int (0) 0),(.int (0) 0),(.int (3) 0),(.ref 76),(.bool true),(.int (181) 0),(.ref 77),.none,(.ref 78),(.ref 79),(.ref 80),(.int (281) 0),(.int (29) 0),(.str N0 282)]⟩),⟨[]⟩⟩
noncomputable def PI(a:Params):Obj:=⟨(.type PySem.W.SL.s7174869446012820540x8),none,(.func {name:=(S [95,95,110,101,119,95,95]),qualname:=(S [77,97,116,99,104,46,95,95,110,101,119,95,95]),params:=Br (AQ 3 4),body:=.stmts (B2 (AQ 3 4)),scope:=BF (AQ 3 4),globals:=3,closure:=[],defaults:=.none,kwdefaults:=.none,doc:=(.str (Ec (AQ 3 4)) 283),pyModule:=(.str N1 194),annotations:=none,code:=(.ref 81),closureTuple:=.none,builtins:=0}),⟨[]⟩⟩
noncomputable def OV(a:Params):Obj:=⟨(.type PySem.W.SL.s5856160107412720595x4),none,(.fields ⟨[(.str (S [95,109,97,107,101]) 285),(.str (S [77,97,116,99,104,46,95,109,97,107,101]) 286),(.str N0 287),(.int (33) 0),(.int (2) 0),(.int (0) 0),(.int (0) 0),(.int (3) 0),(.ref 83),(.bool true),(.int (181) 0),(.ref 84),.none,(.ref 85),(.ref 86),(.ref 87),(.int (291) 0),(.int (33) 0),(.str N0 292)]⟩),⟨[]⟩⟩
noncomputable def Pt(a:Params):Obj:=⟨(.type PySem.W.SL.s7174869446012820540x8),none,(.func {name:=(S [95,109,97,107,101]),qualname:=(S [77,97,116,99,104,46,95,109,97,107,101]),params:=Br (AQ 3 5),body:=.stmts (B2 (AQ 3 5)),scope:=BF (AQ 3 5),globals:=3,closure:=[],defaults:=.none,kwdefaults:=.none,doc:=(.str (Ec (AQ 3 5)) 293),pyModule:=(.str N1 194),annotations:=(some 92),code:=(.ref 88),closureTuple:=.none,builtins:=0}),⟨[]⟩⟩
noncomputable def Oo(a:Params):Obj:=⟨(.type PySem.W.SL.s591115383303110208x11),(some 90),(.fields ⟨[(.ref 89),(.bool false)]⟩),⟨[]⟩⟩
noncomputable def HG(a:Params):Obj:=⟨(.type PySem.W.SL.s14018661285674007319x4),none,(.dict ⟨[ke a (S [95,95,109,111,100,117,108,101,95,95]) 260 (.str N1 194),ke a UD 264 (.int (23) 263),ke a Qb 266 (.str (S [77,97,116,99,104,40,97,44,32,98,44,32,115,105,122,101,41]) 265),ke a (S [95,95,115,108,111,116,115,95,95]) 268 (.ref 73),ke a (S [95,102,105,101,108,100,115]) 272 (.ref 74),ke a (S [95,102,105,101,108,100,95,100,101,102,97,117,108,116,115]) 273 (.ref 75),ke a (S [95,95,110,101,119,95,95]) 284 (.ref 136),ke a (S [95,109,97,107,101]) 306 (.ref 91),ke a (S [95,114,101,112,108,97,99,101]) 317 (.ref 100),ke a (S [95,95,114,101,112,108,97,99,101,95,95]) 318 (.ref 100),ke a (S [95,95,114,101,112,114,95,95]) 326 (.ref 107),ke a (S [95,97,115,100,105,99,116]) 333 (.ref 114),ke a (S [95,95,103,101,116,110,101,119,97,114,103,115,95,95]) 341 (.ref 121),ke a (S [95,95,109,97,116,99,104,95,97,114,103,115,95,95]) 345 (.ref 122),ke a (S [97]) 355 (.ref 124),ke a (S [98]) 365 (.ref 127),ke a (S [115,105,122,101]) 375 (.ref 130),ke a Tl 376 (.ref 132)]⟩ 2),⟨[]⟩⟩
noncomputable def Ii(a:Params):Obj:=⟨(.type PySem.W.SL.s17162191345867700912x4),none,(.cls {name:=N9,bases:=[(.type PySem.W.SL.s2766695959194262286x5)],mro:=[(.ref 135),(.type PySem.W.SL.s2766695959194262286x5),(.type PySem.W.SL.s2742458400755230247x6)],ns:=134,qualname:=N9,hasDict:=false,slotNames:=[],subclasses:=[],abstract:=false,collection:=none,hasDel:=false}),⟨[(some (.ref 65)),none,(some (.str N9 253)),(some (.str N9 261)),(some .none),(some (.bool false))]⟩⟩
noncomputable def LU(a:Params):Obj:=⟨(.type PySem.W.SL.s16656946322747308186x12),none,(.fields ⟨[(.ref 82)]⟩),⟨[]⟩⟩
noncomputable def Lc(a:Params):Obj:=⟨(.type PySem.W.SL.s2766695959194262286x5),none,(.seq ⟨[.none,(.str (S []) 404),(.str (S []) 405),(.bool true)]⟩ 0),⟨[]⟩⟩
noncomputable def LR(a:Params):Obj:=⟨(.type PySem.W.SL.s5856160107412720595x4),none,(.fields ⟨[(.str Rz 406),(.str TC 407),(.str N0 408),(.int (145) 0),(.int (5) 0),(.int (0) 0),(.int (0) 0),(.int (3) 0),(.ref 154),(.bool true),(.int (181) 0),(.ref 155),.none,(.ref 156),(.ref 157),(.ref 158),(.int (414) 0),(.int (145) 0),(.str N0 415)]⟩),⟨[]⟩⟩
noncomputable def L5(a:Params):Obj:=⟨(.type PySem.W.SL.s7174869446012820540x8),none,(.func {name:=Rz,qualname:=TC,params:=Br (AQ 5 1),body:=.stmts (B2 (AQ 5 1)),scope:=BF (AQ 5 1),globals:=3,closure:=[],defaults:=(.ref 153),kwdefaults:=.none,doc:=(.str (Ec (AQ 5 1)) 416),pyModule:=(.str N1 194),annotations:=none,code:=(.ref 159),closureTuple:=.none,builtins:=0}),⟨[]⟩⟩
noncomputable def KS(a:Params):Obj:=⟨(.type PySem.W.SL.s5856160107412720595x4),none,(.fields ⟨[(.str RI 418),(.str TM 419),(.str N0 420),(.int (173) 0),(.int (3) 0),(.int (0) 0),(.int (0) 0),(.int (3) 0),(.ref 161),(.bool true),(.int (181) 0),(.ref 162),.none,(.ref 163),(.ref 164),(.ref 165),(.int (424) 0),(.int (173) 0),(.str N0 425)]⟩),⟨[]⟩⟩
noncomputable def Lq(a:Params):Obj:=⟨(.type PySem.W.SL.s7174869446012820540x8),none,(.func {name:=RI,qualname:=TM,params:=Br (AQ 5 2),body:=.stmts (B2 (AQ 5 2)),scope:=BF (AQ 5 2),globals:=3,closure:=[],defaults:=.none,kwdefaults:=.none,doc:=(.str (Ec (AQ 5 2)) 426),pyModule:=(.str N1 194),annotations:=none,code:=(.ref 166),closureTuple:=.none,builtins:=0}),⟨[]⟩⟩
noncomputable def Ll(a:Params):Obj:=⟨(.type PySem.W.SL.s5856160107412720595x4),none,(.fields ⟨[(.str RA 428),(.str V8 429),(.str N0 430),(.int (184) 0),(.int (2) 0),(.int (0) 0),(.int (0) 0),(.int (3) 0),(.ref 168),(.bool true),(.int (181) 0),(.ref 169),.none,(.ref 170),(.ref 171),(.ref 172),(.int (433) 0),(.int (184) 0),(.str N0 434)]⟩),⟨[]⟩⟩
noncomputable def LO(a:Params):Obj:=⟨(.type PySem.W.SL.s7174869446012820540x8),none,(.func {name:=RA,qualname:=V8,params:=Br (AQ 5 3),body:=.stmts (B2 (AQ 5 3)),scope:=BF (AQ 5 3),globals:=3,closure:=[],defaults:=.none,kwdefaults:=.none,doc:=(.str (Ec (AQ 5 3)) 435),pyModule:=(.str N1 194),annotations:=none,code:=(.ref 173),closureTuple:=.none,builtins:=0}),⟨[]⟩⟩
noncomputable def LW(a:Params):Obj:=⟨(.type PySem.W.SL.s5856160107412720595x4),none,(.fields ⟨[(.str RG 437),(.str Ul 438),(.str N0 439),(.int (209) 0),(.int (2) 0),(.int (0) 0),(.int (0) 0),(.int (3) 0),(.ref 175),(.bool true),(.int (181) 0),(.ref 176),.none,(.ref 177),(.ref 178),(.ref 179),(.int (442) 0),(.int (209) 0),(.str N0 443)]⟩),⟨[]⟩⟩
noncomputable def Lx(a:Params):Obj:=⟨(.type PySem.W.SL.s7174869446012820540x8),none,(.func {name:=RG,qualname:=Ul,params:=Br (AQ 5 4),body:=.stmts (B2 (AQ 5 4)),scope:=BF (AQ 5 4),globals:=3,closure:=[],defaults:=.none,kwdefaults:=.none,doc:=(.str (Ec (AQ 5 4)) 444),pyModule:=(.str N1 194),annotations:=none,code:=(.ref 180),closureTuple:=.none,builtins:=0}),⟨[]⟩⟩
noncomputable def Lp(a:Params):Obj:=⟨(.type PySem.W.SL.s5856160107412720595x4),none,(.fields ⟨[(.str (S [95,95,99,104,97,105,110,95,98]) 446),(.str Ts 447),(.str N0 448),(.int (236) 0),(.int (1) 0),(.int (0) 0),(.int (0) 0),(.int (3) 0),(.ref 182),(.bool true),(.int (181) 0),(.ref 183),.none,(.ref 184),(.ref 185),(.ref 186),(.int (461) 0),(.int (236) 0),(.str N0 462)]⟩),⟨[]⟩⟩
noncomputable def LY(a:Params):Obj:=⟨(.type PySem.W.SL.s7174869446012820540x8),none,(.func {name:=(S [95,95,99,104,97,105,110,95,98]),qualname:=Ts,params:=Br (AQ 5 5),body:=.stmts (B2 (AQ 5 5)),scope:=BF (AQ 5 5),globals:=3,closure:=[],defaults:=.none,kwdefaults:=.none,doc:=.none,pyModule:=(.str N1 194),annotations:=none,code:=(.ref 187),closureTuple:=.none,builtins:=0}),⟨[]⟩⟩
noncomputable def Ly(a:Params):Obj:=⟨(.type PySem.W.SL.s2766695959194262286x5),none,(.seq ⟨[(.int (0) 464),.none,(.int (0) 465),.none]⟩ 0),⟨[]⟩⟩
noncomputable def Mg(a:Params):Obj:=⟨(.type PySem.W.SL.s5856160107412720595x4),none,(.fields ⟨[(.str S2 466),(.str T9 467),(.str N0 468),(.int (260) 0),(.int (5) 0),(.int (0) 0),(.int (0) 0),(.int (3) 0),(.ref 190),(.bool true),(.int (181) 0),(.ref 191),.none,(.ref 192),(.ref 193),(.ref 194),(.int (488) 0),(.int (260) 0),(.str N0 489)]⟩),⟨[]⟩⟩
noncomputable def Mc(a:Params):Obj:=⟨(.type PySem.W.SL.s7174869446012820540x8),none,(.func {name:=S2,qualname:=T9,params:=Br (AQ 5 6),body:=.stmts (B2 (AQ 5 6)),scope:=BF (AQ 5 6),globals:=3,closure:=[],defaults:=(.ref 189),kwdefaults:=.none,doc:=(.str (Ec (AQ 5 6)) 490),pyModule:=(.str N1 194),annotations:=none,code:=(.ref 195),closureTuple:=.none,builtins:=0}),⟨[]⟩⟩
noncomputable def La(a:Params):Obj:=⟨(.type PySem.W.SL.s5856160107412720595x4),none,(.fields ⟨[(.str RM 492),(.str Tp 493),(.str N0 494),(.int (335) 0),(.int (1) 0),(.int (0) 0),(.int (0) 0),(.int (3) 0),(.ref 197),(.bool true),(.int (181) 0),(.ref 198),.none,(.ref 199),(.ref 200),(.ref 201),(.int (515) 0),(.int (335) 0),(.str N0 516)]⟩),⟨[]⟩⟩
noncomputable def LC(a:Params):Obj:=⟨(.type PySem.W.SL.s7174869446012820540x8),none,(.func {name:=RM,qualname:=Tp,params:=Br (AQ 5 7),body:=.stmts (B2 (AQ 5 7)),scope:=BF (AQ 5 7),globals:=3,closure:=[],defaults:=.none,kwdefaults:=.none,doc:=(.str (Ec (AQ 5 7)) 517),pyModule:=(.str N1 194),annotations:=none,code:=(.ref 202),closureTuple:=.none,builtins:=0}),⟨[]⟩⟩
noncomputable def Lm(a:Params):Obj:=⟨(.type PySem.W.SL.s5856160107412720595x4),none,(.fields ⟨[(.str RO 519),(.str Tu 520),(.str N0 521),(.int (383) 0),(.int (1) 0),(.int (0) 0),(.int (0) 0),(.int (3) 0),(.ref 204),(.bool true),(.int (181) 0),(.ref 205),.none,(.ref 206),(.ref 207),(.ref 208),(.int (530) 0),(.int (383) 0),(.str N0 531)]⟩),⟨[]⟩⟩
noncomputable def Lk(a:Params):Obj:=⟨(.type PySem.W.SL.s7174869446012820540x8),none,(.func {name:=RO,qualname:=Tu,params:=Br (AQ 5 8),body:=.stmts (B2 (AQ 5 8)),scope:=BF (AQ 5 8),globals:=3,closure:=[],defaults:=.none,kwdefaults:=.none,doc:=(.str (Ec (AQ 5 8)) 532),pyModule:=(.str N1 194),annotations:=none,code:=(.ref 209),closureTuple:=.none,builtins:=0}),⟨[]⟩⟩
noncomputable def Le(a:Params):Obj:=⟨(.type PySem.W.SL.s2766695959194262286x5),none,(.seq ⟨[(.int (3) 534)]⟩ 0),⟨[]⟩⟩
noncomputable def Lb(a:Params):Obj:=⟨(.type PySem.W.SL.s5856160107412720595x4),none,(.fields ⟨[(.str N7 535),(.str N8 536),(.str N0 537),(.int (430) 0),(.int (2) 0),(.int (0) 0),(.int (0) 0),(.int (35) 0),(.ref 212),(.bool true),(.int (181) 0),(.ref 213),.none,(.ref 214),(.ref 215),(.ref 216),(.int (548) 0),(.int (430) 0),(.str N0 549)]⟩),⟨[]⟩⟩
noncomputable def M6(a:Params):Obj:=⟨(.type PySem.W.SL.s7174869446012820540x8),none,(.func {name:=N7,qualname:=N8,params:=Br (AQ 5 9),body:=.stmts (B2 (AQ 5 9)),scope:=BF (AQ 5 9),globals:=3,closure:=[],defaults:=(.ref 211),kwdefaults:=.none,doc:=(.str (Ec (AQ 5 9)) 550),pyModule:=(.str N1 194),annotations:=none,code:=(.ref 217),closureTuple:=.none,builtins:=0}),⟨[]⟩⟩
noncomputable def LH(a:Params):Obj:=⟨(.type PySem.W.SL.s14018661285674007319x4),none,(.dict ⟨[ke a (S [95,95,109,111,100,117,108,101,95,95]) 396 (.str N1 194),ke a UD 400 (.int (70) 399),ke a Qb 402 (.str (SB (AQ 5 0)) 401),ke a Rz 417 (.ref 160),ke a RI 427 (.ref 167),ke a RA 436 (.ref 174),ke a RG 445 (.ref 181),ke a (S [95,83,101,113,117,101,110,99,101,77,97,116,99,104,101,114,95,95,99,104,97,105,110,95,98]) 463 (.ref 188),ke a S2 491 (.ref 196),ke a RM 518 (.ref 203),ke a RO 533 (.ref 210),ke a N7 551 (.ref 218),ke a (S [114,97,116,105,111]) 560 (.ref 225),ke a (S [113,117,105,99,107,95,114,97,116,105,111]) 567 (.ref 232),ke a (S [114,101,97,108,95,113,117,105,99,107,95,114,97,116,105,111]) 574 (.ref 239),ke a Tl 585 (.ref 240),ke a (S [95,95,100,105,99,116,95,95]) 587 (.ref 243),ke a (S [95,95,119,101,97,107,114,101,102,95,95]) 589 (.ref 244)]⟩ 3),⟨[]⟩⟩
noncomputable def LL(a:Params):Obj:=⟨(.type PySem.W.SL.s17162191345867700912x4),none,(.cls {name:=NF,bases:=[(.type PySem.W.SL.s2742458400755230247x6)],mro:=[(.ref 242),(.type PySem.W.SL.s2742458400755230247x6)],ns:=241,qualname:=NF,hasDict:=true,slotNames:=[],subclasses:=[],abstract:=false,collection:=none,hasDel:=false}),⟨[none,none,(some (.str NF 389)),(some (.str NF 397)),(some (.builtin PySem.W.SL.s11443829558043349243x14)),(some (.bool true))]⟩⟩
noncomputable def L0(a:Params):Obj:=⟨(.type PySem.W.SL.s5856160107412720595x4),none,(.fields ⟨[(.str Oz 592),(.str Oz 593),(.str N0 594),(.int (504) 0),(.int (2) 0),(.int (0) 0),(.int (0) 0),(.int (3) 0),(.ref 247),(.bool true),(.int (181) 0),(.ref 248),.none,(.ref 249),(.ref 250),(.ref 251),(.int (599) 0),(.int (504) 0),(.str N0 600)]⟩),⟨[]⟩⟩
noncomputable def KW(a:Params):Obj:=⟨(.type PySem.W.SL.s7174869446012820540x8),none,(.func {name:=Oz,qualname:=Oz,params:=Br (C2 6),body:=.stmts (B2 (C2 6)),scope:=BF (C2 6),globals:=3,closure:=[],defaults:=.none,kwdefaults:=.none,doc:=(.str (Ec (C2 6)) 601),pyModule:=(.str N1 194),annotations:=none,code:=(.ref 252),closureTuple:=.none,builtins:=0}),⟨[]⟩⟩
noncomputable def Ls(a:Params):Obj:=⟨(.type PySem.W.SL.s2766695959194262286x5),none,(.seq ⟨[(.str (S []) 603),(.str (S []) 604),(.str (S []) 605),(.str (S []) 606),(.int (3) 607),(.str (S [10]) 608)]⟩ 0),⟨[]⟩⟩
noncomputable def Lh(a:Params):Obj:=⟨(.type PySem.W.SL.s5856160107412720595x4),none,(.fields ⟨[(.str NL 609),(.str NL 610),(.str N0 611),(.int (513) 0),(.int (8) 0),(.int (0) 0),(.int (0) 0),(.int (35) 0),(.ref 255),(.bool true),(.int (181) 0),(.ref 256),.none,(.ref 257),(.ref 258),(.ref 259),(.int (634) 0),(.int (513) 0),(.str N0 635)]⟩),⟨[]⟩⟩
noncomputable def LS(a:Params):Obj:=⟨(.type PySem.W.SL.s7174869446012820540x8),none,(.func {name:=NL,qualname:=NL,params:=Br (C2 7),body:=.stmts (B2 (C2 7)),scope:=BF (C2 7),globals:=3,closure:=[],defaults:=(.ref 254),kwdefaults:=.none,doc:=(.str (Ec (C2 7)) 636),pyModule:=(.str N1 194),annotations:=none,code:=(.ref 260),closureTuple:=.none,builtins:=0}),⟨[]⟩⟩
noncomputable def Lf(a:Params):Obj:=⟨(.type PySem.W.SL.s5856160107412720595x4),none,(.fields ⟨[(.str ON 638),(.str ON 639),(.str N0 640),(.int (576) 0),(.int (2) 0),(.int (0) 0),(.int (0) 0),(.int (7) 0),(.ref 262),(.bool true),(.int (181) 0),(.ref 263),.none,(.ref 264),(.ref 265),(.ref 266),(.int (645) 0),(.int (576) 0),(.str N0 646)]⟩),⟨[]⟩⟩
noncomputable def M9(a:Params):Obj:=⟨(.type PySem.W.SL.s7174869446012820540x8),none,(.func {name:=ON,qualname:=ON,params:=Br (C2 8),body:=.stmts (B2 (C2 8)),scope:=BF (C2 8),globals:=3,closure:=[],defaults:=.none,kwdefaults:=.none,doc:=.none,pyModule:=(.str N1 194),annotations:=none,code:=(.ref 267),closureTuple:=.none,builtins:=0}),⟨[]⟩⟩
noncomputable def Lg(a:Params):Obj:=⟨(.type PySem.W.SL.s5856160107412720595x4),none,(.fields ⟨[(.str Nk 650),(.str Nk 651),(.str N0 652),(.int (585) 0),(.int (1) 0),(.int (0) 0),(.int (0) 0),(.int (3) 0),(.ref 269),(.bool true),(.int (181) 0),(.ref 270),.none,.none,.none,(.ref 271),(.int (653) 0),(.int (585) 0),(.str N0 654)]⟩),⟨[]⟩⟩
noncomputable def LD(a:Params):Obj:=⟨(.type PySem.W.SL.s7174869446012820540x8),none,(.func {name:=Nk,qualname:=Nk,params:=Br (C2 10),body:=.stmts (B2 (C2 10)),scope:=BF (C2 10),globals:=3,closure:=[],defaults:=.none,kwdefaults:=.none,doc:=(.str (Ec (C2 10)) 655),pyModule:=(.str (S [99,112,121,51,49,51,46,102,117,110,99,116,111,111,108,115]) 648),annotations:=none,code:=(.ref 272),closureTuple:=.none,builtins:=0}),⟨[]⟩⟩
noncomputable def M5(a:Params):Obj:=⟨(.type PySem.W.SL.s5856160107412720595x4),none,(.fields ⟨[(.str Py 659),(.str Py 660),(.str N0 661),(.int (611) 0),(.int (1) 0),(.int (0) 0),(.int (0) 0),(.int (3) 0),(.ref 274),(.bool true),(.int (181) 0),(.ref 275),.none,(.ref 276),(.ref 277),(.ref 278),(.int (665) 0),(.int (611) 0),(.str N0 666)]⟩),⟨[]⟩⟩
noncomputable def M4(a:Params):Obj:=⟨(.type PySem.W.SL.s7174869446012820540x8),none,(.func {name:=Py,qualname:=Py,params:=Br (C2 12),body:=.stmts (B2 (C2 12)),scope:=BF (C2 12),globals:=3,closure:=[],defaults:=.none,kwdefaults:=.none,doc:=.none,pyModule:=(.str Sw 657),annotations:=none,code:=(.ref 279),closureTuple:=.none,builtins:=0}),⟨[]⟩⟩
noncomputable def KZ(a:Params):Obj:=⟨(.type PySem.W.SL.s5856160107412720595x4),none,(.fields ⟨[(.str (S [108,97,119]) 668),(.str (S [108,97,119]) 669),(.str N0 670),(.int (617) 0),(.int (1) 0),(.int (0) 0),(.int (0) 0),(.int (3) 0),(.ref 281),(.bool true),(.int (181) 0),(.ref 282),.none,.none,.none,(.ref 283),(.int (671) 0),(.int (617) 0),(.str N0 672)]⟩),⟨[]⟩⟩
noncomputable def Me(a:Params):Obj:=⟨(.type PySem.W.SL.s7174869446012820540x8),none,(.func {name:=(S [108,97,119]),qualname:=(S [108,97,119]),params:=Br (C2 13),body:=.stmts (B2 (C2 13)),scope:=BF (C2 13),globals:=3,closure:=[],defaults:=.none,kwdefaults:=.none,doc:=.none,pyModule:=(.str Sw 657),annotations:=none,code:=(.ref 284),closureTuple:=.none,builtins:=0}),⟨[]⟩⟩
noncomputable def K(a:Params):Frag:=[(0,SM a),(2,Sq a),(3,RF a),(81,O6 a),(82,PI a),(88,OV a),(89,Pt a),(91,Oo a),(134,HG a),(135,Ii a),(136,LU a),(153,Lc a),(159,LR a),(160,L5 a),(166,KS a),(167,Lq a),(173,Ll a),(174,LO a),(180,LW a),(181,Lx a),(187,Lp a),(188,LY a),(189,Ly a),(195,Mg a),(196,Mc a),(202,La a),(203,LC a),(209,Lm a),(210,Lk a),(211,Le a),(217,Lb a),(218,M6 a),(241,LH a),(242,LL a),(252,L0 a),(253,KW a),(254,Ls a),(260,Lh a),(261,LS a),(267,Lf a),(268,M9 a),(272,Lg a),(273,LD a),(279,M5 a),(280,M4 a),(284,KZ a),(285,Me a)]
noncomputable def kas:List Addr:=[0,2,3,81,82,88,89,91,134,135,136,153,159,160,166,167,173,174,180,181,187,188,189,195,196,202,203,209,210,211,217,218,241,242,252,253,254,260,261,267,268,272,273,279,280,284,285]
noncomputable def ktQ(a:Params):KT:=(.node (some (SM a)) (.node none (.node (some (RF a)) (.node none (.node none (.node none .nil (.node none (.node (some (LR a)) .nil .nil) .nil)) .nil) (.node none (.node none (.node none (.node (some (Ii a)) .nil .nil) .nil) (.node none (.node (some (Lq a)) .nil .nil) .nil)) (.node none (.node none (.node none (.node (some (M5 a)) .nil .nil) .nil) .nil) .nil))) (.node none (.node none (.node none (.node none .nil (.node (some (Mg a)) .nil .nil)) .nil) (.node none (.node none .nil (.node (some (Le a)) .nil .nil)) .nil)) (.node none (.node none (.node none (.node none (.node (some (Lf a)) .nil .nil) .nil) (.node (some (LC a)) .nil .nil)) .nil) (.node none (.node (some (Oo a)) .nil .nil) (.node none (.node (some (Lp a)) .nil .nil) .nil))))) (.node none (.node none (.node none .nil (.node none (.node (some (O6 a)) (.node none (.node (some (LD a)) .nil .nil) .nil) (.node (some (Lm a)) .nil .nil)) (.node none .nil (.node (some (LH a)) .nil .nil)))) (.node none .nil (.node none (.node (some (Pt a)) (.node (some (Lc a)) .nil .nil) (.node (some (Lb a)) .nil .nil)) .nil))) (.node none (.node none (.node none (.node none (.node none (.node (some (LS a)) .nil .nil) .nil) .nil) .nil) (.node none .nil (.node none (.node (some (Lx a)) .nil .nil) .nil))) (.node none (.node none .nil (.node none (.node (some (Ll a)) .nil .nil) .nil)) (.node none (.node none (.node none (.node (some (Me a)) .nil .nil) .nil) .nil) (.node none (.node (some (Ly a)) .nil .nil) (.node (some (KW a)) .nil .nil))))))) (.node (some (Sq a)) (.node none (.node none (.node none (.node none .nil (.node none (.node (some (L5 a)) .nil .nil) .nil)) (.node none (.node none (.node none (.node (some (Lg a)) .nil .nil) .nil) .nil) .nil)) (.node none (.node none (.node none (.node (some (LU a)) .nil .nil) .nil) .nil) (.node none (.node (some (OV a)) (.node none (.node (some (M4 a)) .nil .nil) .nil) .nil) .nil))) (.node none (.node none (.node none (.node none (.node none (.node (some (Lh a)) .nil .nil) .nil) (.node (some (Mc a)) .nil .nil)) .nil) (.node none .nil (.node none (.node (some (LW a)) .nil .nil) .nil))) (.node none (.node none (.node none (.node none (.node (some (M9 a)) .nil .nil) .nil) .nil) .nil) (.node none (.node none (.node none (.node (some (KZ a)) .nil .nil) .nil) .nil) (.node none (.node (some (LY a)) .nil .nil) (.node (some (L0 a)) .nil .nil)))))) (.node none (.node none (.node none .nil (.node none (.node (some (PI a)) .nil (.node (some (Lk a)) .nil .nil)) (.node none .nil (.node (some (LL a)) .nil .nil)))) (.node none (.node none (.node none .nil (.node (some (La a)) .nil .nil)) .nil) (.node none (.node none .nil (.node (some (M6 a)) .nil .nil)) .nil))) (.node none (.node none (.node none (.node none (.node (some (HG a)) .nil .nil) .nil) (.node none (.node (some (KS a)) .nil .nil) .nil)) .nil) (.node none (.node none .nil (.node none (.node (some (LO a)) .nil .nil) .nil)) (.node none .nil (.node none .nil (.node (some (Ls a)) .nil .nil))))))))
noncomputable def Sk(a:Params)(L:Obj):KT:=(.node (some (SM a)) (.node none (.node (some (RF a)) (.node none (.node none (.node none .nil (.node none (.node (some (LR a)) .nil .nil) .nil)) .nil) (.node none (.node none (.node none (.node (some (Ii a)) .nil .nil) .nil) (.node none (.node (some (Lq a)) .nil .nil) .nil)) (.node none (.node none (.node none (.node (some (M5 a)) .nil .nil) .nil) .nil) .nil))) (.node none (.node none (.node none (.node none .nil (.node (some (Mg a)) .nil .nil)) .nil) (.node none (.node none .nil (.node (some (Le a)) .nil .nil)) .nil)) (.node none (.node none (.node none (.node none (.node (some (Lf a)) .nil .nil) .nil) (.node (some (LC a)) .nil .nil)) .nil) (.node none (.node (some (Oo a)) .nil .nil) (.node none (.node (some (Lp a)) .nil .nil) .nil))))) (.node none (.node none (.node none .nil (.node none (.node (some (O6 a)) (.node none (.node (some (LD a)) .nil .nil) .nil) (.node (some (Lm a)) .nil .nil)) (.node none .nil (.node (some (LH a)) .nil .nil)))) (.node none .nil (.node none (.node (some (Pt a)) (.node (some (Lc a)) .nil .nil) (.node (some (Lb a)) .nil .nil)) .nil))) (.node none (.node none (.node none (.node none (.node none (.node (some (LS a)) .nil .nil) .nil) .nil) .nil) (.node none .nil (.node none (.node (some (Lx a)) .nil .nil) .nil))) (.node none (.node none .nil (.node none (.node (some (Ll a)) .nil .nil) .nil)) (.node none (.node none (.node none (.node (some (Me a)) .nil .nil) .nil) .nil) (.node none (.node (some (Ly a)) .nil .nil) (.node (some (KW a)) .nil .nil))))))) (.node (some (Sq a)) (.node none (.node none (.node none (.node none .nil (.node none (.node (some (L5 a)) .nil .nil) .nil)) (.node none (.node none (.node none (.node (some (Lg a)) .nil .nil) .nil) .nil) .nil)) (.node none (.node none (.node none (.node (some (LU a)) .nil .nil) .nil) .nil) (.node none (.node (some (OV a)) (.node none (.node (some (M4 a)) .nil .nil) .nil) .nil) .nil))) (.node none (.node none (.node none (.node none (.node none (.node (some (Lh a)) .nil .nil) .nil) (.node (some (Mc a)) .nil .nil)) .nil) (.node none .nil (.node none (.node (some (LW a)) .nil .nil) .nil))) (.node none (.node none (.node none (.node none (.node (some (M9 a)) .nil .nil) .nil) .nil) .nil) (.node none (.node none (.node none (.node (some (KZ a)) .nil .nil) .nil) .nil) (.node none (.node (some (LY a)) .nil .nil) (.node (some (L0 a)) .nil .nil)))))) (.node none (.node none (.node none .nil (.node none (.node (some (PI a)) .nil (.node (some (Lk a)) .nil .nil)) (.node none .nil (.node (some (LL a)) .nil .nil)))) (.node none (.node none (.node none .nil (.node (some (La a)) .nil .nil)) .nil) (.node none (.node none .nil (.node (some (M6 a)) .nil .nil)) .nil))) (.node none (.node none (.node none (.node none (.node (some (HG a)) .nil .nil) .nil) (.node none (.node (some (KS a)) .nil .nil) .nil)) .nil) (.node none (.node none .nil (.node none (.node (some (LO a)) .nil .nil) .nil)) (.node none (.node none (.node none (.node (some L) .nil .nil) .nil) .nil) (.node none .nil (.node (some (Ls a)) .nil .nil))))))))
theorem QA(a:Params)(L:Obj):KT.put 40 (ktQ a) 286 L=Sk a L:=by kernel_rfl
theorem Va(a:Params):kas=(K a).map (·.1):=rfl
theorem QO(a:Params):KT.of (K a)=ktQ a:=by kernel_rfl
noncomputable def kh(a:Params)(e:Str):Int:=if e.cps.isEmpty=true then 0 else reduceHash (a.strHash e.cps)
noncomputable def V(P:World)(Q:Heap)(L:Obj)(X:OsState):Cx:=⟨P,Q,287,Sk P.params L,X⟩
theorem P0{b:Cx}(B:b.Ok){l:Around}{h:Nat}(E:Room h l)(c:Code)(e k:Nat)(g:List ((List Nat->Spec)×List Nat×List Nat))(o:List Nat)(N:(Nat->Nat)->FU)(F:∀x∈g,∀z,(x.1 z).Ok b):∀(i A:(Nat->Nat)->An) {m G:An} {s:AK} {n:Shared} {p:RP} (y:RepF b (m++G) [] s n)
  (w:∀d q,RepF b (i d++A d) [] s q->match N d with |.ret r=>p r q |.again c'=>codeAny (model pw b.w) l c' p q |.yld ..=>False |.tree ..=>False)
  (t:qA b.w.params b.kt h e c (D c) m G [] [] (hd k) g o []=qB b.w.params b.kt h e c (D c) m G [] [] (hd k) g N i A (λ_=>[]):=by kernel_rfl),codeAny (model pw b.w) l c p n:=
 λi A _ _ _ _ _ y w t=>run_codeB B E F t y w
theorem IX{b:Cx}(B:b.Ok){l:Around}{h:Nat}(E:Room h l)(c:Code)(e k:Nat)(g:List ((List Nat->Spec)×List Nat×List Nat))(o:List Nat)(N:(Nat->Nat)->FU)(F:∀x∈g,∀z,(x.1 z).Ok b):∀(i:(Nat->Nat)->An) {m:An} {s:AK} {n:Shared} {p:RP} (y:RepF b m [] s n)
  (w:∀d q,RepF b (i d) [] s q->match N d with |.ret r=>p r q |.again c'=>codeAny (model pw b.w) l c' p q |.yld ..=>False |.tree ..=>False)
  (t:qA b.w.params b.kt h e c (D c) m [] [] [] (hd k) g o []=qB b.w.params b.kt h e c (D c) m [] [] [] (hd k) g N i (λ_=>[]) (λ_=>[]):=by kernel_rfl),codeAny (model pw b.w) l c p n:=
 λi _ _ _ _ y w t=>run_code B E (b8:=λ_=>[]) F t y w
theorem Bn{b:Cx}(B:b.Ok){l:Around}{h:Nat}(E:Room h l)(c:Code)(e k:Nat)(g:List ((List Nat->Spec)×List Nat×List Nat))(o:List Nat)(F:∀x∈g,∀z,(x.1 z).Ok b):∀(i:(Nat->Nat)->An) {m:An} {s:AK} {n:Shared} {p:RP} (y:RepF b m [] s n)
  (w:∀d q,RepF b (i d) [] s q->codeAny (model pw b.w) l c p q)
  (t:qA b.w.params b.kt h e c (D c) m [] [] [] (hd k) g o []=qB b.w.params b.kt h e c (D c) m [] [] [] (hd k) g (λ_=>.again c) i (λ_=>[]) (λ_=>[]):=by kernel_rfl),codeAny (model pw b.w) l c p n:=
 λi _ _ _ _ y w t=>IX B E c e k g o (λ_=>.again c) F i y w t
theorem S0{b:Cx}(B:b.Ok){l:Around}{h:Nat}(E:Room h l)(c:Code)(e k:Nat)(g:List ((List Nat->Spec)×List Nat×List Nat))(o:List Nat)(F:∀x∈g,∀z,(x.1 z).Ok b):∀(i A:(Nat->Nat)->An) {m G:An} {s:AK} {n:Shared} {p:RP} (y:RepF b (m++G) [] s n)
  (w:∀d q,RepF b (i d++A d) [] s q->codeAny (model pw b.w) l c p q)
  (t:qA b.w.params b.kt h e c (D c) m G [] [] (hd k) g o []=qB b.w.params b.kt h e c (D c) m G [] [] (hd k) g (λ_=>.again c) i A (λ_=>[]):=by kernel_rfl),codeAny (model pw b.w) l c p n:=
 λi A _ _ _ _ _ y w t=>P0 B E c e k g o (λ_=>.again c) F i A y w t
theorem Ck{b:Cx}(B:b.Ok){l:Around}{h:Nat}(E:Room h l)(c:Code)(e k:Nat)(g:List ((List Nat->Spec)×List Nat×List Nat))(o:List Nat)(F:∀x∈g,∀z,(x.1 z).Ok b):∀(i:(Nat->Nat)->An) {m:An} {s:AK} {n:Shared} {p:RP} (y:RepF b m [] s n)
  (w:∀d q,RepF b (i d) [] s q->p (.ok .next) q)
  (t:qA b.w.params b.kt h e c (D c) m [] [] [] (hd k) g o []=qB b.w.params b.kt h e c (D c) m [] [] [] (hd k) g (λ_=>.ret (.ok .next)) i (λ_=>[]) (λ_=>[]):=by kernel_rfl),codeAny (model pw b.w) l c p n:=
 λi _ _ _ _ y w t=>IX B E c e k g o (λ_=>.ret (.ok .next)) F i y w t
theorem VU{b:Cx}(B:b.Ok){l:Around}{h:Nat}(E:Room h l)(c:Code)(e k:Nat)(g:List ((List Nat->Spec)×List Nat×List Nat))(o:List Nat)(F:∀x∈g,∀z,(x.1 z).Ok b):∀(i A:(Nat->Nat)->An) {m G:An} {s:AK} {n:Shared} {p:RP} (y:RepF b (m++G) [] s n)
  (w:∀d q,RepF b (i d++A d) [] s q->p (.ok .next) q)
  (t:qA b.w.params b.kt h e c (D c) m G [] [] (hd k) g o []=qB b.w.params b.kt h e c (D c) m G [] [] (hd k) g (λ_=>.ret (.ok .next)) i A (λ_=>[]):=by kernel_rfl),codeAny (model pw b.w) l c p n:=
 λi A _ _ _ _ _ y w t=>P0 B E c e k g o (λ_=>.ret (.ok .next)) F i A y w t
structure UP(b:Cx)(l:Around)(h:Nat)(c:Code)(e k:Nat)(g:List ((List Nat->Spec)×List Nat×List Nat))(o:List Nat):Prop where
 go:∀(i:(Nat->Nat)->An) {m:An} {s:AK} {n:Shared} {p:RP},RepF b m [] s n->(∀d q,RepF b (i d) [] s q->codeAny (model pw b.w) l c p q)->(t:qA b.w.params b.kt h e c (D c) m [] [] [] (hd k) g o []=qB b.w.params b.kt h e c (D c) m [] [] [] (hd k) g (λ_=>.again c) i (λ_=>[]) (λ_=>[]):=by kernel_rfl)->codeAny (model pw b.w) l c p n
theorem CQ{b:Cx}(B:b.Ok){l:Around}{h:Nat}(E:Room h l)(c:Code)(e k:Nat)(g:List ((List Nat->Spec)×List Nat×List Nat))(o:List Nat)(F:∀x∈g,∀z,(x.1 z).Ok b):UP b l h c e k g o:=
 ⟨λi _ _ _ _ y w t=>Bn B E c e k g o F i y w t⟩
structure So(b:Cx)(l:Around)(h:Nat)(c:Code)(e k:Nat)(g:List ((List Nat->Spec)×List Nat×List Nat))(o:List Nat):Prop where
 go:∀(i A:(Nat->Nat)->An) {m G:An} {s:AK} {n:Shared} {p:RP},RepF b (m++G) [] s n->(∀d q,RepF b (i d++A d) [] s q->codeAny (model pw b.w) l c p q)->(t:qA b.w.params b.kt h e c (D c) m G [] [] (hd k) g o []=qB b.w.params b.kt h e c (D c) m G [] [] (hd k) g (λ_=>.again c) i A (λ_=>[]):=by kernel_rfl)->codeAny (model pw b.w) l c p n
theorem Cg{b:Cx}(B:b.Ok){l:Around}{h:Nat}(E:Room h l)(c:Code)(e k:Nat)(g:List ((List Nat->Spec)×List Nat×List Nat))(o:List Nat)(F:∀x∈g,∀z,(x.1 z).Ok b):So b l h c e k g o:=
 ⟨λi A _ _ _ _ _ y w t=>S0 B E c e k g o F i A y w t⟩
structure Uf(b:Cx)(l:Around)(h:Nat)(c:Code)(e k:Nat)(g:List ((List Nat->Spec)×List Nat×List Nat))(o:List Nat):Prop where
 go:∀(i:(Nat->Nat)->An) {m:An} {s:AK} {n:Shared} {p:RP},RepF b m [] s n->(∀d q,RepF b (i d) [] s q->p (.ok .next) q)->(t:qA b.w.params b.kt h e c (D c) m [] [] [] (hd k) g o []=qB b.w.params b.kt h e c (D c) m [] [] [] (hd k) g (λ_=>.ret (.ok .next)) i (λ_=>[]) (λ_=>[]):=by kernel_rfl)->codeAny (model pw b.w) l c p n
theorem W2{b:Cx}(B:b.Ok){l:Around}{h:Nat}(E:Room h l)(c:Code)(e k:Nat)(g:List ((List Nat->Spec)×List Nat×List Nat))(o:List Nat)(F:∀x∈g,∀z,(x.1 z).Ok b):Uf b l h c e k g o:=
 ⟨λi _ _ _ _ y w t=>Ck B E c e k g o F i y w t⟩
end
variable {w:World} {j:Heap} {o:Obj} {u:OsState} (O:(V w j o u).Ok) {A:Around} {F:AK} {v:Shared} {R:RP}
section
noncomputable def keepL:List Nat:=[0,2,3,4,5,6,8,10,12,13]
noncomputable def loN:List Str:=[S [95,116,117,112,108,101,103,101,116,116,101,114],N9,NF,NL]
noncomputable def XtP(b:Program)(a:Shared):Bool:=xlAt (view b keepL) [] a&&recOk [] a
theorem SU:pw=LX:=Wk
noncomputable def WT(f:String->Option Builtin)(b:Program)(w:World)(d:Nat)(c:Shared):Option Shared:=
 match c.heap.isNs mainGlobals&&c.gens.size==0 with
 |true=>(PySem.W.Fast.tw14082659384304107361 f b w c.heap.objs.size (PySem.W.Fast.tw8920871248978507458 c.heap mainGlobals "__annotations__") d c (topStub b)).bind λe=>match staticsOk (importedModules b.main.body) c.heap e.heap&&namesBound b e.heap&&gensDone e&&laidKept c.heap e.heap with
   |true=>some e
   |false=>none
 |false=>none
noncomputable def WR(f:String->Option Builtin)(b:Program)(w:World)(d:Nat):Option Shared:=
 ((PySem.W.Fast.tw10274390034422433532 f (opening b) w d (start (opening b)).1 (start (opening b)).2).bind (PySem.W.Fast.tw14289696077712309145 b)).bind (WT f b w d)
theorem WS:openEnds=WR:=by
 funext f b w d
 unfold openEnds fencedOpening topFrom WR
 rw[PySem.W.Fast.te10274390034422433532,PySem.W.Fast.te14289696077712309145]
 rw[PySem.W.Fast.te14082659384304107361,PySem.W.Fast.te8920871248978507458]
 rfl
set_option maxHeartbeats 0 in
theorem S7(w:World):(WR SH LX w 4780).map (λa=>(PySem.W.Fast.tw4187177175401517315 (view LX keepL) loN (importedModules LX.main.body) (XtP LX) true a,obsZ kas a))=some (openGood (view LX keepL) loN,valZ K 286 674 w):=by
 kernel_rfl
theorem left:LeftO pw (view pw keepL) loN (XtP pw) (obsZ kas) (valZ K 286 674) 4780:=by
 intro w
 rw[SU,Qy,WS,PySem.W.Fast.te4187177175401517315]
 exact S7 w
end
section
noncomputable def Cq(a e:Int)(g h:Nat)(b:Bool):Spec:={code:=.call (.builtin "int.__gt__") ⟨[.int a g,.int e h],[]⟩,fp:=[],upd:=λ_=>[],res:=λ_=>.ok (.ret (.bool b)),d:=10}
noncomputable def AT(a e:Int)(g h:Nat)(b:Bool):Spec:={code:=.call (.builtin "int.__lt__") ⟨[.int a g,.int e h],[]⟩,fp:=[],upd:=λ_=>[],res:=λ_=>.ok (.ret (.bool b)),d:=10}
noncomputable def JR(a e:Int)(g h:Nat)(b:Bool):Spec:={code:=.call (.builtin "int.__ge__") ⟨[.int a g,.int e h],[]⟩,fp:=[],upd:=λ_=>[],res:=λ_=>.ok (.ret (.bool b)),d:=10}
noncomputable def CM(a e:Int)(g h:Nat)(b:Bool):Spec:={code:=.call (.builtin "int.__eq__") ⟨[.int a g,.int e h],[]⟩,fp:=[],upd:=λ_=>[],res:=λ_=>.ok (.ret (.bool b)),d:=10}
noncomputable def Bz(a e:Int)(g h:Nat)(b:Bool):Spec:={code:=.call (.builtin "int.__ne__") ⟨[.int a g,.int e h],[]⟩,fp:=[],upd:=λ_=>[],res:=λ_=>.ok (.ret (.bool b)),d:=10}
noncomputable def Bc(a:Int)(g:Nat)(b:Bool):Spec:={code:=.call (.builtin "int.__bool__") ⟨[.int a g],[]⟩,fp:=[],upd:=λ_=>[],res:=λ_=>.ok (.ret (.bool b)),d:=10}
noncomputable def AY(a e:Str)(g h:Nat)(b:Bool):Spec:={code:=.call (.builtin "str.__eq__") ⟨[.str a g,.str e h],[]⟩,fp:=[],upd:=λ_=>[],res:=λ_=>.ok (.ret (.bool b)),d:=10}
theorem I0(c:Cx):∀a∈([]:List ((List Nat->Spec)×List Nat×List Nat)),∀m,(a.1 m).Ok c:=λ_ i=>(nomatch i)
theorem Spec.of_run{c:Cx}(O:c.Ok){S:Spec}(q:Nat)(p:List Nat)(n:List ((List Nat->Spec)×List Nat×List Nat))(K s:List Nat)(k:(Nat->Nat)->List Nat)(z:∀k,(S.upd k).length=S.fp.length)(x:∀k,(S.gupd k).length=S.gfp.length)(H:∀f,(k f).length=S.nf)(G:∀a∈n,∀m,(a.1 m).Ok c)(r:qA c.w.params c.kt S.d q S.code (D S.code) S.fp S.ins S.gfp [] p n K s=qB c.w.params c.kt S.d q S.code (D S.code) S.fp S.ins S.gfp [] p n (λf=>.ret (S.res (k f))) (λf=>Am S.fp (S.upd (k f))++S.new (k f)) (λf=>S.outs (k f)) (λf=>Am S.gfp (S.gupd (k f))++S.gnew (k f)))(hd:S.drop=false:=by rfl):S.Ok c:=
 Spec.of_code z x (λA t F M R B y=>run_codeB O t (e8:=λf=>S.outs (k f)) G r B λf L E=>y (k f) L (H f) E) hd
section
variable{c:Cx}(l:c.Ok){a e:Int}{g h:Nat}{b:Bool}
include l
theorem AW(i:decide (a>e)=b):(Cq a e g h b).Ok c:=by
 subst i; exact Spec.of_run l 20 [0] [] [] [] (λ_=>[]) (λ_=>rfl) (λ_=>rfl) (λ_=>rfl) (I0 c) (by kernel_rfl)
theorem A9(i:decide (a<e)=b):(AT a e g h b).Ok c:=by
 subst i; exact Spec.of_run l 20 [0] [] [] [] (λ_=>[]) (λ_=>rfl) (λ_=>rfl) (λ_=>rfl) (I0 c) (by kernel_rfl)
theorem El(i:decide (a>=e)=b):(JR a e g h b).Ok c:=by
 subst i; exact Spec.of_run l 20 [0] [] [] [] (λ_=>[]) (λ_=>rfl) (λ_=>rfl) (λ_=>rfl) (I0 c) (by kernel_rfl)
theorem B7(i:(a==e)=b):(CM a e g h b).Ok c:=by
 subst i; exact Spec.of_run l 20 [0] [] [] [] (λ_=>[]) (λ_=>rfl) (λ_=>rfl) (λ_=>rfl) (I0 c) (by kernel_rfl)
theorem Ap(i:(a != e)=b):(Bz a e g h b).Ok c:=by
 subst i; exact Spec.of_run l 20 [0] [] [] [] (λ_=>[]) (λ_=>rfl) (λ_=>rfl) (λ_=>rfl) (I0 c) (by kernel_rfl)
theorem Ay(i:(a != 0)=b):(Bc a g b).Ok c:=by
 subst i; exact Spec.of_run l 20 [0] [] [] [] (λ_=>[]) (λ_=>rfl) (λ_=>rfl) (λ_=>rfl) (I0 c) (by kernel_rfl)
theorem Ai{a e:Str}(i:(a.cps.toList==e.cps.toList)=b):(AY a e g h b).Ok c:=by
 subst i; exact Spec.of_run l 20 [0] [] [] [] (λ_=>[]) (λ_=>rfl) (λ_=>rfl) (λ_=>rfl) (I0 c) (by kernel_rfl)
end
end
section
noncomputable def JZ(a:Int)(c:Nat):Spec:={code:=.call (.builtin "chr") ⟨[.int a c],[]⟩,fp:=[],upd:=λ_=>[],nf:=1,res:=λm=>.ok (.ret (.str ⟨⟨[a.toNat]⟩⟩ (W 0 m 0))),d:=10}
noncomputable def DE(a b:Str)(c e:Nat):Spec:={code:=.call (.builtin "str.__add__") ⟨[.str a c,.str b e],[]⟩,fp:=[],upd:=λ_=>[],nf:=1,res:=λm=>.ok (.ret (.str (a++b) (W 0 m 0))),d:=10}
section
variable{n:Cx}{a b:Str}{c e:Nat}
theorem FR{a:Int}(q:0<=a)(r:a<=1114111):(JZ a c).Ok n:=Spec.of_call rfl (λ_=>rfl) (λ_=>rfl) λA s F f i h g=>
 chr_of_range q r (g [f.toks] _ _ rfl rfl (Rep.toks h _))
theorem I7{a:Str}(l:(a.length==0)=true):a=⟨#[]⟩:=by
 obtain⟨p⟩:=a
 have:p.size=0:=by simpa[Str.length] using l
 rw[Array.eq_empty_of_size_eq_zero this]
theorem D3(l:a.length+b.length<=sizeLine):(DE a b c e).Ok n:=Spec.of_call rfl (λ_=>rfl) (λ_=>rfl) λA s F f i h g=>by
 refine call_meets PySem.F.slot_str_add (typeIs_str f a c) PySem.F.entry_str_add (PySem.F.args_str_add_2 _ _) (gives_str_add a b c e).meets ?_
 show(if a.length==0 then Made.val (.str b e) else if b.length==0 then Made.val (.str a c) else Made.str (a++b)).post _ f
 split
 ·rename_i k
  have:a++b=b:=by rw[I7 k]; exact Str.empty_append b
  show i (.str b e) f
  exact g [e] _ _ rfl (by show Except.ok (Flow.ret (Value.str (a++b) e))=_; rw[this]) h
 ·split
  ·rename_i k
   have:a++b=a:=by rw[I7 k]; exact Str.append_empty a
   show i (.str a c) f
   exact g [c] _ _ rfl (by show Except.ok (Flow.ret (Value.str (a++b) c))=_; rw[this]) h
  ·exact⟨by rw[Str.length_append]; exact l,g [f.toks] _ _ rfl rfl (Rep.toks h _)⟩
end
end
section
noncomputable def Bl(b8:List DictEntry)(n:Nat):Obj:=⟨.type PySem.W.SL.s658472552662922059x5,none,.dict ⟨b8⟩ n,⟨[]⟩⟩
noncomputable def EN:Stmt->PySem.Expr
 |.While c0 _ _ _=>c0
 |_=>.Constant .none 0 default
noncomputable def CP:Stmt->List Stmt
 |.While _ a1 _ _=>a1
 |_=>[]
noncomputable def Gq(v:Stmt)(b9 b5:Nat)(b2:Str)(e:Nat):Env:={scope:=BF v,locals:=e,globals:=3,cells:=[],qual:=b2,func:=some b9,code:=.ref b5,frame:=some e,builtins:=0}
noncomputable def Vy:Str:=S [95,108,97,119,95,108,105,110,101,46,60,108,111,99,97,108,115,62,46]
noncomputable def Ia(e:Nat):Code:=.whileLoop (EN (W B6 (B2 (C2 12)) 1)) (CP (W B6 (B2 (C2 12)) 1)) [] (Gq (C2 12) 280 279 Vy e)
noncomputable def SD:Str:=S [122]
noncomputable def Ij:Str:=S [115,105,103,110,115]
noncomputable def G5:Str:=S [115,105,103,110]
noncomputable def UY(m p:Int)(q r g:Nat)(a:Int)(i:Nat)(c:Str)(l:Nat):Obj:=Bl [⟨m,.str SD q,.int a i⟩,⟨p,.str Ij r,.str c l⟩] g
noncomputable def G1(m p L:Int)(q r E g:Nat)(a:Int)(i:Nat)(c:Str)(l:Nat)(s:Int)(H:Nat):Obj:=Bl [⟨m,.str SD q,.int a i⟩,⟨p,.str Ij r,.str c l⟩,⟨L,.str G5 E,.int s H⟩] g
noncomputable abbrev rz(a:Int):Int:=(a-1).fmod 1112064
noncomputable abbrev qz(a:Int):Int:=(a-1).fdiv 1112064
noncomputable def cz(a:Int):Int:=if rz a<55296 then rz a else rz a+2048
noncomputable def Cf:Nat->Int->List Nat
 |0,_=>[]
 |n+1,a=>if a>0 then(cz a).toNat::Cf n (qz a) else[]
theorem HB:∀(n:Nat) (a:Int),(Cf n a).length<=n
 |0,_=>Nat.le_refl _
 |n+1,a=>by
  unfold Cf
  split
  ·have:=HB n (qz a); simp; omega
  ·simp
noncomputable def Tx:List Nat:=[1,1,1]
noncomputable def Rd:List Nat:=[1,1,1,0,0,1,0,0,0,2,2,2,1,0,2,3,3,0,3,3,3,2,3,3,3,0,3,3,3,2,3,3,3,0,3,3,3,2,3,3,5,0,1,1,0,1,1,1,0,0,1,1,1,1,1,1,0,1,1,1]
noncomputable def Ro:List Nat:=[1,1,1,0,0,1,0,0,0,2,2,2,1,0,2,3,3,0,3,3,3,2,3,3,3,0,3,3,3,2,3,3,3,0,3,3,3,2,3,3,5,0,1,1,0,1,1,1,0,0,1,1,1,1,0,1,1,0,1,1,1]
section
variable{e:Nat}{m p L:Int}{q r E g:Nat}
theorem ME{a:Int}(z:0<=a-1):0<=rz a/\rz a+2048<=1114111:=by
 have M:=Int.fmod_nonneg_of_pos (a-1) (b:=1112064) (by decide)
 have a1:=Int.fmod_lt_of_pos (a-1) (b:=1112064) (by decide)
 constructor
 ·exact M
 ·show(a-1).fmod 1112064+2048<=1114111; omega
include O
theorem UA{a s:Int}{c:Str}{i l H:Nat}(D:¬ a>0)(B:Room 40 A)(G:RepF (V w j o u) [(e,G1 m p L q r E g a i c l s H)] [] F v)(x:∀h,RepF (V w j o u) [(e,G1 m p L q r E g a i c l s H)] [] F h->R (.ok .next) h) :
  codeAny (model pw w) A (Ia e) R v:=
 run_code O (n:=2000) B (H:=Tx) (K:=[(λb=>Cq a 0 i (C b 0) false,[],[])]) (l:=[0]) (b7:=[]) (d3:=λ_=>.ret (.ok .next)) (c1:=λ_=>[(e,G1 m p L q r E g a i c l s H)]) (b8:=λ_=>[])
  (by intro s y b; cases y with |head=>exact AW O (by simpa using D) |tail _ z=>cases z) (by kernel_rfl) G λf h t=>x h t
theorem VF{a s:Int}{c:Str}{i l H:Nat}(D:a>0)(K:c.length+1<=sizeLine)(B:Room 40 A)(G:RepF (V w j o u) [(e,G1 m p L q r E g a i c l s H)] [] F v)(x:∀h X T Q,RepF (V w j o u) [(e,G1 m p L q r E g (qz a) X (c++⟨⟨[(cz a).toNat]⟩⟩) T (rz a) Q)] [] F h->codeAny (model pw w) A (Ia e) R h) :
  codeAny (model pw w) A (Ia e) R v:=by
 obtain⟨a3,b4⟩:=ME (a:=a) (by lia)
 by_cases N:rz a<55296
 ·have P:cz a=rz a:=if_pos N
  rw[P] at x
  refine run_code O (n:=2000) B (H:=Rd) (K:=[(λb=>Cq a 0 i (C b 0) true,[],[]),(λb=>AT (rz a) 55296 (C b 5) (C b 12) true,[],[]),(λb=>JZ (rz a) (C b 5),[],[]),(λb=>DE c ⟨⟨[(rz a).toNat]⟩⟩ l (C b 13),[],[])])
   (l:=[0]) (b7:=[]) (d3:=λ_=>.again (Ia e)) (c1:=λf=>[(e,G1 m p L q r E g (qz a) (f 4) (c++⟨⟨[(rz a).toNat]⟩⟩) (f 14) (rz a) (f 5))]) (b8:=λ_=>[]) ?_ (by kernel_rfl) G λf h t=>x h _ _ _ t
  intro s y b
  simp only[List.mem_cons,List.mem_nil_iff,or_false] at y
  rcases y with rfl |rfl |rfl |rfl
  ·exact AW O (by simpa using D)
  ·exact A9 O (by simpa using N)
  ·exact FR a3 (by omega)
  ·exact D3 K
 ·have P:cz a=rz a+2048:=if_neg N
  rw[P] at x
  refine run_code O (n:=2000) B (H:=Ro) (K:=[(λb=>Cq a 0 i (C b 0) true,[],[]),(λb=>AT (rz a) 55296 (C b 5) (C b 12) false,[],[]),(λb=>JZ (rz a+2048) (C b 14),[],[]),(λb=>DE c ⟨⟨[(rz a+2048).toNat]⟩⟩ l (C b 15),[],[])])
   (l:=[0]) (b7:=[]) (d3:=λ_=>.again (Ia e)) (c1:=λf=>[(e,G1 m p L q r E g (qz a) (f 4) (c++⟨⟨[(rz a+2048).toNat]⟩⟩) (f 16) (rz a) (f 5))]) (b8:=λ_=>[]) ?_ (by kernel_rfl) G λf h t=>x h _ _ _ t
  intro s y b
  simp only[List.mem_cons,List.mem_nil_iff,or_false] at y
  rcases y with rfl |rfl |rfl |rfl
  ·exact AW O (by simpa using D)
  ·exact A9 O (by simpa using N)
  ·exact FR (by omega) (by omega)
  ·exact D3 K
omit O in
theorem O0{a:Int}{k:Nat}(a2:0<a)(z:a<1112064 ^ (k+1)):0<=qz a/\qz a<1112064 ^ k:=by
 have g:qz a=(a-1) / 1112064:=Int.fdiv_eq_ediv_of_nonneg _ (by decide)
 rw[g]
 constructor
 ·lia
 ·rw[Int.pow_succ] at z
  omega
omit O in
theorem G0(c:Str)(M:Nat)(b:List Nat):(c++⟨⟨[M]⟩⟩:Str)++⟨⟨b⟩⟩=c++⟨⟨M::b⟩⟩:=by
 rw[Str.append_assoc]
 refine congrArg (c ++ ·) ?_
 apply Str.ext'
 rw[Str.cps_append]
 apply Array.ext'
 simp
omit O in
theorem HL(a:Int):0<=rz a:=Int.fmod_nonneg_of_pos (a-1) (b:=1112064) (by decide)
theorem LB:∀(k:Nat) {a:Int} {s:Nat} {c:Str} {i l H:Nat},0<=a->a<1112064 ^ k->c.length+k<=sizeLine->∀{A:Around},Room 40 A->∀{F:AK} {v:Shared} {R:RP},
  RepF (V w j o u) [(e,G1 m p L q r E g a i c l s H)] [] F v ->
  (∀h X T (c1:Nat) Q,RepF (V w j o u) [(e,G1 m p L q r E g 0 X (c++⟨⟨Cf k a⟩⟩) T c1 Q)] [] F h->R (.ok .next) h)->codeAny (model pw w) A (Ia e) R v:=by
 intro c3
 induction c3 with
 |zero=>
  intro a s c i l H a2 z K A B F v R G x
  have:a=0:=by simp at z; lia
  subst this
  refine UA O (by decide) B G λh t=>x h i l s H ?_
  have g:c++(⟨⟨Cf 0 0⟩⟩:Str)=c:=Str.append_empty c
  rw[g]; exact t
 |succ k c2=>
  intro a s c i l H a2 z K A B F v R G x
  by_cases D:a>0
  ·obtain⟨a5,a6⟩:=O0 D z
   refine VF O D (by lia) B G λh X T Q t=>?_
   rw[<-Int.toNat_of_nonneg (HL a)] at t
   refine c2 a5 a6 (by rw[Str.length_append]; show c.length+1+k<=sizeLine; lia) B t λa7 b0 a9 b1 a8 a4=>x a7 b0 a9 b1 a8 ?_
   have g:Cf (k+1) a=(cz a).toNat::Cf k (qz a):=if_pos D
   rw[g,<-G0]; exact a4
  ·have:a=0:=by lia
   subst this
   refine UA O (by decide) B G λh t=>x h i l s H ?_
   have g:c++(⟨⟨Cf (k+1) 0⟩⟩:Str)=c:=Str.append_empty c
   rw[g]; exact t
noncomputable def Ti:List Nat:=Rd
noncomputable def U9:List Nat:=Ro
theorem Vw{a:Int}{c:Str}{i l:Nat}(D:a>0)(K:c.length+1<=sizeLine)(B:Room 40 A)(G:RepF (V w j o u) [(e,UY m p q r g a i c l)] [] F v)(x:∀h X T Q E,RepF (V w j o u) [(e,G1 m p (kh w.params G5) q r E (g+1) (qz a) X (c++⟨⟨[(cz a).toNat]⟩⟩) T (rz a) Q)] [] F h->codeAny (model pw w) A (Ia e) R h) :
  codeAny (model pw w) A (Ia e) R v:=by
 obtain⟨a3,b4⟩:=ME (a:=a) (by lia)
 by_cases N:rz a<55296
 ·have P:cz a=rz a:=if_pos N
  rw[P] at x
  refine run_code O (n:=2000) B (H:=Ti) (K:=[(λb=>Cq a 0 i (C b 0) true,[],[]),(λb=>AT (rz a) 55296 (C b 5) (C b 12) true,[],[]),(λb=>JZ (rz a) (C b 5),[],[]),(λb=>DE c ⟨⟨[(rz a).toNat]⟩⟩ l (C b 13),[],[])])
   (l:=[0]) (b7:=[]) (d3:=λ_=>.again (Ia e)) (c1:=λf=>[(e,G1 m p (kh w.params G5) q r (f 11) (g+1) (qz a) (f 4) (c++⟨⟨[(rz a).toNat]⟩⟩) (f 14) (rz a) (f 5))]) (b8:=λ_=>[]) ?_ (by kernel_rfl) G λf h t=>x h _ _ _ _ t
  intro s y b
  simp only[List.mem_cons,List.mem_nil_iff,or_false] at y
  rcases y with rfl |rfl |rfl |rfl
  ·exact AW O (by simpa using D)
  ·exact A9 O (by simpa using N)
  ·exact FR a3 (by omega)
  ·exact D3 K
 ·have P:cz a=rz a+2048:=if_neg N
  rw[P] at x
  refine run_code O (n:=2000) B (H:=U9) (K:=[(λb=>Cq a 0 i (C b 0) true,[],[]),(λb=>AT (rz a) 55296 (C b 5) (C b 12) false,[],[]),(λb=>JZ (rz a+2048) (C b 14),[],[]),(λb=>DE c ⟨⟨[(rz a+2048).toNat]⟩⟩ l (C b 15),[],[])])
   (l:=[0]) (b7:=[]) (d3:=λ_=>.again (Ia e)) (c1:=λf=>[(e,G1 m p (kh w.params G5) q r (f 11) (g+1) (qz a) (f 4) (c++⟨⟨[(rz a+2048).toNat]⟩⟩) (f 16) (rz a) (f 5))]) (b8:=λ_=>[]) ?_ (by kernel_rfl) G λf h t=>x h _ _ _ _ t
  intro s y b
  simp only[List.mem_cons,List.mem_nil_iff,or_false] at y
  rcases y with rfl |rfl |rfl |rfl
  ·exact AW O (by simpa using D)
  ·exact A9 O (by simpa using N)
  ·exact FR (by omega) (by omega)
  ·exact D3 K
end
noncomputable def V1(b3:Params)(e:Nat)(m p:Int)(q r g:Nat)(a:Int)(i:Nat)(l:Nat):Spec:=
 {code:=Ia e,fp:=[(e,UY m p q r g a i (S []) l)],nf:=5,d:=40,
  upd:=λa0=>[G1 m p (kh b3 G5) q r (W 0 a0 0) (g+1) 0 (W 0 a0 1) ⟨⟨Cf 3 a⟩⟩ (W 0 a0 2) (W 0 a0 3:Nat) (W 0 a0 4)],res:=λ_=>.ok .next}
section
variable{e:Nat}{m p:Int}{q r g:Nat}
include O
theorem Qt{a:Int}{i l:Nat}(D:0<a)(z:a<1112064 ^ 3):(V1 w.params e m p q r g a i l).Ok (V w j o u):=
 Spec.of_code (λ_=>rfl) (λ_=>rfl) λA B F c R G x=>by
  obtain⟨a5,a6⟩:=O0 D z
  refine Vw O D (by decide) B G λh X T Q E t=>?_
  rw[<-Int.toNat_of_nonneg (HL a)] at t
  refine LB O 2 a5 a6 (by show 0+1+2<=sizeLine; decide) B t λa7 b0 a9 b1 a8 a4=>x [E,b0,a9,b1,a8] a7 rfl ?_
  have b6:Cf 3 a=(cz a).toNat::Cf 2 (qz a):=if_pos D
  show RepF _ [(e,G1 _ _ _ _ _ _ _ _ _ ⟨⟨Cf 3 a⟩⟩ _ _ _)] _ _ _
  rw[b6]
  have b7:(S []++⟨⟨[(cz a).toNat]⟩⟩:Str)++⟨⟨Cf 2 (qz a)⟩⟩=⟨⟨(cz a).toNat::Cf 2 (qz a)⟩⟩:=by
   rw[G0]; exact Str.empty_append _
  rw[<-b7]; exact a4
noncomputable def Bv(a:Int)(M:Nat):Spec:=
 {code:=.call (.ref 280) ⟨[.int a M],[]⟩,fp:=[],upd:=λ_=>[],nf:=1,d:=80,res:=λa0=>.ok (.ret (.str ⟨⟨Cf 3 a⟩⟩ (W 0 a0 0)))}
theorem AP{a:Int}{M:Nat}(D:0<=a)(z:a<1112064 ^ 3):(Bv a M).Ok (V w j o u):=by
 by_cases a2:a=0
 ·subst a2
  exact Spec.of_run O 2000 (hd 0x1000001040001040041041) [(λb=>Cq 0 0 M (C b 4) false,[],[])] [] [] (λf=>[f 2]) (λ_=>rfl) (λ_=>rfl) (λ_=>rfl)
   (by intro s y b; cases y with |head=>exact AW O rfl |tail _ z=>cases z) (by kernel_rfl)
 ·exact Spec.of_run O 2000 (hd 0x40000041000041041) [(λb=>V1 w.params (C b 0) (kh w.params SD) (kh w.params Ij) (C b 1) (C b 3) 2 a M (C b 2),[0],[])] [] [] (λf=>[f 6]) (λ_=>rfl) (λ_=>rfl) (λ_=>rfl)
   (by intro s y b; cases y with |head=>exact Qt O (by lia) z |tail _ z=>cases z) (by kernel_rfl)
end
end
section
noncomputable def I(c:List Value)(f:Nat):Obj:=⟨.type "list",none,.seq ⟨c⟩ f,⟨[]⟩⟩
noncomputable def Aa(c:List Value):Obj:=⟨.type "tuple",none,.seq ⟨c⟩ 0,⟨[]⟩⟩
noncomputable def A6(a:Nat)(c4:Int):Obj:=⟨.type "list_iterator",none,.fields ⟨[.ref a,.int c4 0]⟩,⟨[]⟩⟩
noncomputable def B1(c4:Int):Obj:=⟨.type "list_iterator",none,.fields ⟨[.none,.int c4 0]⟩,⟨[]⟩⟩
noncomputable def Bp(c5:Nat):Obj:=⟨.type "StopIteration",none,.fields ⟨[.ref c5,.none,.none,.none,.bool false,.none]⟩,⟨[]⟩⟩
theorem Spec.of_callE{b:Cx}{S:Spec}{x:Value}{h6:List Value}(g8:S.code = .call x ⟨h6,[]⟩)(e1:∀q,(S.upd q).length=S.fp.length)(i4:∀q,(S.gupd q).length=S.gfp.length)(i:∀A,Room S.d A->∀(F:AK) (g:Shared) (T c9:VP),RepF b (S.fp++S.ins) S.gfp F g ->
   (∀q a6 a4,q.length=S.nf->S.res q = .ok (.ret a4)->RepF b (Am S.fp (S.upd q)++S.new q++S.outs q) (Am S.gfp (S.gupd q)++S.gnew q) F a6->T a4 a6) ->
   (∀q a6 a4,q.length=S.nf->S.res q = .error a4->RepF b (Am S.fp (S.upd q)++S.new q++S.outs q) (Am S.gfp (S.gupd q)++S.gnew q) F a6->c9 a4 a6)->wpAny (model pw b.w) A (call x h6) T c9 g)(hd:S.drop=false:=by rfl):S.Ok b:=by
 refine⟨Spec.lenOk hd e1,i4,λA d2 F g R i7 L h4 a=>?_⟩
 have a7:=i A d2 F g (λa4 a6=>R (.ok (.ret a4)) a6) (λa4 a6=>R (.error a4) a6) i7 (λq a6 a4 g9 a0 f4=>a0▸L q a6 g9 f4) (λq a6 a4 g9 a0 f4=>a0▸L q a6 g9 f4)
 intro Γ c3 iΓ
 have f1:=a7 Γ c3 iΓ
 rw[call,Sem.wp_runValue] at f1
 rw[g8]
 exact wpCode_mono (λa4 a6 h2=>by
  cases a4 with
  |error a0=>exact h2
  |ok x=>cases x <;> first |exact h2 |exact h2.elim) f1
namespace RepF
variable{b:Cx}{b3:An}{d0:Gs}{F:AK}{g:Shared}{c5 e4:Addr}{o c3:Obj}
theorem get0(i:RepF b ((c5,o)::b3) d0 F g):g.heap.get? c5=some o:=Rep.get i (c5,o) (List.mem_cons_self ..)
theorem get1(i:RepF b ((c5,o)::(e4,c3)::b3) d0 F g):g.heap.get? e4=some c3:=Rep.get i (e4,c3) (List.mem_cons_of_mem _ (List.mem_cons_self ..))
theorem upd0(O:b.Ok)(i:RepF b ((c5,o)::b3) d0 F g){x:Obj->Obj}(f0:(x o).isFreed=false):RepF b ((c5,x o)::b3) d0 F {g with heap:=g.heap.update c5 x}:=
 Rep.update O i (s:=0) (k:=c5) (h:=o) rfl f0
theorem W1(O:b.Ok)(i:RepF b ((c5,o)::(e4,c3)::b3) d0 F g){x:Obj->Obj}(f0:(x c3).isFreed=false):RepF b ((c5,o)::(e4,x c3)::b3) d0 F {g with heap:=g.heap.update e4 x}:=
 Rep.update O i (s:=1) (k:=e4) (h:=c3) rfl f0
theorem toks(i:RepF b b3 d0 F g)(d7:Nat):RepF b b3 d0 F {g with toks:=d7}:=Rep.toks i d7
theorem push(i:RepF b b3 d0 F g)(f0:o.isFreed=false):RepF b (b3++[(g.heap.objs.size,o)]) d0 F {g with heap:=g.heap.push o}:=Rep.alloc i f0
theorem perm(i:RepF b b3 d0 F g){f8:An}(a0:f8.Perm b3):RepF b f8 d0 F g:=Rep.perm i (List.Perm.append_right _ a0)
theorem sub(i:RepF b b3 d0 F g){f8:An}(a0:f8.Sublist b3):RepF b f8 d0 F g:=Rep.sub i (List.Sublist.append_right a0 _)
end RepF
theorem Cu(c:List Value)(f:Nat)(x:Array Value->Array Value)(f7:List Value)(i:x ⟨c⟩=⟨f7⟩)(e1:f7.length≠c.length):Obj.mapSeq x (I c f)=I f7 (f+1):=by
 show(⟨_,_,Data.seq (x ⟨c⟩) (if(x ⟨c⟩).size==(⟨c⟩:Array Value).size then f else f+1),_⟩:Obj)=_
 rw[i,if_neg (by simpa using e1)]; rfl
theorem J0(c:List Value)(f:Nat)(x:Array Value->Array Value)(f7:List Value)(i:x ⟨c⟩=⟨f7⟩)(e1:f7.length=c.length):Obj.mapSeq x (I c f)=I f7 f:=by
 show(⟨_,_,Data.seq (x ⟨c⟩) (if(x ⟨c⟩).size==(⟨c⟩:Array Value).size then f else f+1),_⟩:Obj)=_
 rw[i,if_pos (by simpa using e1)]; rfl
noncomputable def AJ(a:Nat)(c:List Value)(f:Nat)(e:Value):Spec:={code:=.call (.builtin "list.append") ⟨[.ref a,e],[]⟩,fp:=[(a,I c f)],upd:=λ_=>[I (c++[e]) (f+1)],res:=λ_=>.ok (.ret .none),d:=10}
noncomputable def HH(a:Nat)(c:List Value)(f:Nat)(e:Value)(b2:Nat):Spec:={code:=.call (.builtin "list.insert") ⟨[.ref a,.int 0 b2,e],[]⟩,fp:=[(a,I c f)],upd:=λ_=>[I (e::c) (f+1)],res:=λ_=>.ok (.ret .none),d:=10}
noncomputable def Fo(a:Nat)(c:List Value)(f:Nat)(e:Value)(b2:Nat):Spec:={code:=.call (.builtin "list.insert") ⟨[.ref a,.int (c.length:Nat) b2,e],[]⟩,fp:=[(a,I c f)],upd:=λ_=>[I (c++[e]) (f+1)],res:=λ_=>.ok (.ret .none),d:=10}
section
variable{b:Cx}(b8:b.Ok){a f b2:Nat}{c:List Value}{e:Value}
include b8
theorem Ag(i:c.length<=sizeLine):(AJ a c f e).Ok b:=Spec.of_call rfl (λ_=>rfl) (λ_=>rfl) λA d2 d3 g T p L=>by
 refine call_meets F.slot_list_append ⟨_,RepF.get0 p,rfl⟩ F.entry_list_append (F.args_list_append_2 _ _) (list_append a ⟨c⟩ f e i) ⟨RepF.get0 p,L [] _ _ rfl rfl ?_⟩
 have:=RepF.upd0 b8 p (x:=Obj.mapSeq λf1=>f1.push e) rfl
 rw[Cu c f _ (c++[e]) (by simp) (by simp)] at this
 exact this
theorem ET(i:c.length<=sizeLine):(HH a c f e b2).Ok b:=Spec.of_call rfl (λ_=>rfl) (λ_=>rfl) λA d2 d3 g T p L=>by
 refine call_meets F.slot_list_insert ⟨_,RepF.get0 p,rfl⟩ F.entry_list_insert (F.args_list_insert_3 _ _ _) (AutoSeq1.list_insert_list_int_val_1 a ⟨c⟩ f 0 b2 e (by decide) i) ⟨RepF.get0 p,L [] _ _ rfl rfl ?_⟩
 have:=RepF.upd0 b8 p (x:=Obj.mapSeq λc=>have e3:=if(0:Int)<0 then((0:Int)+(c.size:Int)).toNat else min (0:Int).toNat c.size; (c.extract 0 e3).push e++c.extract e3) rfl
 rw[Cu c f _ (e::c) (by simp) (by simp)] at this
 exact this
omit b8 in
theorem NM{a7:Int}(j5:a7=((c.length:Nat):Int))(i:c.length<=sizeLine){g:Shared}{T c9:VP}(e1:g.heap.get? a=some (I c f))(L:∀x,x (I c f)=I (c++[e]) (f+1)->T .none {g with heap:=g.heap.update a x}):wpAny (model pw b.w) A (call (.builtin "list.insert") [.ref a,.int a7 b2,e]) T c9 g:=by
 have g8:¬(!Builtin.List.listFitsIndex a7)=true:=by
  have:sizeLine<2 ^ 62:=by decide
  have K:a7<2 ^ 62:=by lia
  have P:(0:Int)<=a7:=by lia
  clear L
  unfold Builtin.List.listFitsIndex
  simp
  lia
 have h4:=AutoSeq1.list_insert_list_int_val_1 a ⟨c⟩ f a7 b2 e g8 i
 refine call_meets F.slot_list_insert ⟨_,e1,rfl⟩ F.entry_list_insert (F.args_list_insert_3 _ _ _) h4 ⟨e1,L _ ?_⟩
 refine Cu c f _ (c++[e]) ?_ (by simp)
 have a0:(if a7<0 then(a7+((⟨c⟩:Array Value).size:Int)).toNat else min a7.toNat (⟨c⟩:Array Value).size)=c.length:=by
  rw[if_neg (by lia)]; show min a7.toNat c.length=c.length; lia
 show(Array.extract ⟨c⟩ 0 (if a7<0 then(a7+((⟨c⟩:Array Value).size:Int)).toNat else min a7.toNat (⟨c⟩:Array Value).size)).push e++Array.extract ⟨c⟩ (if a7<0 then(a7+((⟨c⟩:Array Value).size:Int)).toNat else min a7.toNat (⟨c⟩:Array Value).size)=_
 rw[a0]; simp
theorem Dt(i:c.length<=sizeLine):(Fo a c f e b2).Ok b:=Spec.of_call rfl (λ_=>rfl) (λ_=>rfl) λA d2 d3 g T p L=>by
 refine NM (f:=f) rfl i (RepF.get0 p) λx f0=>L [] _ _ rfl rfl ?_
 have:=RepF.upd0 b8 p (x:=x) (by rw[f0]; rfl)
 rw[f0] at this
 exact this
omit b8 in
end
noncomputable def BU(a:Nat)(c:List Value)(f:Nat):Spec:={code:=.call (.builtin "len") ⟨[.ref a],[]⟩,fp:=[(a,I c f)],upd:=λ_=>[I c f],nf:=1,res:=λq=>.ok (.ret (.int (c.length:Nat) (W 0 q 0))),d:=10}
noncomputable def AA(a:Nat)(c:List Value)(f:Nat):Spec:={code:=.builtin "len" ⟨[.ref a],[]⟩,fp:=[(a,I c f)],upd:=λ_=>[I c f],nf:=1,res:=λq=>.ok (.ret (.int (c.length:Nat) (W 0 q 0))),d:=10}
theorem AS{b:Cx}{a f:Nat}{c:List Value}(i:c.length<=sizeLine):(BU a c f).Ok b:=Spec.of_call rfl (λ_=>rfl) (λ_=>rfl) λA d2 d3 g T p L=>by
 have:sizeLine<2 ^ 62:=by decide
 exact Calls.call_len_list ⟨_,RepF.get0 p,rfl,f,rfl⟩ (by show((c.length:Nat):Int)<2 ^ 63; lia) (L [g.toks+1] _ _ rfl rfl (RepF.toks p _))
theorem Ae{b:Cx}{a f:Nat}{c:List Value}(i:c.length<=sizeLine):(AA a c f).Ok b:=Spec.of_code (λ_=>rfl) (λ_=>rfl) λA d2 d3 g R p L=>by
 have:sizeLine<2 ^ 62:=by decide
 refine codeAny_builtin entry_len ?_
 rw[Around.under_plainId plain_len _]
 exact wpAny_mono (wpAny_len_body_list (E:=λ_ _=>False) (Q:=λa4 a6=>R (.ok (.ret a4)) a6) ⟨_,RepF.get0 p,rfl,f,rfl⟩ (by show((c.length:Nat):Int)<2 ^ 63; lia) (L [g.toks+1] _ rfl (RepF.toks p _)))
   (λj4 a6 i2=>by obtain⟨a4,rfl,i6⟩:=i2; exact i6) λ_ _ a0=>a0.elim
theorem C1{b:Cx}:∀e∈([]:List ((List Nat->Spec)×List Nat×List Nat)),∀a,(e.1 a).Ok b:=λ_ i=>(nomatch i)
theorem A2{b:Cx}{S:List Nat->Spec}{j1 i1:List Nat}{h7:List ((List Nat->Spec)×List Nat×List Nat)}(i:∀a,(S a).Ok b)(d7:∀e∈h7,∀a,(e.1 a).Ok b):∀e∈(S,j1,i1)::h7,∀a,(e.1 a).Ok b:=by
 intro e e7
 rcases List.mem_cons.mp e7 with rfl |e7
 ·exact i
 ·exact d7 e e7
theorem Bo{b:Cx}{h:List Nat->Spec}{D B:List Nat}(k:∀{a},(h a).Ok b):∀e∈[(h,D,B)],∀a,(e.1 a).Ok b:=A2 @k (C1)
theorem BI{b:Cx}{h l:List Nat->Spec}{D B H G:List Nat}(k:∀{a},(h a).Ok b)(t:∀{a},(l a).Ok b):∀e∈[(h,D,B),(l,H,G)],∀a,(e.1 a).Ok b:=A2 @k (A2 @t (C1))
theorem GH{b:Cx}{h l n:List Nat->Spec}{D B H G M g2:List Nat}(k:∀{a},(h a).Ok b)(t:∀{a},(l a).Ok b)(K:∀{a},(n a).Ok b):∀e∈[(h,D,B),(l,H,G),(n,M,g2)],∀a,(e.1 a).Ok b:=A2 @k (A2 @t (A2 @K (C1)))
theorem Mf{b:Cx}{h l n r:List Nat->Spec}{D B H G M g2 Q g3:List Nat}(k:∀{a},(h a).Ok b)(t:∀{a},(l a).Ok b)(K:∀{a},(n a).Ok b)(P:∀{a},(r a).Ok b):∀e∈[(h,D,B),(l,H,G),(n,M,g2),(r,Q,g3)],∀a,(e.1 a).Ok b:=A2 @k (A2 @t (A2 @K (A2 @P (C1))))
theorem Ir{b:Cx}{h l n r s:List Nat->Spec}{D B H G M g2 Q g3 a3 a1:List Nat}(k:∀{a},(h a).Ok b)(t:∀{a},(l a).Ok b)(K:∀{a},(n a).Ok b)(P:∀{a},(r a).Ok b)(a2:∀{a},(s a).Ok b):∀e∈[(h,D,B),(l,H,G),(n,M,g2),(r,Q,g3),(s,a3,a1)],∀a,(e.1 a).Ok b:=A2 @k (A2 @t (A2 @K (A2 @P (A2 @a2 (C1)))))
theorem FW{b:Cx}{h l n r s z:List Nat->Spec}{D B H G M g2 Q g3 a3 a1 b0 a8:List Nat}(k:∀{a},(h a).Ok b)(t:∀{a},(l a).Ok b)(K:∀{a},(n a).Ok b)(P:∀{a},(r a).Ok b)(a2:∀{a},(s a).Ok b)(a9:∀{a},(z a).Ok b):∀e∈[(h,D,B),(l,H,G),(n,M,g2),(r,Q,g3),(s,a3,a1),(z,b0,a8)],∀a,(e.1 a).Ok b:=A2 @k (A2 @t (A2 @K (A2 @P (A2 @a2 (A2 @a9 (C1))))))
theorem Fa{b:Cx}{h l n r s z E:List Nat->Spec}{D B H G M g2 Q g3 a3 a1 b0 a8 b6 b4:List Nat}(k:∀{a},(h a).Ok b)(t:∀{a},(l a).Ok b)(K:∀{a},(n a).Ok b)(P:∀{a},(r a).Ok b)(a2:∀{a},(s a).Ok b)(a9:∀{a},(z a).Ok b)(b5:∀{a},(E a).Ok b):∀e∈[(h,D,B),(l,H,G),(n,M,g2),(r,Q,g3),(s,a3,a1),(z,b0,a8),(E,b6,b4)],∀a,(e.1 a).Ok b:=A2 @k (A2 @t (A2 @K (A2 @P (A2 @a2 (A2 @a9 (A2 @b5 (C1)))))))
theorem G7{b:Cx}{h l n r s z E N:List Nat->Spec}{D B H G M g2 Q g3 a3 a1 b0 a8 b6 b4 c2 c0:List Nat}(k:∀{a},(h a).Ok b)(t:∀{a},(l a).Ok b)(K:∀{a},(n a).Ok b)(P:∀{a},(r a).Ok b)(a2:∀{a},(s a).Ok b)(a9:∀{a},(z a).Ok b)(b5:∀{a},(E a).Ok b)(c1:∀{a},(N a).Ok b):∀e∈[(h,D,B),(l,H,G),(n,M,g2),(r,Q,g3),(s,a3,a1),(z,b0,a8),(E,b6,b4),(N,c2,c0)],∀a,(e.1 a).Ok b:=A2 @k (A2 @t (A2 @K (A2 @P (A2 @a2 (A2 @a9 (A2 @b5 (A2 @c1 (C1))))))))
theorem HY{b:Cx}{h l n r s z E N X:List Nat->Spec}{D B H G M g2 Q g3 a3 a1 b0 a8 b6 b4 c2 c0 c8 c6:List Nat}(k:∀{a},(h a).Ok b)(t:∀{a},(l a).Ok b)(K:∀{a},(n a).Ok b)(P:∀{a},(r a).Ok b)(a2:∀{a},(s a).Ok b)(a9:∀{a},(z a).Ok b)(b5:∀{a},(E a).Ok b)(c1:∀{a},(N a).Ok b)(c7:∀{a},(X a).Ok b):∀e∈[(h,D,B),(l,H,G),(n,M,g2),(r,Q,g3),(s,a3,a1),(z,b0,a8),(E,b6,b4),(N,c2,c0),(X,c8,c6)],∀a,(e.1 a).Ok b:=A2 @k (A2 @t (A2 @K (A2 @P (A2 @a2 (A2 @a9 (A2 @b5 (A2 @c1 (A2 @c7 (C1)))))))))
theorem H4{b:Cx}{h l n r s z E N X b1:List Nat->Spec}{D B H G M g2 Q g3 a3 a1 b0 a8 b6 b4 c2 c0 c8 c6 d6 d4:List Nat}(k:∀{a},(h a).Ok b)(t:∀{a},(l a).Ok b)(K:∀{a},(n a).Ok b)(P:∀{a},(r a).Ok b)(a2:∀{a},(s a).Ok b)(a9:∀{a},(z a).Ok b)(b5:∀{a},(E a).Ok b)(c1:∀{a},(N a).Ok b)(c7:∀{a},(X a).Ok b)(d5:∀{a},(b1 a).Ok b):∀e∈[(h,D,B),(l,H,G),(n,M,g2),(r,Q,g3),(s,a3,a1),(z,b0,a8),(E,b6,b4),(N,c2,c0),(X,c8,c6),(b1,d6,d4)],∀a,(e.1 a).Ok b:=A2 @k (A2 @t (A2 @K (A2 @P (A2 @a2 (A2 @a9 (A2 @b5 (A2 @c1 (A2 @c7 (A2 @d5 (C1))))))))))
theorem Od{b:Cx}{h l n r s z E N X b1 b9:List Nat->Spec}{D B H G M g2 Q g3 a3 a1 b0 a8 b6 b4 c2 c0 c8 c6 d6 d4 e2 d9:List Nat}(k:∀{a},(h a).Ok b)(t:∀{a},(l a).Ok b)(K:∀{a},(n a).Ok b)(P:∀{a},(r a).Ok b)(a2:∀{a},(s a).Ok b)(a9:∀{a},(z a).Ok b)(b5:∀{a},(E a).Ok b)(c1:∀{a},(N a).Ok b)(c7:∀{a},(X a).Ok b)(d5:∀{a},(b1 a).Ok b)(e0:∀{a},(b9 a).Ok b):∀e∈[(h,D,B),(l,H,G),(n,M,g2),(r,Q,g3),(s,a3,a1),(z,b0,a8),(E,b6,b4),(N,c2,c0),(X,c8,c6),(b1,d6,d4),(b9,e2,d9)],∀a,(e.1 a).Ok b:=A2 @k (A2 @t (A2 @K (A2 @P (A2 @a2 (A2 @a9 (A2 @b5 (A2 @c1 (A2 @c7 (A2 @d5 (A2 @e0 (C1)))))))))))
theorem V3{b:Cx}{h l n r s z E N X b1 b9 d1:List Nat->Spec}{D B H G M g2 Q g3 a3 a1 b0 a8 b6 b4 c2 c0 c8 c6 d6 d4 e2 d9 e8 e5:List Nat}(k:∀{a},(h a).Ok b)(t:∀{a},(l a).Ok b)(K:∀{a},(n a).Ok b)(P:∀{a},(r a).Ok b)(a2:∀{a},(s a).Ok b)(a9:∀{a},(z a).Ok b)(b5:∀{a},(E a).Ok b)(c1:∀{a},(N a).Ok b)(c7:∀{a},(X a).Ok b)(d5:∀{a},(b1 a).Ok b)(e0:∀{a},(b9 a).Ok b)(e6:∀{a},(d1 a).Ok b):∀e∈[(h,D,B),(l,H,G),(n,M,g2),(r,Q,g3),(s,a3,a1),(z,b0,a8),(E,b6,b4),(N,c2,c0),(X,c8,c6),(b1,d6,d4),(b9,e2,d9),(d1,e8,e5)],∀a,(e.1 a).Ok b:=A2 @k (A2 @t (A2 @K (A2 @P (A2 @a2 (A2 @a9 (A2 @b5 (A2 @c1 (A2 @c7 (A2 @d5 (A2 @e0 (A2 @e6 (C1))))))))))))
theorem UV{b:Cx}{h l n r s z E N X b1 b9 d1 d8:List Nat->Spec}{D B H G M g2 Q g3 a3 a1 b0 a8 b6 b4 c2 c0 c8 c6 d6 d4 e2 d9 e8 e5 f5 f2:List Nat}(k:∀{a},(h a).Ok b)(t:∀{a},(l a).Ok b)(K:∀{a},(n a).Ok b)(P:∀{a},(r a).Ok b)(a2:∀{a},(s a).Ok b)(a9:∀{a},(z a).Ok b)(b5:∀{a},(E a).Ok b)(c1:∀{a},(N a).Ok b)(c7:∀{a},(X a).Ok b)(d5:∀{a},(b1 a).Ok b)(e0:∀{a},(b9 a).Ok b)(e6:∀{a},(d1 a).Ok b)(f3:∀{a},(d8 a).Ok b):∀e∈[(h,D,B),(l,H,G),(n,M,g2),(r,Q,g3),(s,a3,a1),(z,b0,a8),(E,b6,b4),(N,c2,c0),(X,c8,c6),(b1,d6,d4),(b9,e2,d9),(d1,e8,e5),(d8,f5,f2)],∀a,(e.1 a).Ok b:=A2 @k (A2 @t (A2 @K (A2 @P (A2 @a2 (A2 @a9 (A2 @b5 (A2 @c1 (A2 @c7 (A2 @d5 (A2 @e0 (A2 @e6 (A2 @f3 (C1)))))))))))))
theorem PM{b:Cx}{h l n r s z E N X b1 b9 d1 d8 e9:List Nat->Spec}{D B H G M g2 Q g3 a3 a1 b0 a8 b6 b4 c2 c0 c8 c6 d6 d4 e2 d9 e8 e5 f5 f2 g5 g0:List Nat}(k:∀{a},(h a).Ok b)(t:∀{a},(l a).Ok b)(K:∀{a},(n a).Ok b)(P:∀{a},(r a).Ok b)(a2:∀{a},(s a).Ok b)(a9:∀{a},(z a).Ok b)(b5:∀{a},(E a).Ok b)(c1:∀{a},(N a).Ok b)(c7:∀{a},(X a).Ok b)(d5:∀{a},(b1 a).Ok b)(e0:∀{a},(b9 a).Ok b)(e6:∀{a},(d1 a).Ok b)(f3:∀{a},(d8 a).Ok b)(g1:∀{a},(e9 a).Ok b):∀e∈[(h,D,B),(l,H,G),(n,M,g2),(r,Q,g3),(s,a3,a1),(z,b0,a8),(E,b6,b4),(N,c2,c0),(X,c8,c6),(b1,d6,d4),(b9,e2,d9),(d1,e8,e5),(d8,f5,f2),(e9,g5,g0)],∀a,(e.1 a).Ok b:=A2 @k (A2 @t (A2 @K (A2 @P (A2 @a2 (A2 @a9 (A2 @b5 (A2 @c1 (A2 @c7 (A2 @d5 (A2 @e0 (A2 @e6 (A2 @f3 (A2 @g1 (C1))))))))))))))
theorem TA{b:Cx}{h l n r s z E N X b1 b9 d1 d8 e9 f9:List Nat->Spec}{D B H G M g2 Q g3 a3 a1 b0 a8 b6 b4 c2 c0 c8 c6 d6 d4 e2 d9 e8 e5 f5 f2 g5 g0 h0 g6:List Nat}(k:∀{a},(h a).Ok b)(t:∀{a},(l a).Ok b)(K:∀{a},(n a).Ok b)(P:∀{a},(r a).Ok b)(a2:∀{a},(s a).Ok b)(a9:∀{a},(z a).Ok b)(b5:∀{a},(E a).Ok b)(c1:∀{a},(N a).Ok b)(c7:∀{a},(X a).Ok b)(d5:∀{a},(b1 a).Ok b)(e0:∀{a},(b9 a).Ok b)(e6:∀{a},(d1 a).Ok b)(f3:∀{a},(d8 a).Ok b)(g1:∀{a},(e9 a).Ok b)(g7:∀{a},(f9 a).Ok b):∀e∈[(h,D,B),(l,H,G),(n,M,g2),(r,Q,g3),(s,a3,a1),(z,b0,a8),(E,b6,b4),(N,c2,c0),(X,c8,c6),(b1,d6,d4),(b9,e2,d9),(d1,e8,e5),(d8,f5,f2),(e9,g5,g0),(f9,h0,g6)],∀a,(e.1 a).Ok b:=A2 @k (A2 @t (A2 @K (A2 @P (A2 @a2 (A2 @a9 (A2 @b5 (A2 @c1 (A2 @c7 (A2 @d5 (A2 @e0 (A2 @e6 (A2 @f3 (A2 @g1 (A2 @g7 (C1)))))))))))))))
theorem TF{b:Cx}{h l n r s z E N X b1 b9 d1 d8 e9 f9 h3:List Nat->Spec}{D B H G M g2 Q g3 a3 a1 b0 a8 b6 b4 c2 c0 c8 c6 d6 d4 e2 d9 e8 e5 f5 f2 g5 g0 h0 g6 j0 i0:List Nat}(k:∀{a},(h a).Ok b)(t:∀{a},(l a).Ok b)(K:∀{a},(n a).Ok b)(P:∀{a},(r a).Ok b)(a2:∀{a},(s a).Ok b)(a9:∀{a},(z a).Ok b)(b5:∀{a},(E a).Ok b)(c1:∀{a},(N a).Ok b)(c7:∀{a},(X a).Ok b)(d5:∀{a},(b1 a).Ok b)(e0:∀{a},(b9 a).Ok b)(e6:∀{a},(d1 a).Ok b)(f3:∀{a},(d8 a).Ok b)(g1:∀{a},(e9 a).Ok b)(g7:∀{a},(f9 a).Ok b)(i3:∀{a},(h3 a).Ok b):∀e∈[(h,D,B),(l,H,G),(n,M,g2),(r,Q,g3),(s,a3,a1),(z,b0,a8),(E,b6,b4),(N,c2,c0),(X,c8,c6),(b1,d6,d4),(b9,e2,d9),(d1,e8,e5),(d8,f5,f2),(e9,g5,g0),(f9,h0,g6),(h3,j0,i0)],∀a,(e.1 a).Ok b:=A2 @k (A2 @t (A2 @K (A2 @P (A2 @a2 (A2 @a9 (A2 @b5 (A2 @c1 (A2 @c7 (A2 @d5 (A2 @e0 (A2 @e6 (A2 @f3 (A2 @g1 (A2 @g7 (A2 @i3 (C1))))))))))))))))
noncomputable def en(h8:Params)(g:Str)(e3:Nat)(q:Value):DictEntry:=⟨kh h8 g,.str g e3,q⟩
noncomputable def Eb:Stmt->PySem.Expr
 |.For d7 _ _ _ _=>d7
 |_=>.Constant .none 0 default
noncomputable def Ch:Stmt->List Stmt
 |.For _ _ e4 _ _=>e4
 |_=>[]
noncomputable def I9:Stmt->List Stmt
 |.For _ _ _ a0 _=>a0
 |_=>[]
noncomputable def Ff(v:Stmt)(y:Nat)(a0:Env):Code:=.forLoop (Eb v) (.ref y) (Ch v) (I9 v) a0
noncomputable def J(a5:List (Str×Nat)):List Value:=a5.map λc3=>.str c3.1 c3.2
noncomputable def As(a5:List (Str×Nat))(c4:Int):Str×Nat:=a5.getD c4.toNat (⟨⟨[]⟩⟩,0)
noncomputable def AG(e:Str)(a5:List (Str×Nat)):Bool:=a5.any λc3=>c3.1.cps.toList==e.cps.toList
noncomputable def AX(y a:Nat)(b7:List Value)(e:Value)(f6:List Value)(f:Nat):Spec:=
 {code:=.call (.builtin "list_iterator.__next__") ⟨[.ref y],[]⟩,fp:=[(y,A6 a b7.length),(a,I (b7++e::f6) f)],upd:=λ_=>[A6 a (b7.length+1),I (b7++e::f6) f],res:=λ_=>.ok (.ret e),d:=10}
noncomputable def Cm(y a:Nat)(c:List Value)(f:Nat):Spec:=
 {code:=.call (.builtin "list_iterator.__next__") ⟨[.ref y],[]⟩,fp:=[(y,A6 a c.length),(a,I c f)],nf:=2,upd:=λ_=>[B1 c.length,I c f],new:=λq=>[(W 0 q 1,Bp (W 0 q 0))],res:=λq=>.error (.ref (W 0 q 1)),d:=10}
noncomputable def Mp(y a:Nat)(b7:List Value)(e:Value)(f:Nat):Spec:=
 {code:=.call (.builtin "list_iterator.__next__") ⟨[.ref y],[]⟩,fp:=[(y,A6 a b7.length)],upd:=λ_=>[A6 a (b7.length+1)],res:=λ_=>.ok (.ret e),d:=10}
noncomputable def Kt(y a:Nat)(c:List Value)(f:Nat):Spec:=
 {code:=.call (.builtin "list_iterator.__next__") ⟨[.ref y],[]⟩,fp:=[(y,A6 a c.length)],nf:=2,upd:=λ_=>[B1 c.length],new:=λq=>[(W 0 q 1,Bp (W 0 q 0))],res:=λq=>.error (.ref (W 0 q 1)),d:=10}
noncomputable def BN(a:Nat)(a5:List (Str×Nat))(f:Nat)(c4:Int)(b2:Nat):Spec:=
 {code:=.call (.builtin "list.__getitem__") ⟨[.ref a,.int c4 b2],[]⟩,fp:=[(a,I (J a5) f)],upd:=λ_=>[I (J a5) f],res:=λ_=>.ok (.ret (.str (As a5 c4).1 (As a5 c4).2)),d:=10}
noncomputable def Af(a:Nat)(a5:List (Str×Nat))(f:Nat)(e:Str)(b2:Nat)(a4:Bool):Spec:=
 {code:=.call (.builtin "list.__contains__") ⟨[.ref a,.str e b2],[]⟩,fp:=[(a,I (J a5) f)],upd:=λ_=>[I (J a5) f],res:=λ_=>.ok (.ret (.bool a4)),d:=10}
section
variable{b:Cx}(b8:b.Ok){a y f b2:Nat}{c b7 f6:List Value}{e:Value}{a5:List (Str×Nat)}
include b8
open AutoSeq1 (wpAny_loadPart')
omit b8 in
theorem nextI_run{g:Shared}{T c9:VP}(k:g.heap.get? y=some (A6 a b7.length))(t:g.heap.get? a=some (I (b7++e::f6) f))(L:T e {g with heap:=g.heap.update y (Obj.mapFields (·.setIfInBounds 1 (rawInt (b7.length+1))))}):wpAny (model pw b.w) A (call (.builtin "list_iterator.__next__") [.ref y]) T c9 g:=by
 refine wpAny_call_entry slot_listiter_next ⟨_,k,rfl⟩ entry_listiter_next ?_ (args_listiter_next _)
 show wpAny _ _ (field (.ref y) 0>>=_) _ _ g
 refine wpAny_bind (wpAny_field k rfl (x:=.ref a) rfl ?_)
 show wpAny _ _ (if(Value.ref a==Value.none)=true then _ else _) _ _ g
 rw[if_neg (show ¬ ((Value.ref a==Value.none)=true) from Bool.false_ne_true)]
 show wpAny _ _ (field (.ref y) 1>>=_) _ _ g
 refine wpAny_bind (wpAny_field k rfl (x:=.int b7.length 0) rfl ?_)
 show wpAny _ _ (seqItems? (.ref a)>>=_) _ _ g
 refine wpAny_bind (wpAny_seqItems t rfl ?_)
 have e7:(⟨b7++e::f6⟩:Array Value)[b7.length]?=some e:=by simp
 simp only[Int.toNat_natCast,e7]
 exact wpAny_bind (wpAny_setField k rfl (by simp) (wpAny_pure ⟨e,rfl,L⟩))
theorem Av:(AX y a b7 e f6 f).Ok b:=Spec.of_call rfl (λ_=>rfl) (λ_=>rfl) λA d2 d3 g T p L=>
 nextI_run (RepF.get0 p) (RepF.get1 p) (L [] _ _ rfl rfl (RepF.upd0 b8 p (x:=Obj.mapFields (·.setIfInBounds 1 (rawInt (b7.length+1)))) rfl))
theorem AD(i:b.kt.get a=some (I (b7++e::f6) f)):(Mp y a b7 e f).Ok b:=Spec.of_call rfl (λ_=>rfl) (λ_=>rfl) λA d2 d3 g T p L=>
 nextI_run (RepF.get0 p) (Rep.top b8 p i) (L [] _ _ rfl rfl (RepF.upd0 b8 p (x:=Obj.mapFields (·.setIfInBounds 1 (rawInt (b7.length+1)))) rfl))
theorem nextE_run{b3:An}{d3:AK}{g:Shared}{T c9:VP}(i5:A.handled=none)(p:RepF b ((y,A6 a c.length)::b3) [] d3 g)(t:g.heap.get? a=some (I c f))(g4:∀d7 a0 a6,RepF b ((y,B1 c.length)::b3++[(a0,Bp d7)]) [] d3 a6->c9 (.ref a0) a6):wpAny (model pw b.w) A (call (.builtin "list_iterator.__next__") [.ref y]) T c9 g:=by
 have k:=RepF.get0 p
 refine wpAny_call_entry slot_listiter_next ⟨_,k,rfl⟩ entry_listiter_next ?_ (args_listiter_next _)
 show wpAny _ _ (field (.ref y) 0>>=_) _ _ g
 refine wpAny_bind (wpAny_field k rfl (x:=.ref a) rfl ?_)
 show wpAny _ _ (if(Value.ref a==Value.none)=true then _ else _) _ _ g
 rw[if_neg (show ¬ ((Value.ref a==Value.none)=true) from Bool.false_ne_true)]
 show wpAny _ _ (field (.ref y) 1>>=_) _ _ g
 refine wpAny_bind (wpAny_field k rfl (x:=.int c.length 0) rfl ?_)
 show wpAny _ _ (seqItems? (.ref a)>>=_) _ _ g
 refine wpAny_bind (wpAny_seqItems t rfl ?_)
 have e7:(⟨c⟩:Array Value)[c.length]?=none:=by simp
 simp only[Int.toNat_natCast,e7]
 refine wpAny_bind (wpAny_rule (wpAny_bind (wpAny_setField k rfl (by simp) ?_)))
 show wpAny _ _ (newExc (.type "StopIteration") []>>=_) _ _ _
 refine wpAny_bind ?_
 simp only[newExc,newTuple]
 refine wpAny_bind (wpAny_newObj_type ?_ (by size_fits))
 refine wpAny_bind (m:=firstArgMember _ _) (wpAny_of_eq (a:=Value.none) (by first |rfl |(simp only[firstArgMember]; rfl)) ?_)
 refine wpAny_newObj_type ?_ (by size_fits)
 unfold raiseNew
 refine wpAny_bind (wpAny_handled ?_)
 rw[show A.in1.handled=none from i5]
 refine wpAny_bind (wpAny_pure (wpAny_throw ?_))
 have a7:=RepF.upd0 b8 p (x:=Obj.mapFields (·.setIfInBounds 0 .none)) rfl
 have j2:=RepF.push a7 (o:=⟨.type "tuple",none,.seq ⟨[]⟩ 0,⟨[]⟩⟩) rfl
 have j3:=RepF.push j2 (o:=Bp (g.heap.update y (Obj.mapFields (·.setIfInBounds 0 .none))).objs.size) rfl
 have h9:(#[Value.ref (g.heap.update y (Obj.mapFields λe=>e.setIfInBounds 0 Value.none)).objs.size,Value.none,Value.none,Value.none,Value.bool false,Value.none]++ownMembersOf (Value.type "StopIteration") [])
   = ⟨[Value.ref (g.heap.update y (Obj.mapFields λe=>e.setIfInBounds 0 Value.none)).objs.size,Value.none,Value.none,Value.none,Value.bool false,Value.none]⟩:=rfl
 refine g4 (g.heap.update y (Obj.mapFields (·.setIfInBounds 0 .none))).objs.size ((g.heap.update y (Obj.mapFields (·.setIfInBounds 0 .none))).push ⟨.type "tuple",none,.seq ⟨[]⟩ 0,⟨[]⟩⟩).objs.size _ ?_
 rw[h9]
 refine RepF.sub j3 ?_
 rw[List.append_assoc]
 exact List.Sublist.append_left (.cons _ (List.Sublist.refl _)) _
theorem Bw:(Cm y a c f).Ok b:=Spec.of_callE rfl (λ_=>rfl) (λ_=>rfl) λA d2 d3 g T c9 p L g4=>
 nextE_run b8 d2.handled (b3:=[(a,I c f)]) p (RepF.get1 p) λd7 a0 a6 f4=>g4 [d7,a0] _ _ rfl rfl f4
theorem Ke(i:b.kt.get a=some (I c f)):(Kt y a c f).Ok b:=Spec.of_callE rfl (λ_=>rfl) (λ_=>rfl) λA d2 d3 g T c9 p L g4=>
 nextE_run b8 d2.handled (b3:=[]) p (Rep.top b8 p i) λd7 a0 a6 f4=>g4 [d7,a0] _ _ rfl rfl f4
omit b8 in
theorem J7{g:Shared}{T c9:VP}(e1:g.heap.get? a=some (I c f)){e3:Int}(k:0<=e3)(h5:e3<2 ^ 63)(e7:c[e3.toNat]?=some e)(i:T e g) :
  wpAny (model pw b.w) A (call (.builtin "list.__getitem__") [.ref a,.int e3 b2]) T c9 g:=by
 refine wpAny_call_entry slot_list_getitem ⟨_,e1,rfl⟩ entry_list_getitem ?_ (args_list_getitem _ _)
 show wpAny _ _ (Builtin.List.listSubscript? (.int e3 b2)>>=_) _ _ g
 refine wpAny_bind (wpAny_listSubscript_int (fitsIndex_of k h5) ?_)
 clear h5
 obtain⟨h1,rfl⟩:=Int.eq_ofNat_of_zero_le k
 have i8:(⟨c⟩:Array Value)[h1]?=some e:=by simpa using e7
 show wpAny _ _ ((seqItemAt a h1>>=λa4=>pure (a4.map (h1,·)))>>=_) _ _ g
 refine wpAny_bind (wpAny_bind (wpAny_seqItemAt e1 rfl (wpAny_pure ?_)))
 rw[i8]
 exact wpAny_pure ⟨e,rfl,i⟩
theorem B0{c4:Int}(k:0<=c4)(t:c4<a5.length)(i:a5.length<=sizeLine):(BN a a5 f c4 b2).Ok b:=Spec.of_call rfl (λ_=>rfl) (λ_=>rfl) λA d2 d3 g T p L=>by
 have:sizeLine<2 ^ 62:=by decide
 refine J7 (RepF.get0 p) k (by lia) ?_ (L [] _ _ rfl rfl p)
 have:c4.toNat<a5.length:=by omega
 simp[J,As,List.getD,this]
theorem A7{e:Str}{a4:Bool}(i:AG e a5=a4):(Af a a5 f e b2 a4).Ok b:=Spec.of_call rfl (λ_=>rfl) (λ_=>rfl) λA d2 d3 g T p L=>by
 refine call_meets F.slot_list_contains ⟨_,RepF.get0 p,rfl⟩ F.entry_list_contains (F.args_list_contains_2 _ _)
  (MeetsSeq.list_contains a ⟨J a5⟩ f (.str e b2) (λf1=>match f1 with |.str a7 _=>a7.cps.toList==e.cps.toList |_=>false) ?_) ⟨RepF.get0 p,L [] _ _ rfl ?_ p⟩
 ·intro f1 i9
  have:f1∈J a5:=by simpa using i9
  obtain⟨c3,_,rfl⟩:=List.mem_map.mp this
  exact SeqRoads2.EqGives.str c3.1 e c3.2 b2
 ·rw[<-i]
  show Except.ok (Flow.ret (Value.bool _))=Except.ok (Flow.ret (Value.bool _))
  congr 3
  simp[AG,J,List.any_map]
  rfl
end
end
section
noncomputable def BS(i y:Nat):Env:={Gq (C2 13) 285 284 (S [108,97,119,46,60,108,111,99,97,108,115,62,46]) i with cells:=[(S [103,111,101,115],y)]}
noncomputable def Au(i y h:Nat):Code:=Ff (W B6 (B2 (C2 13)) 1) h (BS i y)
noncomputable def AM:Str:=S [115,99,114,105,112,116]
noncomputable def Ax:Str:=S [115,101,99,111,110,100]
noncomputable def AF:Str:=S [102,105,114,115,116]
noncomputable def nX:Str:=S [120]
noncomputable def CH:Str:=N2
noncomputable def CD:Str:=N3
noncomputable def Bq:Str:=N4
noncomputable def B4(h:Nat)(l:List Value)(a:Int)(z:Nat)(a1:Nat):Spec:=Mp h 286 l (.int a z) a1
noncomputable def A0(a:Int):Str:=⟨⟨Cf 3 ((a.fdiv 4).fmod 1375274358112518144)⟩⟩
theorem BO(g:List (Str×Nat))(a9:Str)(K:Nat):J g++[.str a9 K]=J (g++[(a9,K)]):=by simp[J]
noncomputable def DY(a8:Params)(e d s t x r:Nat):Obj:=Bl [en a8 AM s (.ref 286),en a8 Ax t (.ref d),en a8 AF x (.ref e)] r
noncomputable def Dl(a8:Params)(e d:Nat)(a:Int)(s t x Q T X a0 a3 a4 a5 a6 r:Nat):Obj:=Bl [en a8 AM s (.ref 286),en a8 Ax t (.ref d),en a8 AF x (.ref e),
 en a8 nX Q (.int a a3),en a8 CH T (.int (a.fdiv 4) a4),en a8 CD X (.int (a.fmod 4) a5),en a8 Bq a0 (.str (A0 a) a6)] r
noncomputable def BT(b0:Cx)(i h e d:Nat)(a:Int)(b1:Int)(g f:List (Str×Nat))(F:AK)(a9:Shared):Prop:=
 ∃s t x Q T X a0 a3 a4 a5 a6 r p m,RepF b0 [(i,Dl b0.w.params e d a s t x Q T X a0 a3 a4 a5 a6 r),(e,I (J g) p),(d,I (J f) m),(h,A6 286 b1)] [] F a9
section
variable{i y h e d:Nat}{s t x Q T X a0 a3 a4 a5 a6 r a1 p m:Nat}{l b2:List Value}{a a7:Int}{z:Nat}{g f:List (Str×Nat)}(a2:(V w j o u).kt.get 286=some (I (l ++ .int a z::b2) a1))
include O a2
theorem UW(n:a.fmod 4=0)(M:AG (A0 a) g=true)(N:AG (A0 a) f=true)(P:(J g).length<=sizeLine)(L:(J f).length<=sizeLine)(G:0<=(a.fdiv 4).fmod 1375274358112518144)(H:(a.fdiv 4).fmod 1375274358112518144<1112064 ^ 3)(B:Room 200 A)(E:RepF (V w j o u) [(i,DY w.params e d s t x r),(e,I (J g) p),(d,I (J f) m),(h,A6 286 l.length)] [] F v)(D:∀k (K:Nat),BT (V w j o u) i h e d a (l.length+1) g f F k->codeAny (model pw w) A (Au i y h) R k):codeAny (model pw w) A (Au i y h) R v:=by
 refine Bn O B _ 347 0x11010010400010001451410051860061861461860061861461860061861461880010400410010000010010410410410820410410410c3041 [(λb=>B4 h l a z a1,[3],[]),(λb=>Bv ((a.fdiv 4).fmod 1375274358112518144) (C b 13),[],[]),(λb=>Bz (a.fmod 4) 2 (C b 3) (C b 16) true,[],[]),(λb=>Af e g p (A0 a) (C b 14) true,[1],[]),(λb=>Bz (a.fmod 4) 1 (C b 3) (C b 17) true,[],[]),(λb=>Af d f m (A0 a) (C b 14) true,[2],[])] [0,1,2,3] (FW (AD O a2) (AP O G H) (Ap O (by rw[n]; rfl)) (A7 O M) (Ap O (by rw[n]; rfl)) (A7 O N)) (λc=>[(i,(Bl [en w.params AM s (.ref 286),en w.params Ax t (.ref d),en w.params AF x (.ref e),en w.params (S [120]) (c 0) (.int a z),en w.params N2 (c 8) (.int (a.fdiv 4) (c 2)),en w.params N3 (c 9) (.int (a.fmod 4) (c 3)),en w.params N4 (c 15) (.str ((A0 a)) (c 14))] ((((r+1)+1)+1)+1))),(e,(I (J g) p)),(d,(I (J f) m)),(h,(A6 286 (↑l.length+1)))]) E λc k q=>D k (c 14) ?_
 exact⟨_,_,_,_,_,_,_,_,_,_,_,_,_,_,q⟩
theorem TK(n:a.fmod 4=0)(M:AG (A0 a) g=true)(N:AG (A0 a) f=false)(P:(J g).length<=sizeLine)(L:(J f).length<=sizeLine)(G:0<=(a.fdiv 4).fmod 1375274358112518144)(H:(a.fdiv 4).fmod 1375274358112518144<1112064 ^ 3)(B:Room 200 A)(E:RepF (V w j o u) [(i,DY w.params e d s t x r),(e,I (J g) p),(d,I (J f) m),(h,A6 286 l.length)] [] F v)(D:∀k (K:Nat),BT (V w j o u) i h e d a (l.length+1) g (f++[(A0 a,K)]) F k->codeAny (model pw w) A (Au i y h) R k):codeAny (model pw w) A (Au i y h) R v:=by
 refine Bn O B _ 375 0x11010010400010001451410051860061861461860061861461860061861461880010400410010000010010410410410820410410410c30410c30c3041040001041041 [(λb=>B4 h l a z a1,[3],[]),(λb=>Bv ((a.fdiv 4).fmod 1375274358112518144) (C b 13),[],[]),(λb=>Bz (a.fmod 4) 2 (C b 3) (C b 16) true,[],[]),(λb=>Af e g p (A0 a) (C b 14) true,[1],[]),(λb=>Bz (a.fmod 4) 1 (C b 3) (C b 17) true,[],[]),(λb=>Af d f m (A0 a) (C b 14) false,[2],[]),(λb=>CM (a.fmod 4) 3 (C b 3) (C b 18) false,[],[]),(λb=>BU d (J f) m,[2],[]),(λb=>Fo d (J f) m (Value.str (A0 a) (C b 14)) (C b 19),[2],[])] [0,1,2,3] (HY (AD O a2) (AP O G H) (Ap O (by rw[n]; rfl)) (A7 O M) (Ap O (by rw[n]; rfl)) (A7 O N) (B7 O (by rw[n]; rfl)) (AS L) (Dt O L)) (λc=>[(i,(Bl [en w.params AM s (.ref 286),en w.params Ax t (.ref d),en w.params AF x (.ref e),en w.params (S [120]) (c 0) (.int a z),en w.params N2 (c 8) (.int (a.fdiv 4) (c 2)),en w.params N3 (c 9) (.int (a.fmod 4) (c 3)),en w.params N4 (c 15) (.str ((A0 a)) (c 14))] ((((r+1)+1)+1)+1))),(e,(I (J g) p)),(d,(I (J f++[Value.str (A0 a) (c 14)]) (m+1))),(h,(A6 286 (↑l.length+1)))]) E λc k q=>D k (c 14) ?_
 simp only[BO] at q
 exact⟨_,_,_,_,_,_,_,_,_,_,_,_,_,_,q⟩
theorem TZ(n:a.fmod 4=0)(M:AG (A0 a) g=false)(N:AG (A0 a) f=true)(P:(J g).length<=sizeLine)(L:(J f).length<=sizeLine)(G:0<=(a.fdiv 4).fmod 1375274358112518144)(H:(a.fdiv 4).fmod 1375274358112518144<1112064 ^ 3)(B:Room 200 A)(E:RepF (V w j o u) [(i,DY w.params e d s t x r),(e,I (J g) p),(d,I (J f) m),(h,A6 286 l.length)] [] F v)(D:∀k (K:Nat),BT (V w j o u) i h e d a (l.length+1) (g++[(A0 a,K)]) f F k->codeAny (model pw w) A (Au i y h) R k):codeAny (model pw w) A (Au i y h) R v:=by
 refine Bn O B _ 361 0x440400410000400051450401461801861851861801861851861801861851862000410010400400000400410410410420810420820810410410410c3041 [(λb=>B4 h l a z a1,[3],[]),(λb=>Bv ((a.fdiv 4).fmod 1375274358112518144) (C b 13),[],[]),(λb=>Bz (a.fmod 4) 2 (C b 3) (C b 16) true,[],[]),(λb=>Af e g p (A0 a) (C b 14) false,[1],[]),(λb=>AJ e (J g) p (Value.str (A0 a) (C b 14)),[1],[]),(λb=>Bz (a.fmod 4) 1 (C b 3) (C b 17) true,[],[]),(λb=>Af d f m (A0 a) (C b 14) true,[2],[])] [0,1,2,3] (Fa (AD O a2) (AP O G H) (Ap O (by rw[n]; rfl)) (A7 O M) (Ag O P) (Ap O (by rw[n]; rfl)) (A7 O N)) (λc=>[(i,(Bl [en w.params AM s (.ref 286),en w.params Ax t (.ref d),en w.params AF x (.ref e),en w.params (S [120]) (c 0) (.int a z),en w.params N2 (c 8) (.int (a.fdiv 4) (c 2)),en w.params N3 (c 9) (.int (a.fmod 4) (c 3)),en w.params N4 (c 15) (.str ((A0 a)) (c 14))] ((((r+1)+1)+1)+1))),(e,(I (J g++[Value.str (A0 a) (c 14)]) (p+1))),(d,(I (J f) m)),(h,(A6 286 (↑l.length+1)))]) E λc k q=>D k (c 14) ?_
 simp only[BO] at q
 exact⟨_,_,_,_,_,_,_,_,_,_,_,_,_,_,q⟩
theorem TU(n:a.fmod 4=0)(M:AG (A0 a) g=false)(N:AG (A0 a) f=false)(P:(J g).length<=sizeLine)(L:(J f).length<=sizeLine)(G:0<=(a.fdiv 4).fmod 1375274358112518144)(H:(a.fdiv 4).fmod 1375274358112518144<1112064 ^ 3)(B:Room 200 A)(E:RepF (V w j o u) [(i,DY w.params e d s t x r),(e,I (J g) p),(d,I (J f) m),(h,A6 286 l.length)] [] F v)(D:∀k (K:Nat),BT (V w j o u) i h e d a (l.length+1) (g++[(A0 a,K)]) (f++[(A0 a,K)]) F k->codeAny (model pw w) A (Au i y h) R k):codeAny (model pw w) A (Au i y h) R v:=by
 refine Bn O B _ 389 0x440400410000400051450401461801861851861801861851861801861851862000410010400400000400410410410420810420820810410410410c30410c30c3041040001041041 [(λb=>B4 h l a z a1,[3],[]),(λb=>Bv ((a.fdiv 4).fmod 1375274358112518144) (C b 13),[],[]),(λb=>Bz (a.fmod 4) 2 (C b 3) (C b 16) true,[],[]),(λb=>Af e g p (A0 a) (C b 14) false,[1],[]),(λb=>AJ e (J g) p (Value.str (A0 a) (C b 14)),[1],[]),(λb=>Bz (a.fmod 4) 1 (C b 3) (C b 17) true,[],[]),(λb=>Af d f m (A0 a) (C b 14) false,[2],[]),(λb=>CM (a.fmod 4) 3 (C b 3) (C b 18) false,[],[]),(λb=>BU d (J f) m,[2],[]),(λb=>Fo d (J f) m (Value.str (A0 a) (C b 14)) (C b 19),[2],[])] [0,1,2,3] (H4 (AD O a2) (AP O G H) (Ap O (by rw[n]; rfl)) (A7 O M) (Ag O P) (Ap O (by rw[n]; rfl)) (A7 O N) (B7 O (by rw[n]; rfl)) (AS L) (Dt O L)) (λc=>[(i,(Bl [en w.params AM s (.ref 286),en w.params Ax t (.ref d),en w.params AF x (.ref e),en w.params (S [120]) (c 0) (.int a z),en w.params N2 (c 8) (.int (a.fdiv 4) (c 2)),en w.params N3 (c 9) (.int (a.fmod 4) (c 3)),en w.params N4 (c 15) (.str ((A0 a)) (c 14))] ((((r+1)+1)+1)+1))),(e,(I (J g++[Value.str (A0 a) (c 14)]) (p+1))),(d,(I (J f++[Value.str (A0 a) (c 14)]) (m+1))),(h,(A6 286 (↑l.length+1)))]) E λc k q=>D k (c 14) ?_
 simp only[BO] at q
 exact⟨_,_,_,_,_,_,_,_,_,_,_,_,_,_,q⟩
theorem TV(n:a.fmod 4=1)(M:AG (A0 a) g=true)(P:(J g).length<=sizeLine)(L:(J f).length<=sizeLine)(G:0<=(a.fdiv 4).fmod 1375274358112518144)(H:(a.fdiv 4).fmod 1375274358112518144<1112064 ^ 3)(B:Room 200 A)(E:RepF (V w j o u) [(i,DY w.params e d s t x r),(e,I (J g) p),(d,I (J f) m),(h,A6 286 l.length)] [] F v)(D:∀k (K:Nat),BT (V w j o u) i h e d a (l.length+1) g f F k->codeAny (model pw w) A (Au i y h) R k):codeAny (model pw w) A (Au i y h) R v:=by
 refine Bn O B _ 339 0x44040041000040005145040146180186185186180186185186180186185186200041001040040000040041041041042081041041 [(λb=>B4 h l a z a1,[3],[]),(λb=>Bv ((a.fdiv 4).fmod 1375274358112518144) (C b 13),[],[]),(λb=>Bz (a.fmod 4) 2 (C b 3) (C b 16) true,[],[]),(λb=>Af e g p (A0 a) (C b 14) true,[1],[]),(λb=>Bz (a.fmod 4) 1 (C b 3) (C b 17) false,[],[])] [0,1,2,3] (Ir (AD O a2) (AP O G H) (Ap O (by rw[n]; rfl)) (A7 O M) (Ap O (by rw[n]; rfl))) (λc=>[(i,(Bl [en w.params AM s (.ref 286),en w.params Ax t (.ref d),en w.params AF x (.ref e),en w.params (S [120]) (c 0) (.int a z),en w.params N2 (c 8) (.int (a.fdiv 4) (c 2)),en w.params N3 (c 9) (.int (a.fmod 4) (c 3)),en w.params N4 (c 15) (.str ((A0 a)) (c 14))] ((((r+1)+1)+1)+1))),(e,(I (J g) p)),(d,(I (J f) m)),(h,(A6 286 (↑l.length+1)))]) E λc k q=>D k (c 14) ?_
 exact⟨_,_,_,_,_,_,_,_,_,_,_,_,_,_,q⟩
theorem Ug(n:a.fmod 4=1)(M:AG (A0 a) g=false)(P:(J g).length<=sizeLine)(L:(J f).length<=sizeLine)(G:0<=(a.fdiv 4).fmod 1375274358112518144)(H:(a.fdiv 4).fmod 1375274358112518144<1112064 ^ 3)(B:Room 200 A)(E:RepF (V w j o u) [(i,DY w.params e d s t x r),(e,I (J g) p),(d,I (J f) m),(h,A6 286 l.length)] [] F v)(D:∀k (K:Nat),BT (V w j o u) i h e d a (l.length+1) (g++[(A0 a,K)]) f F k->codeAny (model pw w) A (Au i y h) R k):codeAny (model pw w) A (Au i y h) R v:=by
 refine Bn O B _ 353 0x1101001040001000145141005186006186146186006186146186006186146188001040041001000001001041041041082041082082041041041 [(λb=>B4 h l a z a1,[3],[]),(λb=>Bv ((a.fdiv 4).fmod 1375274358112518144) (C b 13),[],[]),(λb=>Bz (a.fmod 4) 2 (C b 3) (C b 16) true,[],[]),(λb=>Af e g p (A0 a) (C b 14) false,[1],[]),(λb=>AJ e (J g) p (Value.str (A0 a) (C b 14)),[1],[]),(λb=>Bz (a.fmod 4) 1 (C b 3) (C b 17) false,[],[])] [0,1,2,3] (FW (AD O a2) (AP O G H) (Ap O (by rw[n]; rfl)) (A7 O M) (Ag O P) (Ap O (by rw[n]; rfl))) (λc=>[(i,(Bl [en w.params AM s (.ref 286),en w.params Ax t (.ref d),en w.params AF x (.ref e),en w.params (S [120]) (c 0) (.int a z),en w.params N2 (c 8) (.int (a.fdiv 4) (c 2)),en w.params N3 (c 9) (.int (a.fmod 4) (c 3)),en w.params N4 (c 15) (.str ((A0 a)) (c 14))] ((((r+1)+1)+1)+1))),(e,(I (J g++[Value.str (A0 a) (c 14)]) (p+1))),(d,(I (J f) m)),(h,(A6 286 (↑l.length+1)))]) E λc k q=>D k (c 14) ?_
 simp only[BO] at q
 exact⟨_,_,_,_,_,_,_,_,_,_,_,_,_,_,q⟩
theorem Ut(n:a.fmod 4=2)(N:AG (A0 a) f=true)(P:(J g).length<=sizeLine)(L:(J f).length<=sizeLine)(G:0<=(a.fdiv 4).fmod 1375274358112518144)(H:(a.fdiv 4).fmod 1375274358112518144<1112064 ^ 3)(B:Room 200 A)(E:RepF (V w j o u) [(i,DY w.params e d s t x r),(e,I (J g) p),(d,I (J f) m),(h,A6 286 l.length)] [] F v)(D:∀k (K:Nat),BT (V w j o u) i h e d a (l.length+1) g f F k->codeAny (model pw w) A (Au i y h) R k):codeAny (model pw w) A (Au i y h) R v:=by
 refine Bn O B _ 339 0x440400410000400051450401461801861851861801861851861801861851862000410010400400000400410410410410410c3041 [(λb=>B4 h l a z a1,[3],[]),(λb=>Bv ((a.fdiv 4).fmod 1375274358112518144) (C b 13),[],[]),(λb=>Bz (a.fmod 4) 2 (C b 3) (C b 16) false,[],[]),(λb=>Bz (a.fmod 4) 1 (C b 3) (C b 17) true,[],[]),(λb=>Af d f m (A0 a) (C b 14) true,[2],[])] [0,1,2,3] (Ir (AD O a2) (AP O G H) (Ap O (by rw[n]; rfl)) (Ap O (by rw[n]; rfl)) (A7 O N)) (λc=>[(i,(Bl [en w.params AM s (.ref 286),en w.params Ax t (.ref d),en w.params AF x (.ref e),en w.params (S [120]) (c 0) (.int a z),en w.params N2 (c 8) (.int (a.fdiv 4) (c 2)),en w.params N3 (c 9) (.int (a.fmod 4) (c 3)),en w.params N4 (c 15) (.str ((A0 a)) (c 14))] ((((r+1)+1)+1)+1))),(e,(I (J g) p)),(d,(I (J f) m)),(h,(A6 286 (↑l.length+1)))]) E λc k q=>D k (c 14) ?_
 exact⟨_,_,_,_,_,_,_,_,_,_,_,_,_,_,q⟩
theorem Ui(n:a.fmod 4=2)(N:AG (A0 a) f=false)(P:(J g).length<=sizeLine)(L:(J f).length<=sizeLine)(G:0<=(a.fdiv 4).fmod 1375274358112518144)(H:(a.fdiv 4).fmod 1375274358112518144<1112064 ^ 3)(B:Room 200 A)(E:RepF (V w j o u) [(i,DY w.params e d s t x r),(e,I (J g) p),(d,I (J f) m),(h,A6 286 l.length)] [] F v)(D:∀k (K:Nat),BT (V w j o u) i h e d a (l.length+1) g (f++[(A0 a,K)]) F k->codeAny (model pw w) A (Au i y h) R k):codeAny (model pw w) A (Au i y h) R v:=by
 refine Bn O B _ 367 0x440400410000400051450401461801861851861801861851861801861851862000410010400400000400410410410410410c30410c30c3041040001041041 [(λb=>B4 h l a z a1,[3],[]),(λb=>Bv ((a.fdiv 4).fmod 1375274358112518144) (C b 13),[],[]),(λb=>Bz (a.fmod 4) 2 (C b 3) (C b 16) false,[],[]),(λb=>Bz (a.fmod 4) 1 (C b 3) (C b 17) true,[],[]),(λb=>Af d f m (A0 a) (C b 14) false,[2],[]),(λb=>CM (a.fmod 4) 3 (C b 3) (C b 18) false,[],[]),(λb=>BU d (J f) m,[2],[]),(λb=>Fo d (J f) m (Value.str (A0 a) (C b 14)) (C b 19),[2],[])] [0,1,2,3] (G7 (AD O a2) (AP O G H) (Ap O (by rw[n]; rfl)) (Ap O (by rw[n]; rfl)) (A7 O N) (B7 O (by rw[n]; rfl)) (AS L) (Dt O L)) (λc=>[(i,(Bl [en w.params AM s (.ref 286),en w.params Ax t (.ref d),en w.params AF x (.ref e),en w.params (S [120]) (c 0) (.int a z),en w.params N2 (c 8) (.int (a.fdiv 4) (c 2)),en w.params N3 (c 9) (.int (a.fmod 4) (c 3)),en w.params N4 (c 15) (.str ((A0 a)) (c 14))] ((((r+1)+1)+1)+1))),(e,(I (J g) p)),(d,(I (J f++[Value.str (A0 a) (c 14)]) (m+1))),(h,(A6 286 (↑l.length+1)))]) E λc k q=>D k (c 14) ?_
 simp only[BO] at q
 exact⟨_,_,_,_,_,_,_,_,_,_,_,_,_,_,q⟩
theorem V0(n:a.fmod 4=3)(M:AG (A0 a) g=true)(N:AG (A0 a) f=true)(P:(J g).length<=sizeLine)(L:(J f).length<=sizeLine)(G:0<=(a.fdiv 4).fmod 1375274358112518144)(H:(a.fdiv 4).fmod 1375274358112518144<1112064 ^ 3)(B:Room 200 A)(E:RepF (V w j o u) [(i,DY w.params e d s t x r),(e,I (J g) p),(d,I (J f) m),(h,A6 286 l.length)] [] F v)(D:∀k (K:Nat),BT (V w j o u) i h e d a (l.length+1) g f F k->codeAny (model pw w) A (Au i y h) R k):codeAny (model pw w) A (Au i y h) R v:=by
 refine Bn O B _ 347 0x11010010400010001451410051860061861461860061861461860061861461880010400410010000010010410410410820410410410c3041 [(λb=>B4 h l a z a1,[3],[]),(λb=>Bv ((a.fdiv 4).fmod 1375274358112518144) (C b 13),[],[]),(λb=>Bz (a.fmod 4) 2 (C b 3) (C b 16) true,[],[]),(λb=>Af e g p (A0 a) (C b 14) true,[1],[]),(λb=>Bz (a.fmod 4) 1 (C b 3) (C b 17) true,[],[]),(λb=>Af d f m (A0 a) (C b 14) true,[2],[])] [0,1,2,3] (FW (AD O a2) (AP O G H) (Ap O (by rw[n]; rfl)) (A7 O M) (Ap O (by rw[n]; rfl)) (A7 O N)) (λc=>[(i,(Bl [en w.params AM s (.ref 286),en w.params Ax t (.ref d),en w.params AF x (.ref e),en w.params (S [120]) (c 0) (.int a z),en w.params N2 (c 8) (.int (a.fdiv 4) (c 2)),en w.params N3 (c 9) (.int (a.fmod 4) (c 3)),en w.params N4 (c 15) (.str ((A0 a)) (c 14))] ((((r+1)+1)+1)+1))),(e,(I (J g) p)),(d,(I (J f) m)),(h,(A6 286 (↑l.length+1)))]) E λc k q=>D k (c 14) ?_
 exact⟨_,_,_,_,_,_,_,_,_,_,_,_,_,_,q⟩
theorem UH(n:a.fmod 4=3)(M:AG (A0 a) g=true)(N:AG (A0 a) f=false)(P:(J g).length<=sizeLine)(L:(J f).length<=sizeLine)(G:0<=(a.fdiv 4).fmod 1375274358112518144)(H:(a.fdiv 4).fmod 1375274358112518144<1112064 ^ 3)(B:Room 200 A)(E:RepF (V w j o u) [(i,DY w.params e d s t x r),(e,I (J g) p),(d,I (J f) m),(h,A6 286 l.length)] [] F v)(D:∀k (K:Nat),BT (V w j o u) i h e d a (l.length+1) g ((A0 a,K)::f) F k->codeAny (model pw w) A (Au i y h) R k):codeAny (model pw w) A (Au i y h) R v:=by
 refine Bn O B _ 368 0x11010010400010001451410051860061861461860061861461860061861461880010400410010000010010410410410820410410410c30410c30c3041041041 [(λb=>B4 h l a z a1,[3],[]),(λb=>Bv ((a.fdiv 4).fmod 1375274358112518144) (C b 13),[],[]),(λb=>Bz (a.fmod 4) 2 (C b 3) (C b 16) true,[],[]),(λb=>Af e g p (A0 a) (C b 14) true,[1],[]),(λb=>Bz (a.fmod 4) 1 (C b 3) (C b 17) true,[],[]),(λb=>Af d f m (A0 a) (C b 14) false,[2],[]),(λb=>CM (a.fmod 4) 3 (C b 3) (C b 18) true,[],[]),(λb=>HH d (J f) m (Value.str (A0 a) (C b 14)) (C b 19),[2],[])] [0,1,2,3] (G7 (AD O a2) (AP O G H) (Ap O (by rw[n]; rfl)) (A7 O M) (Ap O (by rw[n]; rfl)) (A7 O N) (B7 O (by rw[n]; rfl)) (ET O L)) (λc=>[(i,(Bl [en w.params AM s (.ref 286),en w.params Ax t (.ref d),en w.params AF x (.ref e),en w.params (S [120]) (c 0) (.int a z),en w.params N2 (c 8) (.int (a.fdiv 4) (c 2)),en w.params N3 (c 9) (.int (a.fmod 4) (c 3)),en w.params N4 (c 15) (.str ((A0 a)) (c 14))] ((((r+1)+1)+1)+1))),(e,(I (J g) p)),(d,(I ((.str ((A0 a)) (c 14))::(J f)) (m+1))),(h,(A6 286 (↑l.length+1)))]) E λc k q=>D k (c 14) ?_
 exact⟨_,_,_,_,_,_,_,_,_,_,_,_,_,_,q⟩
theorem SS(n:a.fmod 4=3)(M:AG (A0 a) g=false)(N:AG (A0 a) f=true)(P:(J g).length<=sizeLine)(L:(J f).length<=sizeLine)(G:0<=(a.fdiv 4).fmod 1375274358112518144)(H:(a.fdiv 4).fmod 1375274358112518144<1112064 ^ 3)(B:Room 200 A)(E:RepF (V w j o u) [(i,DY w.params e d s t x r),(e,I (J g) p),(d,I (J f) m),(h,A6 286 l.length)] [] F v)(D:∀k (K:Nat),BT (V w j o u) i h e d a (l.length+1) (g++[(A0 a,K)]) f F k->codeAny (model pw w) A (Au i y h) R k):codeAny (model pw w) A (Au i y h) R v:=by
 refine Bn O B _ 361 0x440400410000400051450401461801861851861801861851861801861851862000410010400400000400410410410420810420820810410410410c3041 [(λb=>B4 h l a z a1,[3],[]),(λb=>Bv ((a.fdiv 4).fmod 1375274358112518144) (C b 13),[],[]),(λb=>Bz (a.fmod 4) 2 (C b 3) (C b 16) true,[],[]),(λb=>Af e g p (A0 a) (C b 14) false,[1],[]),(λb=>AJ e (J g) p (Value.str (A0 a) (C b 14)),[1],[]),(λb=>Bz (a.fmod 4) 1 (C b 3) (C b 17) true,[],[]),(λb=>Af d f m (A0 a) (C b 14) true,[2],[])] [0,1,2,3] (Fa (AD O a2) (AP O G H) (Ap O (by rw[n]; rfl)) (A7 O M) (Ag O P) (Ap O (by rw[n]; rfl)) (A7 O N)) (λc=>[(i,(Bl [en w.params AM s (.ref 286),en w.params Ax t (.ref d),en w.params AF x (.ref e),en w.params (S [120]) (c 0) (.int a z),en w.params N2 (c 8) (.int (a.fdiv 4) (c 2)),en w.params N3 (c 9) (.int (a.fmod 4) (c 3)),en w.params N4 (c 15) (.str ((A0 a)) (c 14))] ((((r+1)+1)+1)+1))),(e,(I (J g++[Value.str (A0 a) (c 14)]) (p+1))),(d,(I (J f) m)),(h,(A6 286 (↑l.length+1)))]) E λc k q=>D k (c 14) ?_
 simp only[BO] at q
 exact⟨_,_,_,_,_,_,_,_,_,_,_,_,_,_,q⟩
theorem Ry(n:a.fmod 4=3)(M:AG (A0 a) g=false)(N:AG (A0 a) f=false)(P:(J g).length<=sizeLine)(L:(J f).length<=sizeLine)(G:0<=(a.fdiv 4).fmod 1375274358112518144)(H:(a.fdiv 4).fmod 1375274358112518144<1112064 ^ 3)(B:Room 200 A)(E:RepF (V w j o u) [(i,DY w.params e d s t x r),(e,I (J g) p),(d,I (J f) m),(h,A6 286 l.length)] [] F v)(D:∀k (K:Nat),BT (V w j o u) i h e d a (l.length+1) (g++[(A0 a,K)]) ((A0 a,K)::f) F k->codeAny (model pw w) A (Au i y h) R k):codeAny (model pw w) A (Au i y h) R v:=by
 refine Bn O B _ 382 0x440400410000400051450401461801861851861801861851861801861851862000410010400400000400410410410420810420820810410410410c30410c30c3041041041 [(λb=>B4 h l a z a1,[3],[]),(λb=>Bv ((a.fdiv 4).fmod 1375274358112518144) (C b 13),[],[]),(λb=>Bz (a.fmod 4) 2 (C b 3) (C b 16) true,[],[]),(λb=>Af e g p (A0 a) (C b 14) false,[1],[]),(λb=>AJ e (J g) p (Value.str (A0 a) (C b 14)),[1],[]),(λb=>Bz (a.fmod 4) 1 (C b 3) (C b 17) true,[],[]),(λb=>Af d f m (A0 a) (C b 14) false,[2],[]),(λb=>CM (a.fmod 4) 3 (C b 3) (C b 18) true,[],[]),(λb=>HH d (J f) m (Value.str (A0 a) (C b 14)) (C b 19),[2],[])] [0,1,2,3] (HY (AD O a2) (AP O G H) (Ap O (by rw[n]; rfl)) (A7 O M) (Ag O P) (Ap O (by rw[n]; rfl)) (A7 O N) (B7 O (by rw[n]; rfl)) (ET O L)) (λc=>[(i,(Bl [en w.params AM s (.ref 286),en w.params Ax t (.ref d),en w.params AF x (.ref e),en w.params (S [120]) (c 0) (.int a z),en w.params N2 (c 8) (.int (a.fdiv 4) (c 2)),en w.params N3 (c 9) (.int (a.fmod 4) (c 3)),en w.params N4 (c 15) (.str ((A0 a)) (c 14))] ((((r+1)+1)+1)+1))),(e,(I (J g++[Value.str (A0 a) (c 14)]) (p+1))),(d,(I ((.str ((A0 a)) (c 14))::(J f)) (m+1))),(h,(A6 286 (↑l.length+1)))]) E λc k q=>D k (c 14) ?_
 simp only[BO] at q
 exact⟨_,_,_,_,_,_,_,_,_,_,_,_,_,_,q⟩
theorem TJ(n:a.fmod 4=0)(M:AG (A0 a) g=true)(N:AG (A0 a) f=true)(P:(J g).length<=sizeLine)(L:(J f).length<=sizeLine)(G:0<=(a.fdiv 4).fmod 1375274358112518144)(H:(a.fdiv 4).fmod 1375274358112518144<1112064 ^ 3)(B:Room 200 A)(E:RepF (V w j o u) [(i,Dl w.params e d a7 s t x Q T X a0 a3 a4 a5 a6 r),(e,I (J g) p),(d,I (J f) m),(h,A6 286 l.length)] [] F v)(D:∀k (K:Nat),BT (V w j o u) i h e d a (l.length+1) g f F k->codeAny (model pw w) A (Au i y h) R k):codeAny (model pw w) A (Au i y h) R v:=by
 refine Bn O B _ 347 0x11010010400010001451410051860061861461860061861461860061861461880010400410010000010010410410410820410410410c3041 [(λb=>B4 h l a z a1,[3],[]),(λb=>Bv ((a.fdiv 4).fmod 1375274358112518144) (C b 13),[],[]),(λb=>Bz (a.fmod 4) 2 (C b 3) (C b 16) true,[],[]),(λb=>Af e g p (A0 a) (C b 14) true,[1],[]),(λb=>Bz (a.fmod 4) 1 (C b 3) (C b 17) true,[],[]),(λb=>Af d f m (A0 a) (C b 14) true,[2],[])] [0,1,2,3] (FW (AD O a2) (AP O G H) (Ap O (by rw[n]; rfl)) (A7 O M) (Ap O (by rw[n]; rfl)) (A7 O N)) (λc=>[(i,(Bl [en w.params AM s (.ref 286),en w.params Ax t (.ref d),en w.params AF x (.ref e),en w.params nX Q (.int a z),en w.params CH T (.int (a.fdiv 4) (c 2)),en w.params CD X (.int (a.fmod 4) (c 3)),en w.params Bq a0 (.str ((A0 a)) (c 14))] r)),(e,(I (J g) p)),(d,(I (J f) m)),(h,(A6 286 (↑l.length+1)))]) E λc k q=>D k (c 14) ?_
 exact⟨_,_,_,_,_,_,_,_,_,_,_,_,_,_,q⟩
theorem Te(n:a.fmod 4=0)(M:AG (A0 a) g=true)(N:AG (A0 a) f=false)(P:(J g).length<=sizeLine)(L:(J f).length<=sizeLine)(G:0<=(a.fdiv 4).fmod 1375274358112518144)(H:(a.fdiv 4).fmod 1375274358112518144<1112064 ^ 3)(B:Room 200 A)(E:RepF (V w j o u) [(i,Dl w.params e d a7 s t x Q T X a0 a3 a4 a5 a6 r),(e,I (J g) p),(d,I (J f) m),(h,A6 286 l.length)] [] F v)(D:∀k (K:Nat),BT (V w j o u) i h e d a (l.length+1) g (f++[(A0 a,K)]) F k->codeAny (model pw w) A (Au i y h) R k):codeAny (model pw w) A (Au i y h) R v:=by
 refine Bn O B _ 375 0x11010010400010001451410051860061861461860061861461860061861461880010400410010000010010410410410820410410410c30410c30c3041040001041041 [(λb=>B4 h l a z a1,[3],[]),(λb=>Bv ((a.fdiv 4).fmod 1375274358112518144) (C b 13),[],[]),(λb=>Bz (a.fmod 4) 2 (C b 3) (C b 16) true,[],[]),(λb=>Af e g p (A0 a) (C b 14) true,[1],[]),(λb=>Bz (a.fmod 4) 1 (C b 3) (C b 17) true,[],[]),(λb=>Af d f m (A0 a) (C b 14) false,[2],[]),(λb=>CM (a.fmod 4) 3 (C b 3) (C b 18) false,[],[]),(λb=>BU d (J f) m,[2],[]),(λb=>Fo d (J f) m (Value.str (A0 a) (C b 14)) (C b 19),[2],[])] [0,1,2,3] (HY (AD O a2) (AP O G H) (Ap O (by rw[n]; rfl)) (A7 O M) (Ap O (by rw[n]; rfl)) (A7 O N) (B7 O (by rw[n]; rfl)) (AS L) (Dt O L)) (λc=>[(i,(Bl [en w.params AM s (.ref 286),en w.params Ax t (.ref d),en w.params AF x (.ref e),en w.params nX Q (.int a z),en w.params CH T (.int (a.fdiv 4) (c 2)),en w.params CD X (.int (a.fmod 4) (c 3)),en w.params Bq a0 (.str ((A0 a)) (c 14))] r)),(e,(I (J g) p)),(d,(I (J f++[Value.str (A0 a) (c 14)]) (m+1))),(h,(A6 286 (↑l.length+1)))]) E λc k q=>D k (c 14) ?_
 simp only[BO] at q
 exact⟨_,_,_,_,_,_,_,_,_,_,_,_,_,_,q⟩
theorem TY(n:a.fmod 4=0)(M:AG (A0 a) g=false)(N:AG (A0 a) f=true)(P:(J g).length<=sizeLine)(L:(J f).length<=sizeLine)(G:0<=(a.fdiv 4).fmod 1375274358112518144)(H:(a.fdiv 4).fmod 1375274358112518144<1112064 ^ 3)(B:Room 200 A)(E:RepF (V w j o u) [(i,Dl w.params e d a7 s t x Q T X a0 a3 a4 a5 a6 r),(e,I (J g) p),(d,I (J f) m),(h,A6 286 l.length)] [] F v)(D:∀k (K:Nat),BT (V w j o u) i h e d a (l.length+1) (g++[(A0 a,K)]) f F k->codeAny (model pw w) A (Au i y h) R k):codeAny (model pw w) A (Au i y h) R v:=by
 refine Bn O B _ 361 0x440400410000400051450401461801861851861801861851861801861851862000410010400400000400410410410420810420820810410410410c3041 [(λb=>B4 h l a z a1,[3],[]),(λb=>Bv ((a.fdiv 4).fmod 1375274358112518144) (C b 13),[],[]),(λb=>Bz (a.fmod 4) 2 (C b 3) (C b 16) true,[],[]),(λb=>Af e g p (A0 a) (C b 14) false,[1],[]),(λb=>AJ e (J g) p (Value.str (A0 a) (C b 14)),[1],[]),(λb=>Bz (a.fmod 4) 1 (C b 3) (C b 17) true,[],[]),(λb=>Af d f m (A0 a) (C b 14) true,[2],[])] [0,1,2,3] (Fa (AD O a2) (AP O G H) (Ap O (by rw[n]; rfl)) (A7 O M) (Ag O P) (Ap O (by rw[n]; rfl)) (A7 O N)) (λc=>[(i,(Bl [en w.params AM s (.ref 286),en w.params Ax t (.ref d),en w.params AF x (.ref e),en w.params nX Q (.int a z),en w.params CH T (.int (a.fdiv 4) (c 2)),en w.params CD X (.int (a.fmod 4) (c 3)),en w.params Bq a0 (.str ((A0 a)) (c 14))] r)),(e,(I (J g++[Value.str (A0 a) (c 14)]) (p+1))),(d,(I (J f) m)),(h,(A6 286 (↑l.length+1)))]) E λc k q=>D k (c 14) ?_
 simp only[BO] at q
 exact⟨_,_,_,_,_,_,_,_,_,_,_,_,_,_,q⟩
theorem Ur(n:a.fmod 4=0)(M:AG (A0 a) g=false)(N:AG (A0 a) f=false)(P:(J g).length<=sizeLine)(L:(J f).length<=sizeLine)(G:0<=(a.fdiv 4).fmod 1375274358112518144)(H:(a.fdiv 4).fmod 1375274358112518144<1112064 ^ 3)(B:Room 200 A)(E:RepF (V w j o u) [(i,Dl w.params e d a7 s t x Q T X a0 a3 a4 a5 a6 r),(e,I (J g) p),(d,I (J f) m),(h,A6 286 l.length)] [] F v)(D:∀k (K:Nat),BT (V w j o u) i h e d a (l.length+1) (g++[(A0 a,K)]) (f++[(A0 a,K)]) F k->codeAny (model pw w) A (Au i y h) R k):codeAny (model pw w) A (Au i y h) R v:=by
 refine Bn O B _ 389 0x440400410000400051450401461801861851861801861851861801861851862000410010400400000400410410410420810420820810410410410c30410c30c3041040001041041 [(λb=>B4 h l a z a1,[3],[]),(λb=>Bv ((a.fdiv 4).fmod 1375274358112518144) (C b 13),[],[]),(λb=>Bz (a.fmod 4) 2 (C b 3) (C b 16) true,[],[]),(λb=>Af e g p (A0 a) (C b 14) false,[1],[]),(λb=>AJ e (J g) p (Value.str (A0 a) (C b 14)),[1],[]),(λb=>Bz (a.fmod 4) 1 (C b 3) (C b 17) true,[],[]),(λb=>Af d f m (A0 a) (C b 14) false,[2],[]),(λb=>CM (a.fmod 4) 3 (C b 3) (C b 18) false,[],[]),(λb=>BU d (J f) m,[2],[]),(λb=>Fo d (J f) m (Value.str (A0 a) (C b 14)) (C b 19),[2],[])] [0,1,2,3] (H4 (AD O a2) (AP O G H) (Ap O (by rw[n]; rfl)) (A7 O M) (Ag O P) (Ap O (by rw[n]; rfl)) (A7 O N) (B7 O (by rw[n]; rfl)) (AS L) (Dt O L)) (λc=>[(i,(Bl [en w.params AM s (.ref 286),en w.params Ax t (.ref d),en w.params AF x (.ref e),en w.params nX Q (.int a z),en w.params CH T (.int (a.fdiv 4) (c 2)),en w.params CD X (.int (a.fmod 4) (c 3)),en w.params Bq a0 (.str ((A0 a)) (c 14))] r)),(e,(I (J g++[Value.str (A0 a) (c 14)]) (p+1))),(d,(I (J f++[Value.str (A0 a) (c 14)]) (m+1))),(h,(A6 286 (↑l.length+1)))]) E λc k q=>D k (c 14) ?_
 simp only[BO] at q
 exact⟨_,_,_,_,_,_,_,_,_,_,_,_,_,_,q⟩
theorem US(n:a.fmod 4=1)(M:AG (A0 a) g=true)(P:(J g).length<=sizeLine)(L:(J f).length<=sizeLine)(G:0<=(a.fdiv 4).fmod 1375274358112518144)(H:(a.fdiv 4).fmod 1375274358112518144<1112064 ^ 3)(B:Room 200 A)(E:RepF (V w j o u) [(i,Dl w.params e d a7 s t x Q T X a0 a3 a4 a5 a6 r),(e,I (J g) p),(d,I (J f) m),(h,A6 286 l.length)] [] F v)(D:∀k (K:Nat),BT (V w j o u) i h e d a (l.length+1) g f F k->codeAny (model pw w) A (Au i y h) R k):codeAny (model pw w) A (Au i y h) R v:=by
 refine Bn O B _ 339 0x44040041000040005145040146180186185186180186185186180186185186200041001040040000040041041041042081041041 [(λb=>B4 h l a z a1,[3],[]),(λb=>Bv ((a.fdiv 4).fmod 1375274358112518144) (C b 13),[],[]),(λb=>Bz (a.fmod 4) 2 (C b 3) (C b 16) true,[],[]),(λb=>Af e g p (A0 a) (C b 14) true,[1],[]),(λb=>Bz (a.fmod 4) 1 (C b 3) (C b 17) false,[],[])] [0,1,2,3] (Ir (AD O a2) (AP O G H) (Ap O (by rw[n]; rfl)) (A7 O M) (Ap O (by rw[n]; rfl))) (λc=>[(i,(Bl [en w.params AM s (.ref 286),en w.params Ax t (.ref d),en w.params AF x (.ref e),en w.params nX Q (.int a z),en w.params CH T (.int (a.fdiv 4) (c 2)),en w.params CD X (.int (a.fmod 4) (c 3)),en w.params Bq a0 (.str ((A0 a)) (c 14))] r)),(e,(I (J g) p)),(d,(I (J f) m)),(h,(A6 286 (↑l.length+1)))]) E λc k q=>D k (c 14) ?_
 exact⟨_,_,_,_,_,_,_,_,_,_,_,_,_,_,q⟩
theorem UI(n:a.fmod 4=1)(M:AG (A0 a) g=false)(P:(J g).length<=sizeLine)(L:(J f).length<=sizeLine)(G:0<=(a.fdiv 4).fmod 1375274358112518144)(H:(a.fdiv 4).fmod 1375274358112518144<1112064 ^ 3)(B:Room 200 A)(E:RepF (V w j o u) [(i,Dl w.params e d a7 s t x Q T X a0 a3 a4 a5 a6 r),(e,I (J g) p),(d,I (J f) m),(h,A6 286 l.length)] [] F v)(D:∀k (K:Nat),BT (V w j o u) i h e d a (l.length+1) (g++[(A0 a,K)]) f F k->codeAny (model pw w) A (Au i y h) R k):codeAny (model pw w) A (Au i y h) R v:=by
 refine Bn O B _ 353 0x1101001040001000145141005186006186146186006186146186006186146188001040041001000001001041041041082041082082041041041 [(λb=>B4 h l a z a1,[3],[]),(λb=>Bv ((a.fdiv 4).fmod 1375274358112518144) (C b 13),[],[]),(λb=>Bz (a.fmod 4) 2 (C b 3) (C b 16) true,[],[]),(λb=>Af e g p (A0 a) (C b 14) false,[1],[]),(λb=>AJ e (J g) p (Value.str (A0 a) (C b 14)),[1],[]),(λb=>Bz (a.fmod 4) 1 (C b 3) (C b 17) false,[],[])] [0,1,2,3] (FW (AD O a2) (AP O G H) (Ap O (by rw[n]; rfl)) (A7 O M) (Ag O P) (Ap O (by rw[n]; rfl))) (λc=>[(i,(Bl [en w.params AM s (.ref 286),en w.params Ax t (.ref d),en w.params AF x (.ref e),en w.params nX Q (.int a z),en w.params CH T (.int (a.fdiv 4) (c 2)),en w.params CD X (.int (a.fmod 4) (c 3)),en w.params Bq a0 (.str ((A0 a)) (c 14))] r)),(e,(I (J g++[Value.str (A0 a) (c 14)]) (p+1))),(d,(I (J f) m)),(h,(A6 286 (↑l.length+1)))]) E λc k q=>D k (c 14) ?_
 simp only[BO] at q
 exact⟨_,_,_,_,_,_,_,_,_,_,_,_,_,_,q⟩
theorem SW(n:a.fmod 4=2)(N:AG (A0 a) f=true)(P:(J g).length<=sizeLine)(L:(J f).length<=sizeLine)(G:0<=(a.fdiv 4).fmod 1375274358112518144)(H:(a.fdiv 4).fmod 1375274358112518144<1112064 ^ 3)(B:Room 200 A)(E:RepF (V w j o u) [(i,Dl w.params e d a7 s t x Q T X a0 a3 a4 a5 a6 r),(e,I (J g) p),(d,I (J f) m),(h,A6 286 l.length)] [] F v)(D:∀k (K:Nat),BT (V w j o u) i h e d a (l.length+1) g f F k->codeAny (model pw w) A (Au i y h) R k):codeAny (model pw w) A (Au i y h) R v:=by
 refine Bn O B _ 339 0x440400410000400051450401461801861851861801861851861801861851862000410010400400000400410410410410410c3041 [(λb=>B4 h l a z a1,[3],[]),(λb=>Bv ((a.fdiv 4).fmod 1375274358112518144) (C b 13),[],[]),(λb=>Bz (a.fmod 4) 2 (C b 3) (C b 16) false,[],[]),(λb=>Bz (a.fmod 4) 1 (C b 3) (C b 17) true,[],[]),(λb=>Af d f m (A0 a) (C b 14) true,[2],[])] [0,1,2,3] (Ir (AD O a2) (AP O G H) (Ap O (by rw[n]; rfl)) (Ap O (by rw[n]; rfl)) (A7 O N)) (λc=>[(i,(Bl [en w.params AM s (.ref 286),en w.params Ax t (.ref d),en w.params AF x (.ref e),en w.params nX Q (.int a z),en w.params CH T (.int (a.fdiv 4) (c 2)),en w.params CD X (.int (a.fmod 4) (c 3)),en w.params Bq a0 (.str ((A0 a)) (c 14))] r)),(e,(I (J g) p)),(d,(I (J f) m)),(h,(A6 286 (↑l.length+1)))]) E λc k q=>D k (c 14) ?_
 exact⟨_,_,_,_,_,_,_,_,_,_,_,_,_,_,q⟩
theorem TT(n:a.fmod 4=2)(N:AG (A0 a) f=false)(P:(J g).length<=sizeLine)(L:(J f).length<=sizeLine)(G:0<=(a.fdiv 4).fmod 1375274358112518144)(H:(a.fdiv 4).fmod 1375274358112518144<1112064 ^ 3)(B:Room 200 A)(E:RepF (V w j o u) [(i,Dl w.params e d a7 s t x Q T X a0 a3 a4 a5 a6 r),(e,I (J g) p),(d,I (J f) m),(h,A6 286 l.length)] [] F v)(D:∀k (K:Nat),BT (V w j o u) i h e d a (l.length+1) g (f++[(A0 a,K)]) F k->codeAny (model pw w) A (Au i y h) R k):codeAny (model pw w) A (Au i y h) R v:=by
 refine Bn O B _ 367 0x440400410000400051450401461801861851861801861851861801861851862000410010400400000400410410410410410c30410c30c3041040001041041 [(λb=>B4 h l a z a1,[3],[]),(λb=>Bv ((a.fdiv 4).fmod 1375274358112518144) (C b 13),[],[]),(λb=>Bz (a.fmod 4) 2 (C b 3) (C b 16) false,[],[]),(λb=>Bz (a.fmod 4) 1 (C b 3) (C b 17) true,[],[]),(λb=>Af d f m (A0 a) (C b 14) false,[2],[]),(λb=>CM (a.fmod 4) 3 (C b 3) (C b 18) false,[],[]),(λb=>BU d (J f) m,[2],[]),(λb=>Fo d (J f) m (Value.str (A0 a) (C b 14)) (C b 19),[2],[])] [0,1,2,3] (G7 (AD O a2) (AP O G H) (Ap O (by rw[n]; rfl)) (Ap O (by rw[n]; rfl)) (A7 O N) (B7 O (by rw[n]; rfl)) (AS L) (Dt O L)) (λc=>[(i,(Bl [en w.params AM s (.ref 286),en w.params Ax t (.ref d),en w.params AF x (.ref e),en w.params nX Q (.int a z),en w.params CH T (.int (a.fdiv 4) (c 2)),en w.params CD X (.int (a.fmod 4) (c 3)),en w.params Bq a0 (.str ((A0 a)) (c 14))] r)),(e,(I (J g) p)),(d,(I (J f++[Value.str (A0 a) (c 14)]) (m+1))),(h,(A6 286 (↑l.length+1)))]) E λc k q=>D k (c 14) ?_
 simp only[BO] at q
 exact⟨_,_,_,_,_,_,_,_,_,_,_,_,_,_,q⟩
theorem Ta(n:a.fmod 4=3)(M:AG (A0 a) g=true)(N:AG (A0 a) f=true)(P:(J g).length<=sizeLine)(L:(J f).length<=sizeLine)(G:0<=(a.fdiv 4).fmod 1375274358112518144)(H:(a.fdiv 4).fmod 1375274358112518144<1112064 ^ 3)(B:Room 200 A)(E:RepF (V w j o u) [(i,Dl w.params e d a7 s t x Q T X a0 a3 a4 a5 a6 r),(e,I (J g) p),(d,I (J f) m),(h,A6 286 l.length)] [] F v)(D:∀k (K:Nat),BT (V w j o u) i h e d a (l.length+1) g f F k->codeAny (model pw w) A (Au i y h) R k):codeAny (model pw w) A (Au i y h) R v:=by
 refine Bn O B _ 347 0x11010010400010001451410051860061861461860061861461860061861461880010400410010000010010410410410820410410410c3041 [(λb=>B4 h l a z a1,[3],[]),(λb=>Bv ((a.fdiv 4).fmod 1375274358112518144) (C b 13),[],[]),(λb=>Bz (a.fmod 4) 2 (C b 3) (C b 16) true,[],[]),(λb=>Af e g p (A0 a) (C b 14) true,[1],[]),(λb=>Bz (a.fmod 4) 1 (C b 3) (C b 17) true,[],[]),(λb=>Af d f m (A0 a) (C b 14) true,[2],[])] [0,1,2,3] (FW (AD O a2) (AP O G H) (Ap O (by rw[n]; rfl)) (A7 O M) (Ap O (by rw[n]; rfl)) (A7 O N)) (λc=>[(i,(Bl [en w.params AM s (.ref 286),en w.params Ax t (.ref d),en w.params AF x (.ref e),en w.params nX Q (.int a z),en w.params CH T (.int (a.fdiv 4) (c 2)),en w.params CD X (.int (a.fmod 4) (c 3)),en w.params Bq a0 (.str ((A0 a)) (c 14))] r)),(e,(I (J g) p)),(d,(I (J f) m)),(h,(A6 286 (↑l.length+1)))]) E λc k q=>D k (c 14) ?_
 exact⟨_,_,_,_,_,_,_,_,_,_,_,_,_,_,q⟩
theorem TD(n:a.fmod 4=3)(M:AG (A0 a) g=true)(N:AG (A0 a) f=false)(P:(J g).length<=sizeLine)(L:(J f).length<=sizeLine)(G:0<=(a.fdiv 4).fmod 1375274358112518144)(H:(a.fdiv 4).fmod 1375274358112518144<1112064 ^ 3)(B:Room 200 A)(E:RepF (V w j o u) [(i,Dl w.params e d a7 s t x Q T X a0 a3 a4 a5 a6 r),(e,I (J g) p),(d,I (J f) m),(h,A6 286 l.length)] [] F v)(D:∀k (K:Nat),BT (V w j o u) i h e d a (l.length+1) g ((A0 a,K)::f) F k->codeAny (model pw w) A (Au i y h) R k):codeAny (model pw w) A (Au i y h) R v:=by
 refine Bn O B _ 368 0x11010010400010001451410051860061861461860061861461860061861461880010400410010000010010410410410820410410410c30410c30c3041041041 [(λb=>B4 h l a z a1,[3],[]),(λb=>Bv ((a.fdiv 4).fmod 1375274358112518144) (C b 13),[],[]),(λb=>Bz (a.fmod 4) 2 (C b 3) (C b 16) true,[],[]),(λb=>Af e g p (A0 a) (C b 14) true,[1],[]),(λb=>Bz (a.fmod 4) 1 (C b 3) (C b 17) true,[],[]),(λb=>Af d f m (A0 a) (C b 14) false,[2],[]),(λb=>CM (a.fmod 4) 3 (C b 3) (C b 18) true,[],[]),(λb=>HH d (J f) m (Value.str (A0 a) (C b 14)) (C b 19),[2],[])] [0,1,2,3] (G7 (AD O a2) (AP O G H) (Ap O (by rw[n]; rfl)) (A7 O M) (Ap O (by rw[n]; rfl)) (A7 O N) (B7 O (by rw[n]; rfl)) (ET O L)) (λc=>[(i,(Bl [en w.params AM s (.ref 286),en w.params Ax t (.ref d),en w.params AF x (.ref e),en w.params nX Q (.int a z),en w.params CH T (.int (a.fdiv 4) (c 2)),en w.params CD X (.int (a.fmod 4) (c 3)),en w.params Bq a0 (.str ((A0 a)) (c 14))] r)),(e,(I (J g) p)),(d,(I ((.str ((A0 a)) (c 14))::(J f)) (m+1))),(h,(A6 286 (↑l.length+1)))]) E λc k q=>D k (c 14) ?_
 exact⟨_,_,_,_,_,_,_,_,_,_,_,_,_,_,q⟩
theorem RW(n:a.fmod 4=3)(M:AG (A0 a) g=false)(N:AG (A0 a) f=true)(P:(J g).length<=sizeLine)(L:(J f).length<=sizeLine)(G:0<=(a.fdiv 4).fmod 1375274358112518144)(H:(a.fdiv 4).fmod 1375274358112518144<1112064 ^ 3)(B:Room 200 A)(E:RepF (V w j o u) [(i,Dl w.params e d a7 s t x Q T X a0 a3 a4 a5 a6 r),(e,I (J g) p),(d,I (J f) m),(h,A6 286 l.length)] [] F v)(D:∀k (K:Nat),BT (V w j o u) i h e d a (l.length+1) (g++[(A0 a,K)]) f F k->codeAny (model pw w) A (Au i y h) R k):codeAny (model pw w) A (Au i y h) R v:=by
 refine Bn O B _ 361 0x440400410000400051450401461801861851861801861851861801861851862000410010400400000400410410410420810420820810410410410c3041 [(λb=>B4 h l a z a1,[3],[]),(λb=>Bv ((a.fdiv 4).fmod 1375274358112518144) (C b 13),[],[]),(λb=>Bz (a.fmod 4) 2 (C b 3) (C b 16) true,[],[]),(λb=>Af e g p (A0 a) (C b 14) false,[1],[]),(λb=>AJ e (J g) p (Value.str (A0 a) (C b 14)),[1],[]),(λb=>Bz (a.fmod 4) 1 (C b 3) (C b 17) true,[],[]),(λb=>Af d f m (A0 a) (C b 14) true,[2],[])] [0,1,2,3] (Fa (AD O a2) (AP O G H) (Ap O (by rw[n]; rfl)) (A7 O M) (Ag O P) (Ap O (by rw[n]; rfl)) (A7 O N)) (λc=>[(i,(Bl [en w.params AM s (.ref 286),en w.params Ax t (.ref d),en w.params AF x (.ref e),en w.params nX Q (.int a z),en w.params CH T (.int (a.fdiv 4) (c 2)),en w.params CD X (.int (a.fmod 4) (c 3)),en w.params Bq a0 (.str ((A0 a)) (c 14))] r)),(e,(I (J g++[Value.str (A0 a) (c 14)]) (p+1))),(d,(I (J f) m)),(h,(A6 286 (↑l.length+1)))]) E λc k q=>D k (c 14) ?_
 simp only[BO] at q
 exact⟨_,_,_,_,_,_,_,_,_,_,_,_,_,_,q⟩
theorem SK(n:a.fmod 4=3)(M:AG (A0 a) g=false)(N:AG (A0 a) f=false)(P:(J g).length<=sizeLine)(L:(J f).length<=sizeLine)(G:0<=(a.fdiv 4).fmod 1375274358112518144)(H:(a.fdiv 4).fmod 1375274358112518144<1112064 ^ 3)(B:Room 200 A)(E:RepF (V w j o u) [(i,Dl w.params e d a7 s t x Q T X a0 a3 a4 a5 a6 r),(e,I (J g) p),(d,I (J f) m),(h,A6 286 l.length)] [] F v)(D:∀k (K:Nat),BT (V w j o u) i h e d a (l.length+1) (g++[(A0 a,K)]) ((A0 a,K)::f) F k->codeAny (model pw w) A (Au i y h) R k):codeAny (model pw w) A (Au i y h) R v:=by
 refine Bn O B _ 382 0x440400410000400051450401461801861851861801861851861801861851862000410010400400000400410410410420810420820810410410410c30410c30c3041041041 [(λb=>B4 h l a z a1,[3],[]),(λb=>Bv ((a.fdiv 4).fmod 1375274358112518144) (C b 13),[],[]),(λb=>Bz (a.fmod 4) 2 (C b 3) (C b 16) true,[],[]),(λb=>Af e g p (A0 a) (C b 14) false,[1],[]),(λb=>AJ e (J g) p (Value.str (A0 a) (C b 14)),[1],[]),(λb=>Bz (a.fmod 4) 1 (C b 3) (C b 17) true,[],[]),(λb=>Af d f m (A0 a) (C b 14) false,[2],[]),(λb=>CM (a.fmod 4) 3 (C b 3) (C b 18) true,[],[]),(λb=>HH d (J f) m (Value.str (A0 a) (C b 14)) (C b 19),[2],[])] [0,1,2,3] (HY (AD O a2) (AP O G H) (Ap O (by rw[n]; rfl)) (A7 O M) (Ag O P) (Ap O (by rw[n]; rfl)) (A7 O N) (B7 O (by rw[n]; rfl)) (ET O L)) (λc=>[(i,(Bl [en w.params AM s (.ref 286),en w.params Ax t (.ref d),en w.params AF x (.ref e),en w.params nX Q (.int a z),en w.params CH T (.int (a.fdiv 4) (c 2)),en w.params CD X (.int (a.fmod 4) (c 3)),en w.params Bq a0 (.str ((A0 a)) (c 14))] r)),(e,(I (J g++[Value.str (A0 a) (c 14)]) (p+1))),(d,(I ((.str ((A0 a)) (c 14))::(J f)) (m+1))),(h,(A6 286 (↑l.length+1)))]) E λc k q=>D k (c 14) ?_
 simp only[BO] at q
 exact⟨_,_,_,_,_,_,_,_,_,_,_,_,_,_,q⟩
end
end
section
noncomputable def Di:List Nat->Nat
 |[]=>0
 |x::L=>2 ^ x*(2*Di L+1)
theorem Go:∀(x a7 a S:Nat),2 ^ x*(2*a+1)=2 ^ a7*(2*S+1)->x=a7/\a=S
 |0,0,a,S,b=>by simp at b; exact⟨rfl,by lia⟩
 |0,a7+1,a,S,b=>by
  rw[Nat.pow_succ] at b
  have:2 ^ a7*2*(2*S+1)=2*(2 ^ a7*(2*S+1)):=by rw[Nat.mul_comm (2 ^ a7) 2,Nat.mul_assoc]
  rw[this] at b; simp at b; lia
 |x+1,0,a,S,b=>by
  rw[Nat.pow_succ] at b
  have:2 ^ x*2*(2*a+1)=2*(2 ^ x*(2*a+1)):=by rw[Nat.mul_comm (2 ^ x) 2,Nat.mul_assoc]
  rw[this] at b; simp at b; lia
 |x+1,a7+1,a,S,b=>by
  rw[Nat.pow_succ,Nat.pow_succ,Nat.mul_comm (2 ^ x) 2,Nat.mul_comm (2 ^ a7) 2,Nat.mul_assoc,Nat.mul_assoc] at b
  have:=Nat.eq_of_mul_eq_mul_left (by decide:0<2) b
  obtain⟨i,k⟩:=Go x a7 a S this
  exact⟨by rw[i],k⟩
theorem KC:∀(L b2:List Nat),Di L=Di b2->L=b2
 |[],[],_=>rfl
 |[],a7::b2,b=>by
  have:0<2 ^ a7*(2*Di b2+1):=Nat.mul_pos (Nat.pow_pos (by decide)) (by exact Nat.succ_pos _)
  simp only[Di] at b; omega
 |x::L,[],b=>by
  have:0<2 ^ x*(2*Di L+1):=Nat.mul_pos (Nat.pow_pos (by decide)) (by exact Nat.succ_pos _)
  simp only[Di] at b; omega
 |x::L,a7::b2,b=>by
  obtain⟨i,k⟩:=Go x a7 (Di L) (Di b2) b
  rw[i,KC L b2 k]
noncomputable def GG(B:Nat):List Nat:=open Classical in if b:∃L,Di L=B then b.choose else[]
theorem C6(L:List Nat):GG (Di L)=L:=by
 have b:∃b2,Di b2=Di L:=⟨L,rfl⟩
 unfold GG
 rw[dif_pos b]
 exact KC _ _ b.choose_spec
noncomputable def IH(A:List Str)(d2:List Nat):List (Str×Nat):=match A with
 |[]=>[]
 |a::A=>(a,d2.headD 0)::IH A d2.tail
theorem In:∀f:List (Str×Nat),IH (f.map (·.1)) (f.map (·.2))=f
 |[]=>rfl
 |p::f=>by
  show(p.1,p.2)::IH (f.map (·.1)) (f.map (·.2))=_
  rw[In f]
theorem Ix:∀(A:List Str) (d2:List Nat),(IH A d2).map (·.1)=A
 |[],_=>rfl
 |a::A,d2=>by
  show a::(IH A d2.tail).map (·.1)=_
  rw[Ix A]
noncomputable def toks(A:List Str)(B:Nat):List (Str×Nat):=IH A (GG B)
theorem Dz(f:List (Str×Nat)):∃B,toks (f.map (·.1)) B=f:=⟨Di (f.map (·.2)),by unfold toks; rw[C6]; exact In f⟩
theorem Aq(A:List Str)(B:Nat):(toks A B).map (·.1)=A:=Ix A _
noncomputable def EO(x:Str)(A:List Str):Bool:=A.any λp=>p.cps.toList==x.cps.toList
theorem F6(x:Str)(f:List (Str×Nat)):AG x f=EO x (f.map (·.1)):=by
 unfold AG EO; rw[List.any_map]; rfl
noncomputable def AI(z:Int)(A a9:List Str):List Str×List Str:=
 (if z.fmod 4=2 then A else if EO (A0 z) A then A else A++[A0 z],
  if z.fmod 4=1 then a9 else if EO (A0 z) a9 then a9 else if z.fmod 4=3 then A0 z::a9 else a9++[A0 z])
noncomputable def Ab:List Int->List Str->List Str->List Str×List Str
 |[],A,a9=>(A,a9)
 |z::n,A,a9=>Ab n (AI z A a9).1 (AI z A a9).2
noncomputable def GM:List Int->Int->Int
 |[],z=>z
 |a::L,_=>GM L a
noncomputable def vI(n:List (Int×Nat)):List Value:=n.map λp=>.int p.1 p.2
theorem Iu(z:Int):0<=(z.fdiv 4).fmod 1375274358112518144/\(z.fdiv 4).fmod 1375274358112518144<1112064 ^ 3:=by
 have a:=Int.fmod_nonneg_of_pos (z.fdiv 4) (b:=1375274358112518144) (by decide)
 have S:=Int.fmod_lt_of_pos (z.fdiv 4) (b:=1375274358112518144) (by decide)
 exact⟨a,by
  have M:(1112064:Int) ^ 3=1375274358112518144:=by decide
  rw[M]; exact S⟩
theorem H0(z:Int):z.fmod 4=0∨z.fmod 4=1∨z.fmod 4=2∨z.fmod 4=3:=by
 have a:=Int.fmod_nonneg_of_pos z (b:=4) (by decide)
 have S:=Int.fmod_lt_of_pos z (b:=4) (by decide)
 lia
section
variable{Q b1 K X a0:Nat}
include O
theorem MZ{G d4:List Value}{z b0:Int}{a1 B:Nat}{f m:List (Str×Nat)}(h:(V w j o u).kt.get 286=some (I (G ++ .int z a1::d4) B))(q:(J f).length<=sizeLine)(r:(J m).length<=sizeLine)(l:Room 200 A)(g:BT (V w j o u) Q K X a0 b0 G.length f m F v)(s:∀c N P,(N.map (·.1),P.map (·.1))=AI z (f.map (·.1)) (m.map (·.1))->BT (V w j o u) Q K X a0 z (G.length+1) N P F c->codeAny (model pw w) A (Au Q b1 K) R c) :
  codeAny (model pw w) A (Au Q b1 K) R v:=by
 obtain⟨a2,a3,a4,b3,b4,b5,b6,b8,b9,c0,c1,M,a5,a6,g⟩:=g
 obtain⟨t,y⟩:=Iu z
 have c5:=F6 (A0 z) f
 have c6:=F6 (A0 z) m
 rcases H0 z with e |e |e |e
 ·cases i:AG (A0 z) f <;> cases k:AG (A0 z) m <;> (have D:=c5.symm.trans i; have E:=c6.symm.trans k)
  ·exact Ur O h e i k q r t y l g λc H b=>s c _ _ (by simp[AI,e,D,E]) b
  ·exact TY O h e i k q r t y l g λc H b=>s c _ _ (by simp[AI,e,D,E]) b
  ·exact Te O h e i k q r t y l g λc H b=>s c _ _ (by simp[AI,e,D,E]) b
  ·exact TJ O h e i k q r t y l g λc H b=>s c _ _ (by simp[AI,e,D,E]) b
 ·cases i:AG (A0 z) f <;> (have D:=c5.symm.trans i)
  ·exact UI O h e i q r t y l g λc H b=>s c _ _ (by simp[AI,e,D]) b
  ·exact US O h e i q r t y l g λc H b=>s c _ _ (by simp[AI,e,D]) b
 ·cases k:AG (A0 z) m <;> (have E:=c6.symm.trans k)
  ·exact TT O h e k q r t y l g λc H b=>s c _ _ (by simp[AI,e,E]) b
  ·exact SW O h e k q r t y l g λc H b=>s c _ _ (by simp[AI,e,E]) b
 ·cases i:AG (A0 z) f <;> cases k:AG (A0 z) m <;> (have D:=c5.symm.trans i; have E:=c6.symm.trans k)
  ·exact SK O h e i k q r t y l g λc H b=>s c _ _ (by simp[AI,e,D,E]) b
  ·exact RW O h e i k q r t y l g λc H b=>s c _ _ (by simp[AI,e,D,E]) b
  ·exact TD O h e i k q r t y l g λc H b=>s c _ _ (by simp[AI,e,D,E]) b
  ·exact Ta O h e i k q r t y l g λc H b=>s c _ _ (by simp[AI,e,D,E]) b
theorem NA{G d4:List Value}{z:Int}{a1 B:Nat}{f m:List (Str×Nat)}{a2 a3 a4 M a5 a6:Nat}(h:(V w j o u).kt.get 286=some (I (G ++ .int z a1::d4) B))(q:(J f).length<=sizeLine)(r:(J m).length<=sizeLine)(l:Room 200 A)(g:RepF (V w j o u) [(Q,DY w.params X a0 a2 a3 a4 M),(X,I (J f) a5),(a0,I (J m) a6),(K,A6 286 G.length)] [] F v)(s:∀c N P,(N.map (·.1),P.map (·.1))=AI z (f.map (·.1)) (m.map (·.1))->BT (V w j o u) Q K X a0 z (G.length+1) N P F c->codeAny (model pw w) A (Au Q b1 K) R c) :
  codeAny (model pw w) A (Au Q b1 K) R v:=by
 obtain⟨t,y⟩:=Iu z
 have c5:=F6 (A0 z) f
 have c6:=F6 (A0 z) m
 rcases H0 z with e |e |e |e
 ·cases i:AG (A0 z) f <;> cases k:AG (A0 z) m <;> (have D:=c5.symm.trans i; have E:=c6.symm.trans k)
  ·exact TU O h e i k q r t y l g λc H b=>s c _ _ (by simp[AI,e,D,E]) b
  ·exact TZ O h e i k q r t y l g λc H b=>s c _ _ (by simp[AI,e,D,E]) b
  ·exact TK O h e i k q r t y l g λc H b=>s c _ _ (by simp[AI,e,D,E]) b
  ·exact UW O h e i k q r t y l g λc H b=>s c _ _ (by simp[AI,e,D,E]) b
 ·cases i:AG (A0 z) f <;> (have D:=c5.symm.trans i)
  ·exact Ug O h e i q r t y l g λc H b=>s c _ _ (by simp[AI,e,D]) b
  ·exact TV O h e i q r t y l g λc H b=>s c _ _ (by simp[AI,e,D]) b
 ·cases k:AG (A0 z) m <;> (have E:=c6.symm.trans k)
  ·exact Ui O h e k q r t y l g λc H b=>s c _ _ (by simp[AI,e,E]) b
  ·exact Ut O h e k q r t y l g λc H b=>s c _ _ (by simp[AI,e,E]) b
 ·cases i:AG (A0 z) f <;> cases k:AG (A0 z) m <;> (have D:=c5.symm.trans i; have E:=c6.symm.trans k)
  ·exact Ry O h e i k q r t y l g λc H b=>s c _ _ (by simp[AI,e,D,E]) b
  ·exact SS O h e i k q r t y l g λc H b=>s c _ _ (by simp[AI,e,D,E]) b
  ·exact UH O h e i k q r t y l g λc H b=>s c _ _ (by simp[AI,e,D,E]) b
  ·exact V0 O h e i k q r t y l g λc H b=>s c _ _ (by simp[AI,e,D,E]) b
omit O in
theorem RepF.out{c4:Cx}{e1 a8 c3:An}{c2:Gs}{b7:Shared}(b:RepF c4 e1 c2 F b7)(M:e1.Perm (c3++a8)):RepF c4 c3 c2 (a8++F.1,F.2) b7:=by
 have z:Rep c4 (c3++a8++F.1) (c2++F.2) b7:=Rep.perm b (M.symm.append_right _)
 rw[List.append_assoc] at z
 exact z
omit O in
theorem RepF.into{c4:Cx}{a8 c3:An}{c2:Gs}{b7:Shared}(b:RepF c4 c3 c2 (a8++F.1,F.2) b7):RepF c4 (c3++a8) c2 F b7:=by
 have z:Rep c4 (c3++(a8++F.1)) (c2++F.2) b7:=b
 rw[<-List.append_assoc] at z
 exact z
theorem QZ{d5:List Value}{B:Nat}(h:(V w j o u).kt.get 286=some (I d5 B))(l:Room 200 A){a8:An}(g:RepF (V w j o u) ([(K,A6 286 d5.length)]++a8) [] F v)(e:∀c,RepF (V w j o u) ([(K,B1 d5.length)]++a8) [] F c->R (.ok .next) c):codeAny (model pw w) A (Au Q b1 K) R v:=by
 have g:=RepF.out g (List.Perm.refl _)
 exact Ck O l _ 200 0x1041080 [(λL=>Kt K 286 d5 B,[0],[])] [0] (Bo (Ke O h)) (λ_=>[(K,B1 d5.length)]) g
  λf2 c c7=>e c (RepF.into c7)
theorem IV:∀(n:List (Int×Nat)) {G:List Value} {b0:Int} {B:Nat} {f m:List (Str×Nat)},(V w j o u).kt.get 286=some (I (G++vI n) B) ->
  f.length+n.length<=100->m.length+n.length<=100->∀{A:Around},Room 200 A->∀{F:AK} {v:Shared} {R:RP},BT (V w j o u) Q K X a0 b0 G.length f m F v ->
  (∀c d6 N P a2 a3 a4 b3 b4 b5 b6 b8 b9 c0 c1 M a5 a6,(N.map (·.1),P.map (·.1))=Ab (n.map (·.1)) (f.map (·.1)) (m.map (·.1))->d6=GM (n.map (·.1)) b0 ->
   RepF (V w j o u) [(Q,Dl w.params X a0 d6 a2 a3 a4 b3 b4 b5 b6 b8 b9 c0 c1 M),(X,I (J N) a5),(a0,I (J P) a6),(K,B1 ((G.length+n.length:Nat):Int))] [] F c->R (.ok .next) c) ->
  codeAny (model pw w) A (Au Q b1 K) R v:=by
 intro f7
 induction f7 with
 |nil=>
  intro G b0 B f m h q r A l F v R g e
  obtain⟨a2,a3,a4,b3,b4,b5,b6,b8,b9,c0,c1,M,a5,a6,g⟩:=g
  have e9:(V w j o u).kt.get 286=some (I G B):=by
   have:G++vI []=G:=List.append_nil _
   rw[this] at h; exact h
  refine QZ O e9 l (a8:=[(Q,Dl w.params X a0 b0 a2 a3 a4 b3 b4 b5 b6 b8 b9 c0 c1 M),(X,I (J f) a5),(a0,I (J m) a6)]) (RepF.perm g ?_) λc c7=>e c b0 f m _ _ _ _ _ _ _ _ _ _ _ _ _ _ rfl rfl (RepF.perm c7 (List.perm_append_comm (l₁:=[_,_,_]) (l₂:=[_])))
  exact(List.perm_append_comm (l₁:=[_]) (l₂:=[_,_,_]))
 |cons f5 n f6=>
  obtain⟨z,a1⟩:=f5
  intro G b0 B f m h q r A l F v R g e
  have f3:200<=sizeLine:=by decide
  simp only[List.length_cons] at q r
  refine MZ O (G:=G) (d4:=vI n) (z:=z) (a1:=a1) h (by simp[J]; lia) (by simp[J]; lia) l g λc N P d3 c7=>?_
  have d0:N.map (·.1)=(AI z (f.map (·.1)) (m.map (·.1))).1:=congrArg Prod.fst d3
  have d1:P.map (·.1)=(AI z (f.map (·.1)) (m.map (·.1))).2:=congrArg Prod.snd d3
  have e8:N.length<=f.length+1:=by
   have:(N.map (·.1)).length<=(f.map (·.1)).length+1:=by
    rw[d0]
    unfold AI
    dsimp only
    (repeat' split) <;> simp
   simpa using this
  have g2:P.length<=m.length+1:=by
   have:(P.map (·.1)).length<=(m.map (·.1)).length+1:=by
    rw[d1]
    unfold AI
    dsimp only
    (repeat' split) <;> simp
   simpa using this
  refine f6 (G:=G++[.int z a1]) (b0:=z) (B:=B) (f:=N) (m:=P) ?_ (by lia) (by lia) l (F:=F) ?_ λe0 d6 d7 d8 a2 a3 a4 b3 b4 b5 b6 b8 b9 c0 c1 M a5 a6 c9 d9 c8=>?_
  ·rw[List.append_assoc]; exact h
  ·rw[List.length_append]; exact c7
  ·refine e e0 d6 d7 d8 a2 a3 a4 b3 b4 b5 b6 b8 b9 c0 c1 M a5 a6 ?_ ?_ ?_
   ·rw[c9,d0,d1]; rfl
   ·rw[d9]; rfl
   ·rw[List.length_append] at c8
    have:G.length+[Value.int z a1].length+n.length=G.length+((z,a1)::n).length:=by simp; exact Nat.succ_add ..
    rw[this] at c8
    exact c8
noncomputable def J6(e2:Params)(Q b1 K X a0 a2 a3 a4 M a5 a6:Nat)(z:Int)(n:List Int):Spec:=
 {code:=Au Q b1 K,fp:=[(Q,DY e2 X a0 a2 a3 a4 M),(X,I [] a5),(a0,I [] a6),(K,A6 286 0)],nf:=16,d:=200,
  upd:=λT=>[Dl e2 X a0 (GM n z) (W 0 T 0) (W 0 T 1) (W 0 T 2) (W 0 T 3) (W 0 T 4) (W 0 T 5) (W 0 T 6) (W 0 T 7) (W 0 T 8) (W 0 T 9) (W 0 T 10) (W 0 T 11),
   I (J (toks (Ab (z::n) [] []).1 (W 0 T 12))) (W 0 T 13),I (J (toks (Ab (z::n) [] []).2 (W 0 T 14))) (W 0 T 15),B1 ((n.length+1:Nat):Int)],
  res:=λ_=>.ok .next}
theorem Gv{z:Int}{a1:Nat}{n:List (Int×Nat)}{B a2 a3 a4 M a5 a6:Nat}(h:(V w j o u).kt.get 286=some (I (vI ((z,a1)::n)) B))(f4:n.length<=90) :
  (J6 w.params Q b1 K X a0 a2 a3 a4 M a5 a6 z (n.map (·.1))).Ok (V w j o u):=Spec.of_code (λ_=>rfl) (λ_=>rfl) λA l F b7 R g e=>by
 refine NA O (G:=[]) (d4:=vI n) (z:=z) (a1:=a1) (f:=[]) (m:=[]) h (by decide) (by decide) l g λc N P d3 c7=>?_
 have d0:N.map (·.1)=(AI z [] []).1:=congrArg Prod.fst d3
 have d1:P.map (·.1)=(AI z [] []).2:=congrArg Prod.snd d3
 have e8:N.length<=1:=by
  have:(N.map (·.1)).length<=1:=by
   rw[d0]; unfold AI; dsimp only; (repeat' split) <;> simp
  simpa using this
 have g2:P.length<=1:=by
  have:(P.map (·.1)).length<=1:=by
   rw[d1]; unfold AI; dsimp only; (repeat' split) <;> simp
  simpa using this
 refine IV O n (G:=[.int z a1]) (b0:=z) (B:=B) (f:=N) (m:=P) h (by lia) (by lia) l (F:=F) c7 λe0 d6 d7 d8 a2 a3 a4 b3 b4 b5 b6 b8 b9 c0 c1 M a5 a6 c9 d9 c8=>?_
 obtain⟨e5,e3⟩:=Dz d7
 obtain⟨e6,e4⟩:=Dz d8
 have f0:d7.map (·.1)=(Ab (z::n.map (·.1)) [] []).1:=by rw[d0,d1] at c9; exact congrArg Prod.fst c9
 have f1:d8.map (·.1)=(Ab (z::n.map (·.1)) [] []).2:=by rw[d0,d1] at c9; exact congrArg Prod.snd c9
 refine e [a2,a3,a4,b3,b4,b5,b6,b8,b9,c0,c1,M,e5,a5,e6,a6] e0 rfl ?_
 rw[f0] at e3
 rw[f1] at e4
 rw[<-e3,<-e4,d9] at c8
 have e7:[Value.int z a1].length+n.length=(n.map (·.1)).length+1:=by simp; lia
 rw[e7] at c8
 exact c8
end
end
section
noncomputable def P8(c e f g:Nat)(a b:List (Str×Nat))(n q r s t:Nat):Spec:=
 {code:=.call (.ref 268) ⟨[.ref c,.ref e,.str (S []) n,.str (S []) q,.str (S []) r,.str (S []) s,.str (S [10]) t],[]⟩,fp:=[(c,I (J a) f),(e,I (J b) g)],
  upd:=λ_=>[I (J a) f,I (J b) g],res:=λ_=>.ok (.ret .none),d:=60}
section
variable{c e f g n q r s t:Nat}
include O
theorem Ha:∀{a b:List (Str×Nat)},(J a).length<=sizeLine->(J b).length<=sizeLine->(P8 c e f g a b n q r s t).Ok (V w j o u)
 |[],[],h,i=>Spec.of_run O 446 (hd 0x10000041001040041001010411020811030c10031401401451431450041000040000050051450c51401040001000001401451431450041000040000050051450c51401040001000001401451431450041000040000050051450c5147) [(λk=>AA c [] f,[0],[]),(λk=>AA e [] g,[1],[])] [0,1] [] (λ_=>[]) (λ_=>rfl) (λ_=>rfl) (λ_=>rfl) (BI (Ae h) (Ae i)) (by kernel_rfl)
 |[],m::b,h,i=>Spec.of_run O 472 (hd 0x10000041001040041001010411020810001020820020800001030c10031401401451431450041000040000050051450c51401040001000001401451431450041000040000050051450c51401040001000001401451431450041000040000050051450c5147) [(λk=>AA c [] f,[0],[]),(λk=>AA e (J (m::b)) g,[1],[])] [0,1] [] (λ_=>[]) (λ_=>rfl) (λ_=>rfl) (λ_=>rfl) (BI (Ae h) (Ae i)) (by kernel_rfl)
 |p::a,[],h,i=>Spec.of_run O 472 (hd 0x10000041001040041001010410001010410010400001020811030c10031401401451431450041000040000050051450c51401040001000001401451431450041000040000050051450c51401040001000001401451431450041000040000050051450c5147) [(λk=>AA c (J (p::a)) f,[0],[]),(λk=>AA e [] g,[1],[])] [0,1] [] (λ_=>[]) (λ_=>rfl) (λ_=>rfl) (λ_=>rfl) (BI (Ae h) (Ae i)) (by kernel_rfl)
 |p::a,m::b,h,i=>Spec.of_run O 498 (hd 0x10000041001040041001010410001010410010400001020810001020820020800001030c10031401401451431450041000040000050051450c51401040001000001401451431450041000040000050051450c51401040001000001401451431450041000040000050051450c5147) [(λk=>AA c (J (p::a)) f,[0],[]),(λk=>AA e (J (m::b)) g,[1],[])] [0,1] [] (λ_=>[]) (λ_=>rfl) (λ_=>rfl) (λ_=>rfl) (BI (Ae h) (Ae i)) (by kernel_rfl)
end
end
section
noncomputable def A5(b:List DictEntry)(d:Nat):Obj:=⟨.type "dict",none,.dict ⟨b⟩ d,⟨[]⟩⟩
noncomputable def EG(hd:Value)(a5:Nat)(a4:Int)(a7:Value):Obj:=⟨.type "enumerate",none,.fields ⟨[hd,.bool false,.ref a5,.int a4 0,.none,a7]⟩,⟨[]⟩⟩
noncomputable def LK(k:Nat)(p:List Value)(d:Nat):Spec:=
 {code:=.call (.type "enumerate") ⟨[.ref k],[]⟩,fp:=[(k,I p d)],upd:=λ_=>[I p d],nf:=2,new:=λc=>[(W 0 c 0,A6 k 0),(W 0 c 1,EG .none (W 0 c 0) 0 .none)],res:=λc=>.ok (.ret (.ref (W 0 c 1))),d:=10}
section
variable{f:Cx}(s:f.Ok){k d a9 h g:Nat}{p:List Value}{a:Value}
theorem IU:(LK k p d).Ok f:=Spec.of_call rfl (λ_=>rfl) (λ_=>rfl) λA P K i H n x=>by
 have a0:=RepF.get0 n
 refine callType_new F.called_enumerate (by decide) (F.typeCall_enumerate_1 _) (F.newCall_enumerate_1 _) (λa6=>F.args_object_init_2 a6 _) F.entry_enumerate_new
  (meets_enumerate_newL k ⟨p⟩ d none ⟨[]⟩) ⟨a0,?_⟩
 have b0:=RepF.push n (o:=A6 k 0) rfl
 have E:=RepF.push b0 (o:=EG .none i.heap.objs.size 0 .none) rfl
 refine⟨⟨_,Heap.get?_push_size _ rfl,rfl⟩,x [i.heap.objs.size,(i.heap.push (A6 k 0)).objs.size] _ _ rfl rfl ?_⟩
 rw[List.append_assoc] at E
 exact E
end
noncomputable def M1(t:Params)(g:Nat)(b:List DictEntry)(d:Nat)(a:Str)(h:Nat)(c:Value):Spec:=
 {code:=.call (.builtin "dict.setdefault") ⟨[.ref g,.str a h,c],[]⟩,fp:=[(g,A5 b d)],upd:=λ_=>[A5 (b++[⟨kh t a,.str a h,c⟩]) (d+1)],res:=λ_=>.ok (.ret c),d:=10}
noncomputable def Iy(t:Params)(b:List DictEntry):Prop:=∀e∈b,∃a h,e.key = .str a h/\e.hash=kh t a
noncomputable def CS(a:Str):List DictEntry->Option Value
 |[]=>none
 |e::b=>if Value.isStrOf a e.key then some e.val else CS a b
theorem Iy.keys{w:World}{b:List DictEntry}(l:Iy w.params b):KeysOf (strKind pw w) ⟨b⟩:=by
 intro e T
 obtain⟨a,h,M,N⟩:=l e (by simpa using T)
 exact⟨a,by rw[M]; show(a==a)=true; simp,N⟩
theorem Fj{a:Str}:∀{b:List DictEntry},CS a b=none->(b.findIdx? λe=>Value.isStrOf a e.key)=none
 |[],_=>rfl
 |e::b,l=>by
  unfold CS at l
  split at l
  ·cases l
  ·rename_i a8
   rw[List.findIdx?_cons,if_neg a8,Fj l]; rfl
theorem JQ(b:List DictEntry)(d:Nat)(q:Array DictEntry->Array DictEntry)(y:List DictEntry)(l:q ⟨b⟩=⟨y⟩):Obj.mapDictKeys q (A5 b d)=A5 y (d+1):=by
 show(⟨_,_,Data.dict (q ⟨b⟩) _,_⟩:Obj)=_
 rw[l]; rfl
section
variable{f:Cx}(s:f.Ok){k d a9 h g:Nat}{p:List Value}{c:Value}{a:Str}{b:List DictEntry}
include s
theorem Iv(a1:f.n₁<=g->g≠sysModules)(X:Iy f.w.params b)(a3:CS a b=none)(B:b.length<=sizeLine):(M1 f.w.params g b d a h c).Ok f:=Spec.of_call rfl (λ_=>rfl) (λ_=>rfl) λA P K i H n x=>by
 have r:=RepF.get0 n
 have hd:(g==sysModules)=false:=beq_eq_false_iff_ne.mpr (a1 (Rep.hi n _ (List.mem_cons_self ..)))
 refine call_meetsIn (S:=λG R m=>m=i/\R (.ok (.ret c)) {i with heap:=i.heap.update g (Obj.mapDictKeys (·.push ⟨kh f.w.params a,.str a h,c⟩)),toks:=i.toks+1}) F.slot_dict_setdefault ⟨_,r,rfl⟩ F.entry_dict_setdefault (F.args_dict_setdefault_3 _ _ _) (.of_wp λG R m a2=>?_) ⟨rfl,x [] _ _ rfl rfl ?_⟩
 ·obtain⟨rfl,Q⟩:=a2
  unfold Builtin.«dict.setdefault»
  refine wpAny_bind ?_
  unfold Builtin.Dict.keyAndDefault
  refine wpAny_bind (wpAny_notOrdered_dict ⟨_,r,rfl⟩ ?_)
  show wpAny _ _ (pure (g,Value.str a h,some c)) _ _ m
  refine wpAny_pure ?_
  show wpAny _ _ (if(g==sysModules)=true then _ else(dictSetDefault g (.str a h) c>>=_)) _ _ m
  rw[if_neg (by rw[hd]; exact Bool.false_ne_true)]
  refine wpAny_bind ?_
  unfold dictSetDefault
  try with_reducible refine wpAny_holding ?_
  have z:(strKind pw f.w).is a (.str a h)=true:=by show(a==a)=true; simp
  refine wpAny_bind ((strKind pw f.w).pyHash z ?_)
  refine wpAny_bind (wpAny_dictFind_of (s:={m with toks:=m.toks+1}) z r rfl X.keys ?_)
  have L:((⟨b⟩:Array DictEntry).findIdx? λe=>(strKind pw f.w).is a e.key)=none:=by
   show Array.findIdx? _ (List.toArray b)=none
   rw[List.findIdx?_toArray]
   exact Fj a3
  rw[L]
  refine wpAny_bind (wpAny_rule (wpAny_bind (wpAny_updateDictKeys (hz:=B) (s:={m with toks:=m.toks+1}) r rfl (wpAny_pure (wpAny_pure ⟨c,rfl,Q⟩)))))
 ·have D:=RepF.toks (RepF.upd0 s n (x:=Obj.mapDictKeys (·.push ⟨kh f.w.params a,.str a h,c⟩)) rfl) (i.toks+1)
  rw[JQ b d _ (b++[⟨kh f.w.params a,.str a h,c⟩]) (by simp)] at D
  exact D
end
end
section
noncomputable def O8(f:Nat):Env:=Gq (AQ 5 5) 188 187 (S [83,101,113,117,101,110,99,101,77,97,116,99,104,101,114,46,95,95,99,104,97,105,110,95,98,46,60,108,111,99,97,108,115,62,46]) f
noncomputable def GN(f k:Nat):Code:=Ff (W B6 (B2 (AQ 5 5)) 2) k (O8 f)
noncomputable def Fy:Str:=S [115,101,108,102]
noncomputable def nB:Str:=S [98]
noncomputable def Mz:Str:=S [98,50,106]
noncomputable def nI:Str:=S [105]
noncomputable def Tt:Str:=S [101,108,116]
noncomputable def Nw:Str:=S [105,110,100,105,99,101,115]
noncomputable def V6(n:Params)(a9 a5 t a2 a3 a4 N:Nat):Obj:=Bl [en n Fy a2 (.ref a9),en n nB a3 (.ref a5),en n Mz a4 (.ref t)] N
noncomputable def Kb(n:Params)(a9 a5 t a2 a3 a4 d3 d4 d5 N:Nat)(d1:Int)(d9:Nat)(d:Str)(e0 E:Nat):Obj:=
 Bl [en n Fy a2 (.ref a9),en n nB a3 (.ref a5),en n Mz a4 (.ref t),en n nI d3 (.int d1 d9),en n Tt d4 (.str d e0),en n Nw d5 (.ref E)] N
theorem En{w:World}{s:Code}{α:Type}{a6:Sem α}{a1:α->Sem Fin}{l:Value->Sem Unit}{y:Fin->Shared->Prop}{D:VP}{g:Shared}(d:wpAny (model pw w) (A.under s) a6 (λE c=>wpOwn (model pw w) A s ((a1 E).onRaise l) y D c) (λ_ _=>False) g):wpOwn (model pw w) A s ((a6>>=a1).onRaise l) y D g:=by
 intro Γ a8 G lΓ
 have m:=d Γ a8 (G▸lΓ.in)
 rw[Sem.wp_onRaise]
 show Sem.wp _ _ (a6.bind a1) _ _ _ _
 rw[Sem.wp_bind]
 refine Sem.wp_mono _ _ _ ?_ ?_ _ _ m
 ·intro E d7 c r
  have b4:=r Γ d7 G lΓ
  rw[Sem.wp_onRaise] at b4
  exact b4
 ·exact λ_ _ _ f=>f.elim
noncomputable def LZ(p:PySem.Expr)(k:Value)(q x:List Stmt)(i:Env)(b:Value):Sem Fin:=
 PySem.W.R.onRaiseR (PySem.W.R.bindR (PySem.W.Fast.tw17772580674575903948 p i b) λ_=>PySem.W.R.bindR (PySem.W.Fast.tw12563942051412417395 q i) λf=>match f with
  |.next |.cont=>.pure (.again (.forLoop p k q x i))
  |.brk=>.pure (.done .next)
  |.ret b=>.pure (.done (.ret b))) (λd=>do noteFrame d i; theTreesLotGoes d)
theorem LF{w:World}{p:PySem.Expr}{k:Value}{q x:List Stmt}{i:Env}{g:Shared}(l:wpAny (model pw w) (A.under (.forLoop p k q x i)) (pyNext k) (λh b2=>∃b,h=some b/\wpAny (model pw w) (A.under (.forLoop p k q x i)) (letOwnedTupleGo p k b)
   (λ_ b3=>wpOwn (model pw w) A (.forLoop p k q x i) (LZ p k q x i b) (postC pw w A R) (postE R) b3) (λ_ _=>False) b2) (λ_ _=>False) g) :
  codeAny (model pw w) A (.forLoop p k q x i) R g:=by
 refine y_code _ _ _ _ _ _ ?_
 show wpOwn _ _ _ ((forTurn p k q x i).onRaise (λd=>do noteFrame d i; theTreesLotGoes d)) _ _ _
 unfold forTurn
 refine En (wpAny_standAt ?_)
 refine En (wpAny_onRaise (wpAny_mono l (λh b2 r=>?_) λ_ _ f=>f.elim))
 obtain⟨b,rfl,r⟩:=r
 refine En (wpAny_mono r (λ_ b3 m=>?_) λ_ _ f=>f)
 unfold LZ at m
 rw[<-PySem.W.R.onRaiseR_eq,<-PySem.W.R.bindR_eq,<-PySem.W.Fast.te17772580674575903948,<-PySem.W.Fast.te12563942051412417395] at m
 exact m
theorem run_tree{a:Cx}(O:a.Ok){t a7:Nat}(P:Room t A){s:Code}{K:Sem Fin}{B:An}{z:Gs}{a0:List Nat}{H:List ((List Nat->Spec)×List Nat×List Nat)}{d2 b7:List Nat}{b0:(Nat->Nat)->FU}{M:(Nat->Nat)->An}{L:(Nat->Nat)->Gs}(c9:∀d∈H,∀d6,(d.1 d6).Ok a)(b6:qA a.w.params a.kt t a7 s K B [] z [] a0 H d2 b7=qB a.w.params a.kt t a7 s K B [] z [] a0 H b0 M (λ_=>[]) L){g:Shared}(T:RepF a B z F g)(Q:∀e c,RepF a (M e) (L e) F c->match b0 e with |.ret h=>R h c |.again c'=>codeAny (model pw a.w) A c' R c |.yld ..=>False |.tree ..=>False) :
  wpOwn (model pw a.w) A s K (postC pw a.w A R) (postE R) g:=by
 have c8:RepF a (B++[]) z F g:=by rw[List.append_nil]; exact T
 have r:=(Cd O (CC a A R t F P) a7 s [] K B [] z 0 [] [] [] a0 H (λ_=>0) c9 trivial λe _=>?_).2 F g c8
 ·exact r ⟨rfl,rfl⟩
 ·obtain⟨h,b8,b9,c0,c1,c2,c3,e1,c4,c5⟩:=EY (congrFun b6 e)
  refine⟨h,b8,b9,λb5 c X c6=>?_⟩
  obtain⟨_,rfl⟩:=c6
  have m:RepF a (M e++h.B) (L e) b5 c:=Rep.gpicked (Rep.pickedB X c4 c1) c5 c3
  rw[c2,List.append_nil] at m
  have:=Q e c m
  rw[c0]
  exact this
theorem Spec.call_of{a:Cx}{S:Spec}(l:S.Ok a){f:Value}{b1:List Value}(G:S.code = .call f ⟨b1,[]⟩)(P:Room S.d A){g:Shared}{y D:VP}(T:RepF a (S.fp++S.ins) S.gfp F g)(Q:∀b c,b.length=S.nf->RepF a (Am S.fp (S.upd b)++S.new b++S.outs b) (Am S.gfp (S.gupd b)++S.gnew b) F c->∃h,S.res b = .ok (.ret h)/\y h c) :
  wpAny (model pw a.w) A (call f b1) y D g:=by
 have r:=l.run A P F g (λh c=>∃d,h = .ok (.ret d)/\y d c) T (λb c d0 X=>Q b c d0 X) false []
 intro Γ a8 lΓ
 have m:=r Γ a8 lΓ
 rw[call,Sem.wp_runValue]
 rw[G] at m
 refine wpCode_mono (λh c d8=>?_) m
 obtain⟨d,rfl,c7⟩:=d8
 exact c7
end
section
noncomputable def EW{α:Type}:Nat->List α->Option (α×List α)
 |_,[]=>none
 |0,c::p=>some (c,p)
 |n+1,c::p=>match EW n p with
  |some (r,g)=>some (r,c::g)
  |none=>none
noncomputable def sel{α:Type}:List Nat->List α->Option (List α×List α)
 |[],b=>some ([],b)
 |i::h,b=>match EW i b with
  |some (c,g)=>match sel h g with
   |some (e,f)=>some (c::e,f)
   |none=>none
  |none=>none
theorem Gn{α:Type}:∀{n:Nat} {b:List α} {c:α} {g:List α},EW n b=some (c,g)->b.Perm (c::g)
 |n,[],_,_,a=>by cases n <;> cases a
 |0,r::p,c,g,a=>by cases a; exact List.Perm.refl _
 |n+1,r::p,c,g,a=>by
  unfold EW at a
  cases d:EW n p with
  |none=>rw[d] at a; cases a
  |some q=>
   obtain⟨D,x⟩:=q
   rw[d] at a
   cases a
   exact((Gn d).cons r).trans (List.Perm.swap ..)
theorem F0{α:Type}:∀{h:List Nat} {b e f:List α},sel h b=some (e,f)->b.Perm (e++f):=by
 intro G
 induction G with
 |nil=>
  intro b e f a
  cases a; exact List.Perm.refl _
 |cons i h E=>
  intro b e f a
  unfold sel at a
  cases d:EW i b with
  |none=>rw[d] at a; cases a
  |some q=>
   obtain⟨c,g⟩:=q
   rw[d] at a
   cases s:sel h g with
   |none=>simp only[s] at a; cases a
   |some x=>
    obtain⟨z,B⟩:=x
    simp only[s] at a
    cases a
    exact(Gn d).trans ((E s).cons c)
namespace RepF
variable{l:Cx}{b e f:An}{k:Gs}{F:AK}{m:Shared}
theorem sel(h:List Nat)(a:RepF l b k F m)(d:Mine.sel h b=some (e,f)):RepF l e k (f++F.1,F.2) m:=RepF.out a (F0 d)
theorem ord(h:List Nat)(a:RepF l b k F m)(d:Mine.sel h b=some (e,f)):RepF l (e++f) k F m:=RepF.perm a (F0 d).symm
theorem drop1{q:Addr×Obj}(a:RepF l (b++[q]) k F m):RepF l b k F m:=RepF.sub a (List.sublist_append_left ..)
theorem keep(t:An){y:An}(a:RepF l (t++y) k F m):RepF l t k F m:=RepF.sub a (List.sublist_append_left ..)
end RepF
end
section
noncomputable abbrev Bt:=Str×Nat×Nat×Nat
noncomputable def bE(B:Params)(a:List Bt):List DictEntry:=a.map λr=>⟨kh B r.1,.str r.1 r.2.1,.ref r.2.2.1⟩
noncomputable def bP:Nat->List Bt->An
 |_,[]=>[]
 |i,r::a=>(r.2.2.1,I [.int (i:Nat) r.2.2.2] 1)::bP (i+1) a
noncomputable def U(a:List Bt):List (Str×Nat):=a.map λr=>(r.1,r.2.1)
theorem Kl(r:Bt):∀(i:Nat) (a:List Bt),bP i (a++[r])=bP i a++[(r.2.2.1,I [.int ((i+a.length:Nat):Int) r.2.2.2] 1)]
 |i,[]=>rfl
 |i,c4::a=>by
  show _::bP (i+1) (a++[r])=_::(bP (i+1) a++_)
  rw[Kl r (i+1) a]
  have:i+1+a.length=i+(c4::a).length:=by simp; exact Nat.succ_add ..
  rw[this]
theorem Ic(B:Params)(a:List Bt):Iy B (bE B a):=by
 intro m a9
 obtain⟨r,_,rfl⟩:=List.mem_map.mp a9
 exact⟨r.1,r.2.1,rfl,rfl⟩
theorem I5{B:Params}{b:Str}:∀{a:List Bt},(∀r∈a,r.1≠b)->CS b (bE B a)=none
 |[],_=>rfl
 |r::a,a2=>by
  show(if Value.isStrOf b (.str r.1 r.2.1)=true then _ else CS b (bE B a))=none
  rw[if_neg,I5 λc4 d6=>a2 c4 (.tail _ d6)]
  show ¬ (r.1==b)=true
  simpa using a2 r (.head _)
noncomputable def Lv:PySem.Expr->Bool
 |.Tuple ..=>true
 |_=>false
theorem Nj{m:PySem.Expr}(a2:Lv m=true):∃k d0 d1,m = .Tuple k d0 d1:=by
 cases m <;> first |(exact⟨_,_,_,rfl⟩) |cases a2
noncomputable def Vt(e f c z:Nat)(a0:Value)(s p:List Value)(b:Value):Spec:=
 {code:=.call (.builtin "enumerate.__next__") ⟨[.ref c],[]⟩,fp:=[(c,EG .none f s.length a0),(f,A6 e s.length),(e,I (s++b::p) z)],nf:=2,
  upd:=λS=>[EG (.int ((W 0 S 1:Nat):Int) 0) f (s.length+1) b,A6 e (s.length+1),I (s++b::p) z],new:=λS=>[(W 0 S 1,Aa [.int (s.length:Nat) (W 0 S 0),b])],
  res:=λS=>.ok (.ret (.ref (W 0 S 1))),d:=60}
section
variable{b4:Cx}(b2:b4.Ok)
include b2
theorem Q8{e f c z:Nat}{a0:Value}{s p:List Value}{b:Value}:(Vt e f c z a0 s p b).Ok b4:=
 Spec.of_run b2 80 (hd 0x41001081041041041041041041041) [(λX=>AX f e s b p z,[1,2],[])] [0,1,2,3] [] (λn=>[n 0,n 1]) (λ_=>rfl) (λ_=>rfl) (λ_=>rfl) (Bo (Av b2)) (by kernel_rfl)
theorem L6{w:World}{c9:PySem.Expr}(e0:Lv c9=true){b6:Shared}{b3:Unit->Shared->Prop}{b7:VP}{m f k:Nat}{i:Int}{c3:Value}{M:An}{c6:Gs}(t:RepF b4 ((m,EG (.int ((k:Nat):Int) 0) f i c3)::M) c6 F b6)(d4:∀d,RepF b4 ((m,EG .none f i c3)::M) c6 F d->b3 () d):wpAny (model pw w) A (letOwnedTupleGo c9 (.ref m) (.ref k)) b3 b7 b6:=by
 obtain⟨c7,c8,e5,rfl⟩:=Nj e0
 have a9:=RepF.get0 t
 unfold letOwnedTupleGo
 refine wpAny_bind (wpAny_load a9 ?_)
 show wpAny _ A (if(["enumerate","zip","dict_itemiterator","dict_reverseitemiterator","odict_iterator","itertools.zip_longest","itertools.pairwise"].contains "enumerate" &&
   (#[rawInt k,.bool false,.ref f,rawInt i,.none,c3]:Array Value)[0]?==some (rawInt k))=true then _ else _) b3 b7 b6
 rw[if_pos (by simp)]
 refine wpAny_bind (wpAny_rule ?_)
 show wpAny _ A (setField (.ref m) 0 .none) b3 b7 b6
 refine wpAny_setField a9 rfl (by simp) (d4 _ ?_)
 exact RepF.upd0 b2 t (x:=Obj.mapFields (·.setIfInBounds 0 .none)) rfl
end
noncomputable def Qv:Stmt:=W B6 (B2 (AQ 5 5)) 2
noncomputable def Rx(g c L:Nat):Sem Fin:=LZ (Eb Qv) (.ref c) (Ch Qv) (I9 Qv) (O8 g) (.ref L)
theorem Pz:Lv (Eb Qv)=true:=by kernel_rfl
noncomputable def O9:List Nat:=[3,3,3,1,0,3,4,4,0,4,4,4,3,4,4,4,0,4,4,4,3,4,4,4,0,4,4,4,3,4,4,6,0,1,1,0,1,1,1,2,2,2,2,1,1,0,1,1,1,7,7,7,7,1,1,1]
section
variable{g a6 e l c f z:Nat}
theorem BP{l:Nat}:(V w j o u).n₁<=l->l≠sysModules:=λa2 m=>by
 have:287<=l:=a2
 rw[m] at this
 exact absurd this (by decide)
include O
theorem Op{N P Q a3 a4 a5 m L h b1 E k q K:Nat}{i e2:Int}{b e4:Str}{y:List DictEntry}(b9:Iy w.params y)(c1:CS b y=none)(c2:y.length<=sizeLine)(D:Room 100 A)(t:RepF (V w j o u) [(g,Kb w.params a6 e l N P Q a3 a4 a5 m e2 b1 e4 E k),(l,A5 y K),(L,Aa [.int i h,.str b q])] [] F v)(H:∀d G,RepF (V w j o u) [(g,Kb w.params a6 e l N P Q a3 a4 a5 m i h b q G),(l,A5 (y++[⟨kh w.params b,.str b q,.ref G⟩]) (K+1)),(G,I [.int i h] 1)] [] F d->codeAny (model pw w) A (GN g c) R d) :
  wpOwn (model pw w) A (GN g c) (Rx g c L) (postC pw w A R) (postE R) v:=
 run_tree O (a7:=300) D (a0:=O9) (H:=[(λX=>M1 w.params l y K b q (.ref (C X 5)),[1],[]),(λX=>AJ (C X 5) [] 0 (.int i h),[6],[])]) (d2:=[0,1,6]) (b7:=[]) (b0:=λ_=>.again (GN g c))
  (M:=λn=>[(g,Kb w.params a6 e l N P Q a3 a4 a5 m i h b q (n 5)),(l,A5 (y++[⟨kh w.params b,.str b q,.ref (n 5)⟩]) (K+1)),(n 5,I [.int i h] 1)]) (L:=λ_=>[])
  (BI (Iv O BP b9 c1 c2) (Ag O (by decide))) (by kernel_rfl) t λn d x=>H d (n 5) x
theorem Oc{N P Q m L h q K:Nat}{i:Int}{b:Str}{y:List DictEntry}(b9:Iy w.params y)(c1:CS b y=none)(c2:y.length<=sizeLine)(D:Room 100 A)(t:RepF (V w j o u) [(g,V6 w.params a6 e l N P Q m),(l,A5 y K),(L,Aa [.int i h,.str b q])] [] F v)(H:∀d G a3 a4 a5,RepF (V w j o u) [(g,Kb w.params a6 e l N P Q a3 a4 a5 (m+3) i h b q G),(l,A5 (y++[⟨kh w.params b,.str b q,.ref G⟩]) (K+1)),(G,I [.int i h] 1)] [] F d->codeAny (model pw w) A (GN g c) R d) :
  wpOwn (model pw w) A (GN g c) (Rx g c L) (postC pw w A R) (postE R) v:=
 run_tree O (a7:=300) D (a0:=O9) (H:=[(λX=>M1 w.params l y K b q (.ref (C X 5)),[1],[]),(λX=>AJ (C X 5) [] 0 (.int i h),[6],[])]) (d2:=[0,1,6]) (b7:=[]) (b0:=λ_=>.again (GN g c))
  (M:=λn=>[(g,Kb w.params a6 e l N P Q (n 3) (n 4) (n 6) (m+3) i h b q (n 5)),(l,A5 (y++[⟨kh w.params b,.str b q,.ref (n 5)⟩]) (K+1)),(n 5,I [.int i h] 1)]) (L:=λ_=>[])
  (BI (Iv O BP b9 c1 c2) (Ag O (by decide))) (by kernel_rfl) t λn d x=>H d (n 5) _ _ _ x
theorem Ko{a0:Value}{s p:List Value}{b:Value}(D:Room 100 A){M:An}(t:RepF (V w j o u) ([(c,EG .none f s.length a0),(f,A6 e s.length),(e,I (s++b::p) z)]++M) [] F v)(H:∀d L h,RepF (V w j o u) ([(c,EG .none f (s.length+1) b),(f,A6 e (s.length+1)),(e,I (s++b::p) z),(L,Aa [.int (s.length:Nat) h,b])]++M) [] F d ->
   wpOwn (model pw w) A (GN g c) (Rx g c L) (postC pw w A R) (postE R) d):codeAny (model pw w) A (GN g c) R v:=by
 refine LF ?_
 unfold pyNext
 have x:=RepF.out t (a8:=M) (List.Perm.refl _)
 have d5:v.TypeIs (.ref c) "enumerate":=⟨_,RepF.get0 x,rfl⟩
 have d3:Room 95 (A.under (GN g c)):=D.under rfl (by decide)
 refine wpAny_bind (wpAny_attempt (wpAny_callSpecial?_slot (name:=Str.ofString "__next__") d5 PySem.F.slot_enumerate_next (Spec.call_of (Q8 O) rfl (d3.mono (show 60<=95 from by decide)) x λS d e7 a8=>⟨_,rfl,?_⟩)))
 refine wpAny_pure ⟨_,rfl,?_⟩
 refine L6 O Pz (k:=W 0 S 1) a8 λe3 c0=>H e3 (W 0 S 1) (W 0 S 0) (RepF.into c0)
theorem chEnd{a0:Value}{T:List Value}(D:Room 100 A){M:An}(t:RepF (V w j o u) ([(c,EG .none f T.length a0),(f,A6 e T.length),(e,I T z)]++M) [] F v)(H:∀d,RepF (V w j o u) ([(c,EG .none f T.length a0),(f,B1 T.length),(e,I T z)]++M) [] F d->R (.ok .next) d):codeAny (model pw w) A (GN g c) R v:=by
 have x:=RepF.out t (a8:=M) (List.Perm.refl _)
 exact Ck O D _ 100 0x1040041081100 [(λX=>Cm f e T z,[1,2],[])] [0,1,2] (Bo (Bw O)) (λ_=>[(c,EG .none f T.length a0),(f,B1 T.length),(e,I T z)]) x
  λn d x=>H d (RepF.into x)
omit O in
theorem Hp(a:List Bt)(b:Str)(q k c5:Nat):U (a++[(b,q,k,c5)])=U a++[(b,q)]:=by simp[U]
omit O in
theorem Hk(a:List Bt):(J (U a)).length=a.length:=by simp[U,J]
omit O in
theorem OB(B:Params)(a:List Bt)(b:Str)(q k c5:Nat):bE B (a++[(b,q,k,c5)])=bE B a++[⟨kh B b,.str b q,.ref k⟩]:=by simp[bE]
omit O in
theorem Q7(B:Params)(a:List Bt):(bE B a).length=a.length:=by simp[bE]
theorem K7{N P Q a3 a4 a5 m:Nat}:∀(p:List (Str×Nat)) (a:List Bt) {h E k i:Nat} {b:Str},((U a++p).map (·.1)).Nodup->a.length+p.length<=100->∀{A:Around},Room 100 A->∀{F:AK} {v:Shared} {R:RP},
  RepF (V w j o u) ([(g,Kb w.params a6 e l N P Q a3 a4 a5 m (i:Nat) h b E k),(l,A5 (bE w.params a) a.length),(c,EG .none f a.length (.str b E)),(f,A6 e a.length),(e,I (J (U a)++J p) z)]++bP 0 a) [] F v ->
  (∀d a1 h E k (i:Nat) b,U a1=U a++p->RepF (V w j o u) ([(g,Kb w.params a6 e l N P Q a3 a4 a5 m (i:Nat) h b E k),(l,A5 (bE w.params a1) a1.length),(c,EG .none f a1.length (.str b E)),(f,B1 a1.length),(e,I (J (U a1)) z)]++bP 0 a1) [] F d->R (.ok .next) d) ->
  codeAny (model pw w) A (GN g c) R v:=by
 intro f2
 induction f2 with
 |nil=>
  intro a h E k i b b5 b8 A D F v R t H
  have d2:J (U a)++J []=J (U a):=List.append_nil _
  rw[d2] at t
  have x:=RepF.ord [2,2,2] t rfl
  rw[<-Hk a] at x
  refine chEnd O D x λd a8=>H d a h E k i b (by simp) ?_
  rw[Hk] at a8
  exact RepF.ord [3,3,0,0,0] a8 rfl
 |cons f0 p f1=>
  obtain⟨a7,b0⟩:=f0
  intro a h E k i b b5 b8 A D F v R t H
  have e6:200<=sizeLine:=by decide
  have x:=RepF.ord [2,2,2] t rfl
  rw[<-Hk a] at x
  refine Ko O D (b:=.str a7 b0) (p:=J p) x λe8 L b1 d7=>?_
  have a8:=RepF.sel [4,4,3] d7 rfl
  rw[Hk] at a8
  have e1:CS a7 (bE w.params a)=none:=I5 λr t=>by
   intro a2
   rw[List.map_append,List.nodup_append] at b5
   exact b5.2.2 r.1 (List.mem_map.mpr ⟨(r.1,r.2.1),List.mem_map.mpr ⟨r,t,rfl⟩,rfl⟩) a7 (List.mem_cons_self ..) a2
  refine Op O (Ic _ _) e1 (by rw[Q7]; simp only[List.length_cons] at b8; lia) D a8 λe9 G c0=>?_
  have d8:=RepF.ord [0,0,1,1,1,0] (RepF.into c0) rfl
  refine f1 (a++[(a7,b0,G,b1)]) (h:=b1) (E:=b0) (k:=G) (i:=a.length) (b:=a7) ?_ (by simp only[List.length_append,List.length_cons,List.length_nil] at b8 ⊢; lia) D (F:=F) ?_ λd a1 h E k i b a9 d9=>H d a1 h E k i b ?_ d9
  ·rw[Hp,List.append_assoc]; exact b5
  ·rw[Hp,OB,Kl]
   have c7:J (U a++[(a7,b0)])++J p=J (U a)++Value.str a7 b0::J p:=by simp[J]
   have c8:(a++[(a7,b0,G,b1)]).length=a.length+1:=by simp
   rw[c7,c8]
   refine RepF.perm d8 ?_
   simp only[Nat.zero_add]
   refine List.Perm.trans ?_ (List.Perm.refl _)
   exact((List.perm_append_comm (l₁:=bP 0 a) (l₂:=[_])).append_left [_,_,_,_,_])
  ·rw[a9,Hp,List.append_assoc]; rfl
end
end
section
noncomputable def Gc(B:Nat):Str:=⟨⟨GG B⟩⟩
theorem EK(s:Str):∃B,Gc B=s:=⟨Di s.cps.toList,by unfold Gc; rw[C6]⟩
noncomputable def Gw:List (Str×Nat)->List Nat->List Nat->List Bt
 |[],_,_=>[]
 |q::a,l,m=>(q.1,q.2,l.headD 0,m.headD 0)::Gw a l.tail m.tail
theorem H1:∀c:List Bt,Gw (U c) (c.map λr=>r.2.2.1) (c.map λr=>r.2.2.2)=c
 |[]=>rfl
 |r::c=>by
  show(r.1,r.2.1,r.2.2.1,r.2.2.2)::Gw (U c) _ _=_
  exact congrArg _ (H1 c)
theorem IM:∀(a:List (Str×Nat)) (l m:List Nat),U (Gw a l m)=a
 |[],_,_=>rfl
 |q::a,l,m=>by
  show(q.1,q.2)::U (Gw a l.tail m.tail)=_
  rw[IM a]
noncomputable def Dy(a:List (Str×Nat))(h p:Nat):List Bt:=Gw a (GG h) (GG p)
theorem Nc(c:List Bt):∃h p,Dy (U c) h p=c:=⟨Di (c.map λr=>r.2.2.1),Di (c.map λr=>r.2.2.2),by unfold Dy; rw[C6,C6]; exact H1 c⟩
theorem F4(a:List (Str×Nat))(h p:Nat):U (Dy a h p)=a:=IM _ _ _
noncomputable def Ri(E:Params)(k D e i f d g x y z t:Nat)(q:Str×Nat)(a:List (Str×Nat)):Spec:=
 {code:=GN k f,fp:=[(k,V6 E D e i x y z t),(i,A5 [] 0),(f,EG .none d 0 .none),(d,A6 e 0),(e,I (J (q::a)) g)],nf:=10,d:=100,
  upd:=λb=>[Kb E D e i x y z (W 0 b 0) (W 0 b 1) (W 0 b 2) (t+3) (W 0 b 3:Nat) (W 0 b 4) (Gc (W 0 b 5)) (W 0 b 6) (W 0 b 7),A5 (bE E (Dy (q::a) (W 0 b 8) (W 0 b 9))) (a.length+1),EG .none d (a.length+1:Nat) (.str (Gc (W 0 b 5)) (W 0 b 6)),B1 (a.length+1:Nat),I (J (q::a)) g],
  res:=λ_=>.ok .next,pool:=true,pre:=[],post:=λb=>bP 0 (Dy (q::a) (W 0 b 8) (W 0 b 9))}
noncomputable def Rg(k e f d g:Nat):Spec:=
 {code:=GN k f,fp:=[(f,EG .none d 0 .none),(d,A6 e 0),(e,I [] g)],d:=100,upd:=λb=>[EG .none d 0 .none,B1 0,I [] g],res:=λ_=>.ok .next}
section
variable{k D e i f d g:Nat}
include O
theorem Om:(Rg k e f d g).Ok (V w j o u):=Spec.of_code (λ_=>rfl) (λ_=>rfl) λA n F b4 R H G=>
 chEnd O (T:=[]) (M:=[]) n H λP K=>G [] P rfl K
theorem NO{x y z t:Nat}{q:Str×Nat}{a:List (Str×Nat)}(a3:((q::a).map (·.1)).Nodup)(b8:a.length<100):(Ri w.params k D e i f d g x y z t q a).Ok (V w j o u):=Spec.of_code (λ_=>rfl) (λ_=>rfl) λA n F b4 R H G=>by
 have K:=RepF.ord [2,2,2] H rfl
 refine Ko O n (s:=[]) (b:=.str q.1 q.2) (p:=J a) K λb9 c1 b6 a4=>?_
 have a5:=RepF.sel [4,4,3] a4 rfl
 refine Oc O (y:=[]) (K:=0) (λ_ a1=>nomatch a1) rfl (by decide) n a5 λc0 T a8 a9 b0 a6=>?_
 have a7:=RepF.ord [0,0,1,1,1,0] (RepF.into a6) rfl
 refine K7 O a [(q.1,q.2,T,b6)] (i:=0) a3 (by simp; lia) n (F:=F) a7 λP N b5 b7 h S s a2 M=>?_
 have Q:U N=q::a:=a2
 obtain⟨b1,b2,en⟩:=Nc N
 obtain⟨b3,a0⟩:=EK s
 have X:N.length=a.length+1:=by
  have:=congrArg List.length Q
  simpa[U] using this
 rw[Q] at en M
 rw[X,<-en,<-a0] at M
 exact G [a8,a9,b0,S,b5,b3,b7,h,b1,b2] P rfl M
end
end
section
noncomputable def P9:Str:=S [105,115,106,117,110,107]
noncomputable def nA:Str:=S [97]
noncomputable def KU:Str:=S [97,117,116,111,106,117,110,107]
noncomputable def IN:Str:=S [109,97,116,99,104,105,110,103,95,98,108,111,99,107,115]
noncomputable def Nn:Str:=S [111,112,99,111,100,101,115]
noncomputable def Qp:Str:=S [102,117,108,108,98,99,111,117,110,116]
noncomputable def QL:Str:=S [98,106,117,110,107]
noncomputable def S4:Str:=S [98,112,111,112,117,108,97,114]
noncomputable def vl(c:List Nat)(x:Nat):Nat:=W 0 c x
noncomputable def Bb(d:Params)(t:Nat->Nat)(h f p r s:Nat)(L M:Value):Obj:=
 A5 [en d P9 (t 0) .none,en d nA (t 1) (.ref h),en d nB (t 2) (.ref f),en d KU (t 3) (.bool true),en d IN (t 4) L,en d Nn (t 5) M,en d Qp (t 6) .none,en d Mz (t 7) (.ref p),en d QL (t 8) (.ref r),en d S4 (t 9) (.ref s)] 10
noncomputable def Ba(m:Nat):Obj:=⟨.ref 242,some m,.plain,⟨[]⟩⟩
noncomputable def Ad(d:Params):Obj:=⟨.type "set",none,.set ⟨[]⟩ 0 {mask:=7,place:=⟨[]⟩,dummies:=⟨[]⟩,finger:=0,led:= !d.followText "set-order",moves:=0,plain:=true},⟨[]⟩⟩
noncomputable def JF(d:Params)(h f k g:Nat)(l e:List (Str×Nat)):Spec:=
 {code:=.call (.ref 242) ⟨[.none,.ref h,.ref f],[]⟩,fp:=[(h,I (J l) k),(f,I (J e) g)],upd:=λ_=>[I (J l) k,I (J e) g],nf:=17,d:=200,
  new:=λb=>[(W 0 b 1,Ba (W 0 b 0)),(W 0 b 0,Bb d (vl [W 0 b 2,W 0 b 3,W 0 b 4,W 0 b 5,W 0 b 6,W 0 b 7,W 0 b 8,W 0 b 9,W 0 b 10,W 0 b 11]) h f (W 0 b 12) (W 0 b 13) (W 0 b 14) .none .none),
   (W 0 b 12,A5 (bE d (Dy e (W 0 b 15) (W 0 b 16))) e.length),(W 0 b 13,Ad d)],
  res:=λb=>.ok (.ret (.ref (W 0 b 1))),pool:=true,pre:=[],post:=λb=>bP 0 (Dy e (W 0 b 15) (W 0 b 16))}
section
variable{h f k g:Nat}
include O
theorem FP{l:List (Str×Nat)}:∀{e:List (Str×Nat)},(e.map (·.1)).Nodup->e.length<100->(JF w.params h f k g l e).Ok (V w j o u)
 |[],n,i=>Spec.of_run O 1063 (hd 0x10000000000000000000000000000000000000000000040040000000000000051401450051401450051451440000001001001000001000030c31440000001001001000001000030c31440000001001001000001000030c31451000000040040040000040000c30c51000001000001000000040c51400000001860061801861840000040000040000001031800000001c70071c71c40000001000001040031c71000000040040040000040000c30c71000000040040040000040000c30c71000000040040040000040000c30c61000001000001000000040c60000000082002082081000000040000041000c82040000001001001000001000030c32040000001001001000001000030c32040000001001001000001000030c32040000001001001000001000030c32040000040000040000001030000000092491000000040000041000c02492440000001001001000001000030c300924000904c30100c30100000000d34034d34d2440000001001001000001000030c30092491000000040000041000c024924000000038e00e38e3891000000040040040000040000c30c02490002410092491000000040000041000c9041) [(λc=>LK f [] g,[1],[]),(λc=>Rg (C c 46) f (C c 55) (C c 54) g,[11,10,1],[]),(λc=>BU f [] g,[1],[]),(λc=>JR 0 200 (C c 66) (C c 69) false,[],[])] [0,1,3,2,9,12] [] (λa=>[a 0,a 1,a 10,a 12,a 14,a 16,a 30,a 32,a 45,a 52,a 58,a 64,a 50,a 56,a 62,0,0]) (λ_=>rfl) (λ_=>rfl) (λ_=>rfl) (Mf IU (Om O) (AS (by have:200<=sizeLine:=(by decide); simp[J] at i ⊢ <;> omega)) (El O (by simp[J] at i ⊢ <;> omega))) (by kernel_rfl)
 |q::e,n,i=>Spec.of_run O 1063 (hd 0x10000000000000000000000000000000000000000000040040000000000000051401450051401450051451440000001001001000001000030c31440000001001001000001000030c31440000001001001000001000030c31451000000040040040000040000c30c51000001000001000000040c51400000001860061801861840000040000040000001031800000001c70071c71c40000001000001040031c71000000040040040000040000c30c71000000040040040000040000c30c71000000040040040000040000c30c61000001000001000000040c60000000082002082081000000040000041000c82040000001001001000001000030c32040000001001001000001000030c32040000001001001000001000030c32040000001001001000001000030c32040000040000040000001030000000092491000000040000041000c02492440000001001001000001000030c300924000904c30100c30100000000d34034d34d2440000001001001000001000030c30092491000000040000041000c024924000000038e00e38e3891000000040040040000040000c30c02490002410092491000000040000041000c9041) [(λc=>LK f (J (q::e)) g,[1],[]),(λc=>Ri w.params (C c 46) (C c 1) f (C c 50) (C c 55) (C c 54) g (C c 47) (C c 49) (C c 53) 3 q e,[8,9,11,10,1],[]),(λc=>BU f (J (q::e)) g,[1],[]),(λc=>JR (↑(J (q::e)).length) 200 (C c 76) (C c 79) false,[],[])] [0,1,3,2,9,12] [] (λa=>[a 0,a 1,a 10,a 12,a 14,a 16,a 30,a 32,a 45,a 52,a 68,a 74,a 50,a 66,a 72,a 64,a 65]) (λ_=>rfl) (λ_=>rfl) (λ_=>rfl) (Mf IU (NO O n (by simp only[List.length_cons] at i; exact Nat.le_of_lt ‹_›)) (AS (by have:200<=sizeLine:=(by decide); simp[J] at i ⊢ <;> lia)) (El O (by simp[J] at i ⊢ <;> lia))) (by kernel_rfl)
end
end
section
noncomputable def U0(a b:Int)(p q c:Nat):Obj:=⟨.type "range",none,.fields ⟨[.int a p,.int b q,.int 1 c]⟩,⟨[]⟩⟩
noncomputable def Bi(g e:Int):Obj:=⟨.type "range_iterator",none,.fields ⟨[.int g 0,.int e 0,.int 1 0]⟩,⟨[]⟩⟩
noncomputable def I4(a b:Int):Int:=if a<b then b-a else 0
noncomputable def Km(s:Nat)(a b:Int)(p q c:Nat):Spec:=
 {code:=.call (.builtin "range.__iter__") ⟨[.ref s],[]⟩,fp:=[(s,U0 a b p q c)],upd:=λ_=>[U0 a b p q c],nf:=1,new:=λc=>[(W 0 c 0,Bi a (I4 a b))],res:=λc=>.ok (.ret (.ref (W 0 c 0))),d:=10}
noncomputable def D9(h:Nat)(g e:Int):Spec:=
 {code:=.call (.builtin "range_iterator.__next__") ⟨[.ref h],[]⟩,fp:=[(h,Bi g e)],upd:=λ_=>[Bi (g+1) (e-1)],nf:=1,res:=λc=>.ok (.ret (.int g (W 0 c 0))),d:=10}
noncomputable def MJ(h:Nat)(g e:Int):Spec:=
 {code:=.call (.builtin "range_iterator.__next__") ⟨[.ref h],[]⟩,fp:=[(h,Bi g e)],upd:=λ_=>[Bi g e],nf:=2,new:=λc=>[(W 0 c 1,Bp (W 0 c 0))],res:=λc=>.error (.ref (W 0 c 1)),d:=10}
section
variable{t:Cx}(y:t.Ok){s h p q c:Nat}{a b g e:Int}
theorem MR(a b:Int):Builtin.Range.rangeSize a b 1=I4 a b:=by
 unfold Builtin.Range.rangeSize I4
 simp
include y
theorem Ki(N:0<=a)(P:a<=1000)(H:0<=b)(K:b<=1000):(Km s a b p q c).Ok t:=Spec.of_call rfl (λ_=>rfl) (λ_=>rfl) λA z E i D n x=>by
 have k:=RepF.get0 n
 have M:0<=I4 a b/\I4 a b<=1000:=by unfold I4; split <;> lia
 have r:∀l:Int,0<=l->l<=1000->Builtin.Range.rangeFitsLong l=true:=by
  intro l a1 a2
  unfold Builtin.Range.rangeFitsLong
  simp
  lia
 have L:(Builtin.Range.rangeFitsLong a&&Builtin.Range.rangeFitsLong b&&Builtin.Range.rangeFitsLong 1&&Builtin.Range.rangeFitsLong (Builtin.Range.rangeSize a b 1)&&(Builtin.Range.rangeSize a b 1==0||if(1:Int)>0 then Builtin.Range.rangeFitsLong (b+(1-1)) else Builtin.Range.rangeFitsLong (b+(1+1))))=true:=by
  rw[MR,r a N P,r b H K,r 1 (by decide) (by decide),r _ M.1 M.2]
  simp
  right
  exact r b H K
 refine call_meets PySem.F.slot_range_iter ⟨_,k,rfl⟩ PySem.F.entry_range_iter (PySem.F.args_range_iter_1 _) (AutoRange.range___iter___range_1 s a b 1 p q c (by rw[L]; decide)) ⟨k,x [i.heap.objs.size] _ _ rfl rfl ?_⟩
 rw[L,MR]
 exact RepF.push n (o:=Bi a (I4 a b)) rfl
theorem Ce(G:0<e):(D9 h g e).Ok t:=Spec.of_call rfl (λ_=>rfl) (λ_=>rfl) λA z E i D n x=>by
 have k:=RepF.get0 n
 refine call_meets PySem.F.slot_range_iterator_next ⟨_,k,rfl⟩ PySem.F.entry_range_iterator_next (PySem.F.args_range_iterator_next_1 _) (AutoRange.range_iterator___next___range_iterator_1 h g e 1 (by lia)) ⟨k,x [i.toks] _ _ rfl rfl ?_⟩
 have T:=RepF.upd0 y n (x:=Obj.mapFields λS=>S.setIfInBounds 0 (rawInt (g+1))) rfl
 have B:=RepF.upd0 y T (x:=Obj.mapFields λl=>l.setIfInBounds 1 (rawInt (e-1))) rfl
 exact RepF.toks B _
theorem Lz(G:e<=0):(MJ h g e).Ok t:=Spec.of_callE rfl (λ_=>rfl) (λ_=>rfl) λA z E i D a0 n x Q=>by
 have k:=RepF.get0 n
 refine wpAny_call_entry PySem.F.slot_range_iterator_next ⟨_,k,rfl⟩ PySem.F.entry_range_iterator_next ?_ (PySem.F.args_range_iterator_next_1 _)
 show wpAny _ _ (field (.ref h) 0>>=_) _ _ i
 refine wpAny_bind (wpAny_field k rfl (x:=.int g 0) rfl ?_)
 show wpAny _ _ (field (.ref h) 1>>=_) _ _ i
 refine wpAny_bind (wpAny_field k rfl (x:=.int e 0) rfl ?_)
 show wpAny _ _ (field (.ref h) 2>>=_) _ _ i
 refine wpAny_bind (wpAny_field k rfl (x:=.int 1 0) rfl ?_)
 show wpAny _ _ (if e<=0 then _ else _) _ _ i
 rw[if_pos G]
 refine wpAny_bind (wpAny_rule ?_)
 show wpAny _ _ (Builtin.SmallTypes.stopIteration>>=_) _ _ i
 refine wpAny_bind ?_
 unfold Builtin.SmallTypes.stopIteration
 show wpAny _ _ (newExc (.type "StopIteration") []>>=_) _ _ _
 refine wpAny_bind ?_
 simp only[newExc,newTuple]
 refine wpAny_bind (wpAny_newObj_type ?_ (by size_fits))
 refine wpAny_bind (m:=firstArgMember _ _) (wpAny_of_eq (a:=Value.none) (by first |rfl |(simp only[firstArgMember]; rfl)) ?_)
 refine wpAny_newObj_type ?_ (by size_fits)
 unfold raiseNew
 refine wpAny_bind (wpAny_handled ?_)
 rw[show A.in1.handled=none from z.handled]
 refine wpAny_bind (wpAny_pure (wpAny_throw ?_))
 have B:=RepF.push n (o:=⟨.type "tuple",none,.seq ⟨[]⟩ 0,⟨[]⟩⟩) rfl
 have X:=RepF.push B (o:=Bp i.heap.objs.size) rfl
 refine Q [i.heap.objs.size,(i.heap.push ⟨.type "tuple",none,.seq ⟨[]⟩ 0,⟨[]⟩⟩).objs.size] _ _ rfl rfl ?_
 refine RepF.sub X ?_
 exact List.Sublist.cons₂ _ (.cons _ (List.Sublist.refl _))
end
end
section
noncomputable def Fh(c:List DictEntry):Prop:=∀e∈c,∃a g,e.key = .int a g/\e.hash=hashInt a
noncomputable def CX(a:Int):List DictEntry->Option Value
 |[]=>none
 |e::c=>if Value.isInt a e.key then some e.val else CX a c
noncomputable def I3(b:Nat)(a:Int)(g:Nat)(D:Value):Spec:=
 {code:=.call (.builtin "dict.__setitem__") ⟨[.ref b,.int a g,D],[]⟩,fp:=[(b,A5 [] 0)],upd:=λ_=>[A5 [⟨hashInt a,.int a g,D⟩] 1],res:=λ_=>.ok (.ret .none),d:=10}
noncomputable def FC(E:Params)(b:Nat)(d l:List Bt)(a:Str)(n m p:Nat)(y g:Nat)(q:Value):Spec:=
 {code:=.call (.builtin "dict.get") ⟨[.ref b,.str a g,q],[]⟩,fp:=[(b,A5 (bE E (d++(a,n,m,p)::l)) y)],upd:=λ_=>[A5 (bE E (d++(a,n,m,p)::l)) y],new:=λ_=>[(m,I [.int (d.length:Nat) p] 1)],
  res:=λ_=>.ok (.ret (.ref m)),d:=10,pool:=true,pre:=bP 0 (d++(a,n,m,p)::l),post:=λ_=>bP 0 d++bP (d.length+1) l}
noncomputable def Ml(E:Params)(b:Nat)(z:List Bt)(a:Str)(y g:Nat)(q:Value):Spec:=
 {code:=.call (.builtin "dict.get") ⟨[.ref b,.str a g,q],[]⟩,fp:=[(b,A5 (bE E z) y)],upd:=λ_=>[A5 (bE E z) y],res:=λ_=>.ok (.ret q),d:=10}
theorem KI(c:List DictEntry)(a:Str)(w:World):findBy (PySem.strKind pw w).is ⟨c⟩ a=CS a c:=by
 show findBy Value.isStrOf ⟨c⟩ a=_
 induction c with
 |nil=>rfl
 |cons e c T=>
  have s:findBy Value.isStrOf ⟨e::c⟩ a=if Value.isStrOf a e.key=true then some e.val else findBy Value.isStrOf ⟨c⟩ a:=by
   unfold findBy
   show Option.map _ (Array.find? _ (List.toArray (e::c)))=if _ then _ else Option.map _ (Array.find? _ (List.toArray c))
   rw[List.find?_toArray,List.find?_toArray,List.find?_cons]
   cases Value.isStrOf a e.key <;> rfl
  rw[s,T]; rfl
theorem Of(c:List DictEntry)(a:Int)(w:World):findBy (intKind pw w).is ⟨c⟩ a=CX a c:=by
 show findBy Value.isInt ⟨c⟩ a=_
 induction c with
 |nil=>rfl
 |cons e c T=>
  have s:findBy Value.isInt ⟨e::c⟩ a=if Value.isInt a e.key=true then some e.val else findBy Value.isInt ⟨c⟩ a:=by
   unfold findBy
   show Option.map _ (Array.find? _ (List.toArray (e::c)))=if _ then _ else Option.map _ (Array.find? _ (List.toArray c))
   rw[List.find?_toArray,List.find?_toArray,List.find?_cons]
   cases Value.isInt a e.key <;> rfl
  rw[s,T]; rfl
theorem Fh.keys{w:World}{c:List DictEntry}(s:Fh c):KeysOf (intKind pw w) ⟨c⟩:=by
 intro e a8
 obtain⟨a,g,a5,a6⟩:=s e (by simpa using a8)
 exact⟨a,by rw[a5]; show(a==a)=true; simp,a6⟩
section
variable{h:Cx}(N:h.Ok){y g b:Nat}{D:Value}{c:List DictEntry}
include N
theorem M2{a:Str}{q:Value}{z:List Bt}(P:h.n₁<=b->b≠sysModules)(Q:∀r∈z,r.1≠a):(Ml h.w.params b z a y g q).Ok h:=Spec.of_call rfl (λ_=>rfl) (λ_=>rfl) λA a1 a0 B X x L=>by
 have t:=RepF.get0 x
 have hd:(b==sysModules)=false:=beq_eq_false_iff_ne.mpr (P (Rep.hi x _ (List.mem_cons_self ..)))
 refine call_meetsIn F.slot_dict_get ⟨_,t,rfl⟩ F.entry_dict_get (F.args_dict_get_3 _ _ _) (meets_dict_get_default (PySem.strKind pw h.w) b (k:=a) (key:=.str a g) (by show(a==a)=true; simp) hd q)
  ⟨λK=>CS K (bE h.w.params z),⟨_,⟨bE h.w.params z⟩,y,t,⟨rfl,rfl,rfl⟩,rfl,(Ic _ _).keys,λK=>KI _ K h.w⟩,L [] _ _ rfl (by dsimp only; rw[I5 Q]; rfl) (RepF.toks x _)⟩
omit N in
theorem IP{E:Params}{a:Str}{n m p:Nat}{l:List Bt}:∀{d:List Bt},(∀r∈d,r.1≠a)->CS a (bE E (d++(a,n,m,p)::l))=some (.ref m)
 |[],_=>by
  show(if Value.isStrOf a (.str a n)=true then _ else _)=_
  rw[if_pos (by show(a==a)=true; simp)]
 |r::z,s=>by
  show(if Value.isStrOf a (.str r.1 r.2.1)=true then _ else CS a (bE E (z++_)))=_
  rw[if_neg,IP λH a9=>s H (.tail _ a9)]
  show ¬ (r.1==a)=true
  simpa using s r (.head _)
omit N in
theorem GR(H:Bt)(l:List Bt):∀(i:Nat) (d:List Bt),(bP i (d++H::l)).Perm ((H.2.2.1,I [.int ((i+d.length:Nat):Int) H.2.2.2] 1)::(bP i d++bP (i+d.length+1) l))
 |i,[]=>by exact List.Perm.refl _
 |i,r::d=>by
  have e:i+(r::d).length=i+1+d.length:=by simp; exact(Nat.succ_add ..).symm
  show(_::bP (i+1) (d++H::l)).Perm _
  rw[e]
  exact((GR H l (i+1) d).cons _).trans (List.Perm.swap ..)
theorem Dq{a:Str}{n m p:Nat}{q:Value}{d l:List Bt}(P:h.n₁<=b->b≠sysModules)(Q:∀r∈d,r.1≠a):(FC h.w.params b d l a n m p y g q).Ok h:=Spec.of_call rfl (λ_=>rfl) (λ_=>rfl) λA a1 a0 B X x L=>by
 have t:=RepF.get0 x
 have hd:(b==sysModules)=false:=beq_eq_false_iff_ne.mpr (P (Rep.hi x _ (List.mem_cons_self ..)))
 refine call_meetsIn F.slot_dict_get ⟨_,t,rfl⟩ F.entry_dict_get (F.args_dict_get_3 _ _ _) (meets_dict_get_default (PySem.strKind pw h.w) b (k:=a) (key:=.str a g) (by show(a==a)=true; simp) hd q)
  ⟨λK=>CS K (bE h.w.params (d++(a,n,m,p)::l)),⟨_,⟨bE h.w.params (d++(a,n,m,p)::l)⟩,y,t,⟨rfl,rfl,rfl⟩,rfl,(Ic _ _).keys,λK=>KI _ K h.w⟩,L [] _ _ rfl (by dsimp only; rw[IP Q]; rfl) ?_⟩
 refine RepF.toks ?_ _
 refine RepF.perm x ?_
 have M:=GR (a,n,m,p) l 0 d
 simp only[Nat.zero_add] at M
 exact(M.symm.cons _)
theorem F1{a:Int}(P:h.n₁<=b->b≠sysModules):(I3 b a g D).Ok h:=Spec.of_call rfl (λ_=>rfl) (λ_=>rfl) λA a1 a0 B X x L=>by
 have t:=RepF.get0 x
 refine call_meetsIn (S:=λa3 R G=>G=B/\R (.ok (.ret .none)) {B with heap:=B.heap.update b (Obj.mapDictKeys (·.push ⟨hashInt a,.int a g,D⟩)),toks:=B.toks+1}) F.slot_dict_setitem ⟨_,t,rfl⟩ F.entry_dict_setitem (F.args_dict_setitem_3 _ _ _) (.of_wp λa3 R G b0=>?_) ⟨rfl,L [] _ _ rfl rfl ?_⟩
 ·obtain⟨rfl,a7⟩:=b0
  show wpAny _ _ (Builtin.Dict.notOrdered "__setitem__" ⟨[.ref b,.int a g,D],[]⟩>>=_) _ _ G
  refine wpAny_bind (wpAny_notOrdered_dict ⟨_,t,rfl⟩ ?_)
  show wpAny _ _ (dictSet b (.int a g) D>>=_) _ _ G
  refine wpAny_bind ?_
  unfold dictSet
  try with_reducible refine wpAny_holding ?_
  have a2:(intKind pw h.w).is a (.int a g)=true:=by show(a==a)=true; simp
  refine wpAny_bind ((intKind pw h.w).pyHash a2 ?_)
  unfold dictSetHashed
  try with_reducible refine wpAny_holding ?_
  refine wpAny_bind (wpAny_dictFind_of (s:={G with toks:=G.toks+1}) a2 t rfl (λ_ s=>by simp at s) ?_)
  have a4:((⟨[]⟩:Array DictEntry).findIdx? λe=>(intKind pw h.w).is a e.key)=none:=by
   show Array.findIdx? _ (List.toArray [])=none
   rw[List.findIdx?_toArray]; rfl
  rw[a4]
  refine wpAny_bind (wpAny_rule (wpAny_updateDictKeys (s:={G with toks:=G.toks+1}) t rfl (wpAny_pure ⟨.none,rfl,a7⟩)))
 ·have M:=RepF.toks (RepF.upd0 N x (x:=Obj.mapDictKeys (·.push ⟨hashInt a,.int a g,D⟩)) rfl) (B.toks+1)
  rw[JQ [] 0 _ [⟨hashInt a,.int a g,D⟩] rfl] at M
  exact M
end
end
section
noncomputable def VB:Str:=S [83,101,113,117,101,110,99,101,77,97,116,99,104,101,114,46,102,105,110,100,95,108,111,110,103,101,115,116,95,109,97,116,99,104,46,60,108,111,99,97,108,115,62,46]
noncomputable def Pg(q:Nat):Env:=Gq (AQ 5 6) 196 195 VB q
noncomputable def Mj(z:Nat):Stmt:=W B6 (B2 (AQ 5 6)) z
noncomputable def CY(q c3:Nat):Code:=Ff (Mj 7) c3 (Pg q)
noncomputable def NP:Stmt->List Stmt
 |.While _ _ H _=>H
 |_=>[]
noncomputable def DA(z q:Nat):Code:=.whileLoop (EN (Mj z)) (CP (Mj z)) (NP (Mj z)) (Pg q)
noncomputable def O1:Str:=S [97,108,111]
noncomputable def Pk:Str:=S [97,104,105]
noncomputable def NX:Str:=S [98,108,111]
noncomputable def P3:Str:=S [98,104,105]
noncomputable def Uy:Str:=S [105,115,98,106,117,110,107]
noncomputable def Vf:Str:=S [98,101,115,116,115,105,122,101]
noncomputable def Vj:Str:=S [98,101,115,116,106]
noncomputable def Vm:Str:=S [98,101,115,116,105]
noncomputable def Vb:Str:=S [106,50,108,101,110]
noncomputable def VG:Str:=S [110,111,116,104,105,110,103]
noncomputable def SN:Str:=S [106,50,108,101,110,103,101,116]
noncomputable def Sz:Str:=S [110,101,119,106,50,108,101,110]
noncomputable def nJ:Str:=S [106]
noncomputable def nK:Str:=S [107]
noncomputable def Aw(f:Params)(a5 a6 b1 Y b2 b3 b4 b5 b6 b7 a7 a8 a9 b0 c8 c4 c5 a0 c2 a c6:Nat)(X Q a3 a1:Int)(d2 d3 d4 d5:Nat)(a4 G a2:Int)(c9 d0 d1:Nat)(d6:List DictEntry)(H:Nat):Obj:=
 Bl (en f Fy a5 (.ref c8)::en f O1 a6 (.int X d2)::en f Pk b1 (.int Q d3)::en f NX Y (.int a3 d4)::en f P3 b2 (.int a1 d5)::en f nA b3 (.ref c4)::en f nB b4 (.ref c5)::en f Mz b5 (.ref a0)::en f Uy b6 (.ref c2) ::
  en f Vf b7 (.int a4 c9)::en f Vj a7 (.int G d0)::en f Vm a8 (.int a2 d1)::en f Vb a9 (.ref a)::en f VG b0 (.ref c6)::d6) H
noncomputable def Kw(id:String)(P:Nat):Obj:=⟨.type "builtin_function_or_method",none,.fields ⟨[.builtin id,.ref P]⟩,⟨[]⟩⟩
noncomputable def AR(G:Nat):Obj:=Kw "set.__contains__" G
theorem HJ{w:World}{id:String}{M:Args}{N:Builtin}{S:PySem.Spec}{m:Shared}(c7:plainId id=true)(b8:entryFor table id=some N)(b9:MeetsIn pw w (N M) S)(c0:S A R m) :
  codeAny (model pw w) A (.builtin id M) R m:=by
 refine codeAny_builtin b8 ?_
 rw[Around.under_plainId c7 _]
 exact b9 A R m c0
noncomputable def SI(g a:Nat)(b:List DictEntry)(h:Nat)(c:Int)(l:Nat)(i:Value)(E:Int)(D:Nat):Spec:=
 {code:=.call (.ref g) ⟨[.int c l,i],[]⟩,fp:=[(g,Kw "dict.get" a),(a,A5 b h)],upd:=λ_=>[Kw "dict.get" a,A5 b h],res:=λ_=>.ok (.ret (.int E D)),d:=10}
noncomputable def ST(g a:Nat)(b:List DictEntry)(h:Nat)(c:Int)(l:Nat)(i:Value):Spec:=
 {code:=.call (.ref g) ⟨[.int c l,i],[]⟩,fp:=[(g,Kw "dict.get" a),(a,A5 b h)],upd:=λ_=>[Kw "dict.get" a,A5 b h],res:=λ_=>.ok (.ret i),d:=10}
theorem Pq{e:Cx}(O:e.Ok){g a h l:Nat}{b:List DictEntry}{c:Int}{i:Value}(x:e.n₁<=a->a≠sysModules)(t:Fh b)(r:Room 10 A){m:Shared}(y:RepF e [(g,Kw "dict.get" a),(a,A5 b h)] [] F m)(s:∀p,RepF e [(g,Kw "dict.get" a),(a,A5 b h)] [] F p->R (.ok (.ret ((CX c b).getD i))) p):codeAny (model pw e.w) A (.call (.ref g) ⟨[.int c l,i],[]⟩) R m:=by
 refine IX O r _ 40 0x41082081 [] [0,1] (λ_=>.again (.builtin "dict.get" ⟨[.ref a,.int c l,i],[]⟩)) C1 (λT=>[(g,Kw "dict.get" a),(a,A5 b h)]) y λT p n=>?_
 have c1:=RepF.get1 n
 have hd:(a==sysModules)=false:=beq_eq_false_iff_ne.mpr (x (Rep.hi n _ (List.mem_cons_of_mem _ (List.mem_cons_self ..))))
 exact HJ PySem.F.slot_dict_get.plain PySem.F.entry_dict_get (meets_dict_get_default (intKind pw e.w) a (k:=c) (key:=.int c l) (by show(c==c)=true; simp) hd i)
  ⟨λL=>CX L b,⟨_,⟨b⟩,h,c1,⟨rfl,rfl,rfl⟩,rfl,t.keys,λL=>Of b L e.w⟩,s _ (RepF.toks n _)⟩
theorem MU{e:Cx}(O:e.Ok){g a h l:Nat}{b:List DictEntry}{c:Int}{i:Value}{E:Int}{D:Nat}(x:e.n₁<=a->a≠sysModules)(t:Fh b)(K:CX c b=some (.int E D)):(SI g a b h c l i E D).Ok e:=
 Spec.of_code (λ_=>rfl) (λ_=>rfl) λA r F m R y s=>Pq O x t r y λp n=>by rw[K]; exact s [] p rfl n
theorem MC{e:Cx}(O:e.Ok){g a h l:Nat}{b:List DictEntry}{c:Int}{i:Value}(x:e.n₁<=a->a≠sysModules)(t:Fh b)(K:CX c b=none):(ST g a b h c l i).Ok e:=
 Spec.of_code (λ_=>rfl) (λ_=>rfl) λA r F m R y s=>Pq O x t r y λp n=>by rw[K]; exact s [] p rfl n
end
section
noncomputable def QV(a:Params)(b c d:Nat)(e:Int)(h f g:Nat):List DictEntry:=[en a nI b (.int e h),en a SN c (.ref f),en a Sz d (.ref g)]
noncomputable def Cs(a:Params)(b c d i:Nat)(e:Int)(h f g:Nat)(k:Int)(l:Nat):List DictEntry:=[en a nI b (.int e h),en a SN c (.ref f),en a Sz d (.ref g),en a nJ i (.int k l)]
noncomputable def E0(a:Params)(b c d i m:Nat)(e:Int)(h f g:Nat)(k:Int)(l:Nat)(n:Int)(p:Nat):List DictEntry:=[en a nI b (.int e h),en a SN c (.ref f),en a Sz d (.ref g),en a nJ i (.int k l),en a nK m (.int n p)]
end
section
inductive Sh(f1:Params):List DictEntry->Prop
 |s0:Sh f1 []
 |s1 (G H K:Nat) (c7:Int) (d0 c8 c9:Nat):Sh f1 (QV f1 G H K c7 d0 c8 c9)
 |s2 (G H K c5:Nat) (c7:Int) (d0 c8 c9:Nat) (d3:Int) (d4:Nat):Sh f1 (Cs f1 G H K c5 c7 d0 c8 c9 d3 d4)
 |s3 (G H K c5 d5:Nat) (c7:Int) (d0 c8 c9:Nat) (d3:Int) (d4:Nat) (e8:Int) (e9:Nat):Sh f1 (E0 f1 G H K c5 d5 c7 d0 c8 c9 d3 d4 e8 e9)
section
variable{p n S T a3 Y a4 a5 a6 a7 a8 a9 X a0 a1 a2 b2 g b1 f b0 y h:Nat}{Q P t z:Int}{b3 b4 E L:Nat}{b5 c2 c1:Int}{b6 c3 c4:Nat}{b7 B D M:Nat}{e:List (Str×Nat)}{d6 b k:List Bt}{r i d:Nat}{x:List DictEntry}{c q:Int}{N:Int}{f6:Nat}{d7:List DictEntry}
theorem AO{g1:Cx}{c6:An}{g0:Gs}{g2:Shared}{g3:Str}(g5:RepF g1 ((c6++[(i,I [.int (b.length:Nat) d] 1)])++(bP 0 b++bP (b.length+1) k)) g0 F g2):RepF g1 (c6++bP 0 (b++(g3,r,i,d)::k)) g0 F g2:=by
 refine RepF.perm g5 ?_
 have g4:=GR (g3,r,i,d) k 0 b
 simp only[Nat.zero_add] at g4
 rw[List.append_assoc]
 exact g4.append_left c6
include O
theorem Vg(e4:Sh w.params d7)(e2:0<q)(e0:0<=c)(e1:c<e.length)(e3:e.length<=sizeLine)(e5:∀e6∈d6,e6.1≠(As e c).1)(d9:Room 200 A)(c0:RepF (V w j o u) ([(p,Aw w.params S T a3 Y a4 a5 a6 a7 a8 a9 X a0 a1 a2 b2 g b1 f b0 y h Q P t z b3 b4 E L b5 c2 c1 b6 c3 c4 d7 b7),(g,I (J e) B),(f,A5 (bE w.params d6) D),(y,A5 x M),(h,I [] 0),(n,Bi c q)]++bP 0 d6) [] F v)(b9:∀l (d1:Nat) d2 (d8:Nat),Sh w.params d2->RepF (V w j o u) ([(p,Aw w.params S T a3 Y a4 a5 a6 a7 a8 a9 X a0 a1 a2 b2 g b1 f b0 d1 h Q P t z b3 b4 E L b5 c2 c1 b6 c3 c4 d2 d8),(g,I (J e) B),(f,A5 (bE w.params d6) D),(d1,A5 [] 0),(h,I [] 0),(n,Bi (c+1) (q-1)),(y,A5 x M)]++bP 0 d6) [] F l->codeAny (model pw w) A (CY p n) R l):codeAny (model pw w) A (CY p n) R v:=by
 have b8:=Cg O d9 (CY p n) 169 0x11810010411001041040040010400410430c30c10420820410451410052402402492452492c1001041 [(λm=>D9 n c q,[5],[]),(λm=>BN g e B c (C m 0),[1],[]),(λm=>Ml w.params f d6 (As e c).fst D (As e c).2 (Value.ref h),[2],[])] [0,1,2,7,4,5,3] (GH (Ce O e2) (B0 O e0 e1 e3) (M2 O BP e5))
 cases e4 with
 |s0=>
  refine b8.1 (λa=>[(p,Aw w.params S T a3 Y a4 a5 a6 a7 a8 a9 X a0 a1 a2 b2 g b1 f b0 (a 5) h Q P t z b3 b4 E L (b5) (c2) (c1) b6 c3 c4 (QV w.params (a 1) (a 4) (a 6) (c) (a 0) (a 3) (a 5)) ((((b7+1)+1)+1))),(g,I (J e) B),(f,A5 (bE w.params d6) D),((a 5),A5 [] 0),(h,I [] 0),(n,Bi (c+1) (q-1)),(y,A5 x M)]) (λa=>bP 0 d6) c0 λa l s=>b9 l _ _ _ (Sh.s1 _ _ _ _ _ _ _) s
 |s1 G H K c7 d0 c8 c9=>
  refine b8.1 (λa=>[(p,Aw w.params S T a3 Y a4 a5 a6 a7 a8 a9 X a0 a1 a2 b2 g b1 f b0 (a 5) h Q P t z b3 b4 E L (b5) (c2) (c1) b6 c3 c4 (QV w.params G H K (c) (a 0) (a 3) (a 5)) (b7)),(g,I (J e) B),(f,A5 (bE w.params d6) D),((a 5),A5 [] 0),(h,I [] 0),(n,Bi (c+1) (q-1)),(y,A5 x M)]) (λa=>bP 0 d6) c0 λa l s=>b9 l _ _ _ (Sh.s1 _ _ _ _ _ _ _) s
 |s2 G H K c5 c7 d0 c8 c9 d3 d4=>
  refine b8.1 (λa=>[(p,Aw w.params S T a3 Y a4 a5 a6 a7 a8 a9 X a0 a1 a2 b2 g b1 f b0 (a 5) h Q P t z b3 b4 E L (b5) (c2) (c1) b6 c3 c4 (Cs w.params G H K c5 (c) (a 0) (a 3) (a 5) (d3) d4) (b7)),(g,I (J e) B),(f,A5 (bE w.params d6) D),((a 5),A5 [] 0),(h,I [] 0),(n,Bi (c+1) (q-1)),(y,A5 x M)]) (λa=>bP 0 d6) c0 λa l s=>b9 l _ _ _ (Sh.s2 _ _ _ _ _ _ _ _ _ _) s
 |s3 G H K c5 d5 c7 d0 c8 c9 d3 d4 e8 e9=>
  refine b8.1 (λa=>[(p,Aw w.params S T a3 Y a4 a5 a6 a7 a8 a9 X a0 a1 a2 b2 g b1 f b0 (a 5) h Q P t z b3 b4 E L (b5) (c2) (c1) b6 c3 c4 (E0 w.params G H K c5 d5 (c) (a 0) (a 3) (a 5) (d3) d4 (e8) e9) (b7)),(g,I (J e) B),(f,A5 (bE w.params d6) D),((a 5),A5 [] 0),(h,I [] 0),(n,Bi (c+1) (q-1)),(y,A5 x M)]) (λa=>bP 0 d6) c0 λa l s=>b9 l _ _ _ (Sh.s3 _ _ _ _ _ _ _ _ _ _ _ _ _) s
theorem Vv(e4:Sh w.params d7)(e2:0<q)(e0:0<=c)(e1:c<e.length)(e3:e.length<=sizeLine)(e5:∀e6∈b,e6.1≠(As e c).1)(e7:((b.length:Nat):Int)<t)(d9:Room 200 A)(c0:RepF (V w j o u) ([(p,Aw w.params S T a3 Y a4 a5 a6 a7 a8 a9 X a0 a1 a2 b2 g b1 f b0 y h Q P t z b3 b4 E L b5 c2 c1 b6 c3 c4 d7 b7),(g,I (J e) B),(f,A5 (bE w.params (b++((As e c).1,r,i,d)::k)) D),(y,A5 x M),(h,I [] 0),(n,Bi c q)]++bP 0 (b++((As e c).1,r,i,d)::k)) [] F v)(b9:∀l (d1:Nat) d2 (d8:Nat),Sh w.params d2->RepF (V w j o u) ([(p,Aw w.params S T a3 Y a4 a5 a6 a7 a8 a9 X a0 a1 a2 b2 g b1 f b0 d1 h Q P t z b3 b4 E L b5 c2 c1 b6 c3 c4 d2 d8),(g,I (J e) B),(f,A5 (bE w.params (b++((As e c).1,r,i,d)::k)) D),(d1,A5 [] 0),(h,I [] 0),(n,Bi (c+1) (q-1)),(y,A5 x M)]++bP 0 (b++((As e c).1,r,i,d)::k)) [] F l->codeAny (model pw w) A (CY p n) R l):codeAny (model pw w) A (CY p n) R v:=by
 have b8:=Cg O d9 (CY p n) 197 0x460400410440041041001000410010410c30c304108208104124904024a00a00a28a24a28004104104128028a28928a301001041 [(λm=>D9 n c q,[5],[]),(λm=>BN g e B c (C m 0),[1],[]),(λm=>FC w.params f b k (As e c).fst r i d D (As e c).2 (Value.ref h),[2],[]),(λm=>AT (↑b.length) t d E true,[],[])] [0,1,2,7,4,5,3,8] (Mf (Ce O e2) (B0 O e0 e1 e3) (Dq O BP e5) (A9 O (decide_eq_true e7)))
 cases e4 with
 |s0=>
  refine b8.1 (λa=>[(p,Aw w.params S T a3 Y a4 a5 a6 a7 a8 a9 X a0 a1 a2 b2 g b1 f b0 (a 5) h Q P t z b3 b4 E L (b5) (c2) (c1) b6 c3 c4 (Cs w.params (a 1) (a 4) (a 6) (a 8) (c) (a 0) (a 3) (a 5) ((((b.length):Nat):Int)) d) (((((b7+1)+1)+1)+1))),(g,I (J e) B),(f,A5 (bE w.params (b++((As e c).1,r,i,d)::k)) D),((a 5),A5 [] 0),(h,I [] 0),(n,Bi (c+1) (q-1)),(y,A5 x M),(i,I [.int (b.length:Nat) d] 1)]) (λa=>bP 0 b++bP (b.length+1) k) c0 λa l s=>b9 l _ _ _ (Sh.s2 _ _ _ _ _ _ _ _ _ _) (AO (c6:=[_,_,_,_,_,_,_]) s)
 |s1 G H K c7 d0 c8 c9=>
  refine b8.1 (λa=>[(p,Aw w.params S T a3 Y a4 a5 a6 a7 a8 a9 X a0 a1 a2 b2 g b1 f b0 (a 5) h Q P t z b3 b4 E L (b5) (c2) (c1) b6 c3 c4 (Cs w.params G H K (a 8) (c) (a 0) (a 3) (a 5) ((((b.length):Nat):Int)) d) ((b7+1))),(g,I (J e) B),(f,A5 (bE w.params (b++((As e c).1,r,i,d)::k)) D),((a 5),A5 [] 0),(h,I [] 0),(n,Bi (c+1) (q-1)),(y,A5 x M),(i,I [.int (b.length:Nat) d] 1)]) (λa=>bP 0 b++bP (b.length+1) k) c0 λa l s=>b9 l _ _ _ (Sh.s2 _ _ _ _ _ _ _ _ _ _) (AO (c6:=[_,_,_,_,_,_,_]) s)
 |s2 G H K c5 c7 d0 c8 c9 d3 d4=>
  refine b8.1 (λa=>[(p,Aw w.params S T a3 Y a4 a5 a6 a7 a8 a9 X a0 a1 a2 b2 g b1 f b0 (a 5) h Q P t z b3 b4 E L (b5) (c2) (c1) b6 c3 c4 (Cs w.params G H K c5 (c) (a 0) (a 3) (a 5) ((((b.length):Nat):Int)) d) (b7)),(g,I (J e) B),(f,A5 (bE w.params (b++((As e c).1,r,i,d)::k)) D),((a 5),A5 [] 0),(h,I [] 0),(n,Bi (c+1) (q-1)),(y,A5 x M),(i,I [.int (b.length:Nat) d] 1)]) (λa=>bP 0 b++bP (b.length+1) k) c0 λa l s=>b9 l _ _ _ (Sh.s2 _ _ _ _ _ _ _ _ _ _) (AO (c6:=[_,_,_,_,_,_,_]) s)
 |s3 G H K c5 d5 c7 d0 c8 c9 d3 d4 e8 e9=>
  refine b8.1 (λa=>[(p,Aw w.params S T a3 Y a4 a5 a6 a7 a8 a9 X a0 a1 a2 b2 g b1 f b0 (a 5) h Q P t z b3 b4 E L (b5) (c2) (c1) b6 c3 c4 (E0 w.params G H K c5 d5 (c) (a 0) (a 3) (a 5) ((((b.length):Nat):Int)) d (e8) e9) (b7)),(g,I (J e) B),(f,A5 (bE w.params (b++((As e c).1,r,i,d)::k)) D),((a 5),A5 [] 0),(h,I [] 0),(n,Bi (c+1) (q-1)),(y,A5 x M),(i,I [.int (b.length:Nat) d] 1)]) (λa=>bP 0 b++bP (b.length+1) k) c0 λa l s=>b9 l _ _ _ (Sh.s3 _ _ _ _ _ _ _ _ _ _ _ _ _) (AO (c6:=[_,_,_,_,_,_,_]) s)
theorem VC(e4:Sh w.params d7)(e2:0<q)(e0:0<=c)(e1:c<e.length)(e3:e.length<=sizeLine)(e5:∀e6∈b,e6.1≠(As e c).1)(e7:¬ ((b.length:Nat):Int)<t)(f0:((b.length:Nat):Int)>=z)(d9:Room 200 A)(c0:RepF (V w j o u) ([(p,Aw w.params S T a3 Y a4 a5 a6 a7 a8 a9 X a0 a1 a2 b2 g b1 f b0 y h Q P t z b3 b4 E L b5 c2 c1 b6 c3 c4 d7 b7),(g,I (J e) B),(f,A5 (bE w.params (b++((As e c).1,r,i,d)::k)) D),(y,A5 x M),(h,I [] 0),(n,Bi c q)]++bP 0 (b++((As e c).1,r,i,d)::k)) [] F v)(b9:∀l (d1:Nat) d2 (d8:Nat),Sh w.params d2->RepF (V w j o u) ([(p,Aw w.params S T a3 Y a4 a5 a6 a7 a8 a9 X a0 a1 a2 b2 g b1 f b0 d1 h Q P t z b3 b4 E L b5 c2 c1 b6 c3 c4 d2 d8),(g,I (J e) B),(f,A5 (bE w.params (b++((As e c).1,r,i,d)::k)) D),(d1,A5 [] 0),(h,I [] 0),(n,Bi (c+1) (q-1)),(y,A5 x M)]++bP 0 (b++((As e c).1,r,i,d)::k)) [] F l->codeAny (model pw w) A (CY p n) R l):codeAny (model pw w) A (CY p n) R v:=by
 have b8:=Cg O d9 (CY p n) 187 0x11810010411001041040040010400410430c30c104208204104924100928028028a28928a001041041041041041001041 [(λm=>D9 n c q,[5],[]),(λm=>BN g e B c (C m 0),[1],[]),(λm=>FC w.params f b k (As e c).fst r i d D (As e c).2 (Value.ref h),[2],[]),(λm=>AT (↑b.length) t d E false,[],[]),(λm=>JR (↑b.length) z d L true,[],[])] [0,1,2,7,4,5,3,8] (Ir (Ce O e2) (B0 O e0 e1 e3) (Dq O BP e5) (A9 O (decide_eq_false e7)) (El O (decide_eq_true f0)))
 cases e4 with
 |s0=>
  refine b8.1 (λa=>[(p,Aw w.params S T a3 Y a4 a5 a6 a7 a8 a9 X a0 a1 a2 b2 g b1 f b0 (a 5) h Q P t z b3 b4 E L (b5) (c2) (c1) b6 c3 c4 (Cs w.params (a 1) (a 4) (a 6) (a 8) (c) (a 0) (a 3) (a 5) ((((b.length):Nat):Int)) d) (((((b7+1)+1)+1)+1))),(g,I (J e) B),(f,A5 (bE w.params (b++((As e c).1,r,i,d)::k)) D),((a 5),A5 [] 0),(h,I [] 0),(n,Bi (c+1) (q-1)),(y,A5 x M),(i,I [.int (b.length:Nat) d] 1)]) (λa=>bP 0 b++bP (b.length+1) k) c0 λa l s=>b9 l _ _ _ (Sh.s2 _ _ _ _ _ _ _ _ _ _) (AO (c6:=[_,_,_,_,_,_,_]) s)
 |s1 G H K c7 d0 c8 c9=>
  refine b8.1 (λa=>[(p,Aw w.params S T a3 Y a4 a5 a6 a7 a8 a9 X a0 a1 a2 b2 g b1 f b0 (a 5) h Q P t z b3 b4 E L (b5) (c2) (c1) b6 c3 c4 (Cs w.params G H K (a 8) (c) (a 0) (a 3) (a 5) ((((b.length):Nat):Int)) d) ((b7+1))),(g,I (J e) B),(f,A5 (bE w.params (b++((As e c).1,r,i,d)::k)) D),((a 5),A5 [] 0),(h,I [] 0),(n,Bi (c+1) (q-1)),(y,A5 x M),(i,I [.int (b.length:Nat) d] 1)]) (λa=>bP 0 b++bP (b.length+1) k) c0 λa l s=>b9 l _ _ _ (Sh.s2 _ _ _ _ _ _ _ _ _ _) (AO (c6:=[_,_,_,_,_,_,_]) s)
 |s2 G H K c5 c7 d0 c8 c9 d3 d4=>
  refine b8.1 (λa=>[(p,Aw w.params S T a3 Y a4 a5 a6 a7 a8 a9 X a0 a1 a2 b2 g b1 f b0 (a 5) h Q P t z b3 b4 E L (b5) (c2) (c1) b6 c3 c4 (Cs w.params G H K c5 (c) (a 0) (a 3) (a 5) ((((b.length):Nat):Int)) d) (b7)),(g,I (J e) B),(f,A5 (bE w.params (b++((As e c).1,r,i,d)::k)) D),((a 5),A5 [] 0),(h,I [] 0),(n,Bi (c+1) (q-1)),(y,A5 x M),(i,I [.int (b.length:Nat) d] 1)]) (λa=>bP 0 b++bP (b.length+1) k) c0 λa l s=>b9 l _ _ _ (Sh.s2 _ _ _ _ _ _ _ _ _ _) (AO (c6:=[_,_,_,_,_,_,_]) s)
 |s3 G H K c5 d5 c7 d0 c8 c9 d3 d4 e8 e9=>
  refine b8.1 (λa=>[(p,Aw w.params S T a3 Y a4 a5 a6 a7 a8 a9 X a0 a1 a2 b2 g b1 f b0 (a 5) h Q P t z b3 b4 E L (b5) (c2) (c1) b6 c3 c4 (E0 w.params G H K c5 d5 (c) (a 0) (a 3) (a 5) ((((b.length):Nat):Int)) d (e8) e9) (b7)),(g,I (J e) B),(f,A5 (bE w.params (b++((As e c).1,r,i,d)::k)) D),((a 5),A5 [] 0),(h,I [] 0),(n,Bi (c+1) (q-1)),(y,A5 x M),(i,I [.int (b.length:Nat) d] 1)]) (λa=>bP 0 b++bP (b.length+1) k) c0 λa l s=>b9 l _ _ _ (Sh.s3 _ _ _ _ _ _ _ _ _ _ _ _ _) (AO (c6:=[_,_,_,_,_,_,_]) s)
theorem Tr(e4:Sh w.params d7)(e2:0<q)(e0:0<=c)(e1:c<e.length)(e3:e.length<=sizeLine)(e5:∀e6∈b,e6.1≠(As e c).1)(e7:¬ ((b.length:Nat):Int)<t)(f0:¬ ((b.length:Nat):Int)>=z)(f4:Fh x)(f2:CX (((b.length:Nat):Int)-1) x=some (.int N f6))(f3:N+1>b5)(d9:Room 200 A)(c0:RepF (V w j o u) ([(p,Aw w.params S T a3 Y a4 a5 a6 a7 a8 a9 X a0 a1 a2 b2 g b1 f b0 y h Q P t z b3 b4 E L b5 c2 c1 b6 c3 c4 d7 b7),(g,I (J e) B),(f,A5 (bE w.params (b++((As e c).1,r,i,d)::k)) D),(y,A5 x M),(h,I [] 0),(n,Bi c q)]++bP 0 (b++((As e c).1,r,i,d)::k)) [] F v)(b9:∀l (d1:Nat) d2 (d8 f7 f8 f9 f5:Nat),Sh w.params d2->RepF (V w j o u) ([(p,Aw w.params S T a3 Y a4 a5 a6 a7 a8 a9 X a0 a1 a2 b2 g b1 f b0 d1 h Q P t z b3 b4 E L (N+1) (((b.length:Nat):Int)-(N+1)+1) (c-(N+1)+1) f7 f8 f9 d2 d8),(g,I (J e) B),(f,A5 (bE w.params (b++((As e c).1,r,i,d)::k)) D),(d1,A5 [⟨hashInt ((b.length:Nat):Int),.int ((b.length:Nat):Int) d,.int (N+1) f5⟩] 1),(h,I [] 0),(n,Bi (c+1) (q-1)),(y,A5 x M)]++bP 0 (b++((As e c).1,r,i,d)::k)) [] F l->codeAny (model pw w) A (CY p n) R l):codeAny (model pw w) A (CY p n) R v:=by
 have b8:=Cg O d9 (CY p n) 358 0x460400410440041041001000410010410c30c304108208104124904024a00a00a28a24a28004104104104104104100704000104104820104104104100004100004b2cb0402cc30030c30b30c30030c30b30c30030c30b30c30030c30b30c38004100104004128028a28928a401001041 [(λm=>D9 n c q,[5],[]),(λm=>BN g e B c (C m 0),[1],[]),(λm=>FC w.params f b k (As e c).fst r i d D (As e c).2 (Value.ref h),[2],[]),(λm=>AT (↑b.length) t d E false,[],[]),(λm=>JR (↑b.length) z d L false,[],[]),(λm=>SI (C m 3) y x M (↑b.length-1) (C m 10) (Value.int 0 (C m 11)) N f6,[6,3],[]),(λm=>I3 (C m 5) (↑b.length) d (Value.int (N+1) (C m 13)),[7],[]),(λm=>Cq (N+1) b5 (C m 13) b6 true,[],[])] [0,1,2,7,4,5,3,8] (G7 (Ce O e2) (B0 O e0 e1 e3) (Dq O BP e5) (A9 O (decide_eq_false e7)) (El O (decide_eq_false f0)) (MU O BP f4 f2) (F1 O BP) (AW O (decide_eq_true f3)))
 cases e4 with
 |s0=>
  refine b8.1 (λa=>[(p,Aw w.params S T a3 Y a4 a5 a6 a7 a8 a9 X a0 a1 a2 b2 g b1 f b0 (a 5) h Q P t z b3 b4 E L ((N+1)) ((↑b.length-(N+1)+1)) ((c-(N+1)+1)) (a 13) (a 20) (a 17) (E0 w.params (a 1) (a 4) (a 6) (a 8) (a 14) (c) (a 0) (a 3) (a 5) ((((b.length):Nat):Int)) d ((N+1)) (a 13)) ((((((b7+1)+1)+1)+1)+1))),(g,I (J e) B),(f,A5 (bE w.params (b++((As e c).1,r,i,d)::k)) D),((a 5),A5 [⟨hashInt ((b.length:Nat):Int),.int ((b.length:Nat):Int) d,.int (N+1) (a 13)⟩] 1),(h,I [] 0),(n,Bi (c+1) (q-1)),(y,A5 x M),(i,I [.int (b.length:Nat) d] 1)]) (λa=>bP 0 b++bP (b.length+1) k) c0 λa l s=>b9 l _ _ _ _ _ _ _ (Sh.s3 _ _ _ _ _ _ _ _ _ _ _ _ _) (AO (c6:=[_,_,_,_,_,_,_]) s)
 |s1 G H K c7 d0 c8 c9=>
  refine b8.1 (λa=>[(p,Aw w.params S T a3 Y a4 a5 a6 a7 a8 a9 X a0 a1 a2 b2 g b1 f b0 (a 5) h Q P t z b3 b4 E L ((N+1)) ((↑b.length-(N+1)+1)) ((c-(N+1)+1)) (a 13) (a 20) (a 17) (E0 w.params G H K (a 8) (a 14) (c) (a 0) (a 3) (a 5) ((((b.length):Nat):Int)) d ((N+1)) (a 13)) (((b7+1)+1))),(g,I (J e) B),(f,A5 (bE w.params (b++((As e c).1,r,i,d)::k)) D),((a 5),A5 [⟨hashInt ((b.length:Nat):Int),.int ((b.length:Nat):Int) d,.int (N+1) (a 13)⟩] 1),(h,I [] 0),(n,Bi (c+1) (q-1)),(y,A5 x M),(i,I [.int (b.length:Nat) d] 1)]) (λa=>bP 0 b++bP (b.length+1) k) c0 λa l s=>b9 l _ _ _ _ _ _ _ (Sh.s3 _ _ _ _ _ _ _ _ _ _ _ _ _) (AO (c6:=[_,_,_,_,_,_,_]) s)
 |s2 G H K c5 c7 d0 c8 c9 d3 d4=>
  refine b8.1 (λa=>[(p,Aw w.params S T a3 Y a4 a5 a6 a7 a8 a9 X a0 a1 a2 b2 g b1 f b0 (a 5) h Q P t z b3 b4 E L ((N+1)) ((↑b.length-(N+1)+1)) ((c-(N+1)+1)) (a 13) (a 20) (a 17) (E0 w.params G H K c5 (a 14) (c) (a 0) (a 3) (a 5) ((((b.length):Nat):Int)) d ((N+1)) (a 13)) ((b7+1))),(g,I (J e) B),(f,A5 (bE w.params (b++((As e c).1,r,i,d)::k)) D),((a 5),A5 [⟨hashInt ((b.length:Nat):Int),.int ((b.length:Nat):Int) d,.int (N+1) (a 13)⟩] 1),(h,I [] 0),(n,Bi (c+1) (q-1)),(y,A5 x M),(i,I [.int (b.length:Nat) d] 1)]) (λa=>bP 0 b++bP (b.length+1) k) c0 λa l s=>b9 l _ _ _ _ _ _ _ (Sh.s3 _ _ _ _ _ _ _ _ _ _ _ _ _) (AO (c6:=[_,_,_,_,_,_,_]) s)
 |s3 G H K c5 d5 c7 d0 c8 c9 d3 d4 e8 e9=>
  refine b8.1 (λa=>[(p,Aw w.params S T a3 Y a4 a5 a6 a7 a8 a9 X a0 a1 a2 b2 g b1 f b0 (a 5) h Q P t z b3 b4 E L ((N+1)) ((↑b.length-(N+1)+1)) ((c-(N+1)+1)) (a 13) (a 20) (a 17) (E0 w.params G H K c5 d5 (c) (a 0) (a 3) (a 5) ((((b.length):Nat):Int)) d ((N+1)) (a 13)) (b7)),(g,I (J e) B),(f,A5 (bE w.params (b++((As e c).1,r,i,d)::k)) D),((a 5),A5 [⟨hashInt ((b.length:Nat):Int),.int ((b.length:Nat):Int) d,.int (N+1) (a 13)⟩] 1),(h,I [] 0),(n,Bi (c+1) (q-1)),(y,A5 x M),(i,I [.int (b.length:Nat) d] 1)]) (λa=>bP 0 b++bP (b.length+1) k) c0 λa l s=>b9 l _ _ _ _ _ _ _ (Sh.s3 _ _ _ _ _ _ _ _ _ _ _ _ _) (AO (c6:=[_,_,_,_,_,_,_]) s)
theorem TI(e4:Sh w.params d7)(e2:0<q)(e0:0<=c)(e1:c<e.length)(e3:e.length<=sizeLine)(e5:∀e6∈b,e6.1≠(As e c).1)(e7:¬ ((b.length:Nat):Int)<t)(f0:¬ ((b.length:Nat):Int)>=z)(f4:Fh x)(f2:CX (((b.length:Nat):Int)-1) x=some (.int N f6))(f3:¬ N+1>b5)(d9:Room 200 A)(c0:RepF (V w j o u) ([(p,Aw w.params S T a3 Y a4 a5 a6 a7 a8 a9 X a0 a1 a2 b2 g b1 f b0 y h Q P t z b3 b4 E L b5 c2 c1 b6 c3 c4 d7 b7),(g,I (J e) B),(f,A5 (bE w.params (b++((As e c).1,r,i,d)::k)) D),(y,A5 x M),(h,I [] 0),(n,Bi c q)]++bP 0 (b++((As e c).1,r,i,d)::k)) [] F v)(b9:∀l (d1:Nat) d2 (d8 f5:Nat),Sh w.params d2->RepF (V w j o u) ([(p,Aw w.params S T a3 Y a4 a5 a6 a7 a8 a9 X a0 a1 a2 b2 g b1 f b0 d1 h Q P t z b3 b4 E L b5 c2 c1 b6 c3 c4 d2 d8),(g,I (J e) B),(f,A5 (bE w.params (b++((As e c).1,r,i,d)::k)) D),(d1,A5 [⟨hashInt ((b.length:Nat):Int),.int ((b.length:Nat):Int) d,.int (N+1) f5⟩] 1),(h,I [] 0),(n,Bi (c+1) (q-1)),(y,A5 x M)]++bP 0 (b++((As e c).1,r,i,d)::k)) [] F l->codeAny (model pw w) A (CY p n) R l):codeAny (model pw w) A (CY p n) R v:=by
 have b8:=Cg O d9 (CY p n) 249 0x460400410440041041001000410010410c30c304108208104124904024a00a00a28a24a28004104104104104104100704000104104820104104128028a28928a301001041 [(λm=>D9 n c q,[5],[]),(λm=>BN g e B c (C m 0),[1],[]),(λm=>FC w.params f b k (As e c).fst r i d D (As e c).2 (Value.ref h),[2],[]),(λm=>AT (↑b.length) t d E false,[],[]),(λm=>JR (↑b.length) z d L false,[],[]),(λm=>SI (C m 3) y x M (↑b.length-1) (C m 10) (Value.int 0 (C m 11)) N f6,[6,3],[]),(λm=>I3 (C m 5) (↑b.length) d (Value.int (N+1) (C m 13)),[7],[]),(λm=>Cq (N+1) b5 (C m 13) b6 false,[],[])] [0,1,2,7,4,5,3,8] (G7 (Ce O e2) (B0 O e0 e1 e3) (Dq O BP e5) (A9 O (decide_eq_false e7)) (El O (decide_eq_false f0)) (MU O BP f4 f2) (F1 O BP) (AW O (decide_eq_false f3)))
 cases e4 with
 |s0=>
  refine b8.1 (λa=>[(p,Aw w.params S T a3 Y a4 a5 a6 a7 a8 a9 X a0 a1 a2 b2 g b1 f b0 (a 5) h Q P t z b3 b4 E L (b5) (c2) (c1) b6 c3 c4 (E0 w.params (a 1) (a 4) (a 6) (a 8) (a 14) (c) (a 0) (a 3) (a 5) ((((b.length):Nat):Int)) d ((N+1)) (a 13)) ((((((b7+1)+1)+1)+1)+1))),(g,I (J e) B),(f,A5 (bE w.params (b++((As e c).1,r,i,d)::k)) D),((a 5),A5 [⟨hashInt ((b.length:Nat):Int),.int ((b.length:Nat):Int) d,.int (N+1) (a 13)⟩] 1),(h,I [] 0),(n,Bi (c+1) (q-1)),(y,A5 x M),(i,I [.int (b.length:Nat) d] 1)]) (λa=>bP 0 b++bP (b.length+1) k) c0 λa l s=>b9 l _ _ _ _ (Sh.s3 _ _ _ _ _ _ _ _ _ _ _ _ _) (AO (c6:=[_,_,_,_,_,_,_]) s)
 |s1 G H K c7 d0 c8 c9=>
  refine b8.1 (λa=>[(p,Aw w.params S T a3 Y a4 a5 a6 a7 a8 a9 X a0 a1 a2 b2 g b1 f b0 (a 5) h Q P t z b3 b4 E L (b5) (c2) (c1) b6 c3 c4 (E0 w.params G H K (a 8) (a 14) (c) (a 0) (a 3) (a 5) ((((b.length):Nat):Int)) d ((N+1)) (a 13)) (((b7+1)+1))),(g,I (J e) B),(f,A5 (bE w.params (b++((As e c).1,r,i,d)::k)) D),((a 5),A5 [⟨hashInt ((b.length:Nat):Int),.int ((b.length:Nat):Int) d,.int (N+1) (a 13)⟩] 1),(h,I [] 0),(n,Bi (c+1) (q-1)),(y,A5 x M),(i,I [.int (b.length:Nat) d] 1)]) (λa=>bP 0 b++bP (b.length+1) k) c0 λa l s=>b9 l _ _ _ _ (Sh.s3 _ _ _ _ _ _ _ _ _ _ _ _ _) (AO (c6:=[_,_,_,_,_,_,_]) s)
 |s2 G H K c5 c7 d0 c8 c9 d3 d4=>
  refine b8.1 (λa=>[(p,Aw w.params S T a3 Y a4 a5 a6 a7 a8 a9 X a0 a1 a2 b2 g b1 f b0 (a 5) h Q P t z b3 b4 E L (b5) (c2) (c1) b6 c3 c4 (E0 w.params G H K c5 (a 14) (c) (a 0) (a 3) (a 5) ((((b.length):Nat):Int)) d ((N+1)) (a 13)) ((b7+1))),(g,I (J e) B),(f,A5 (bE w.params (b++((As e c).1,r,i,d)::k)) D),((a 5),A5 [⟨hashInt ((b.length:Nat):Int),.int ((b.length:Nat):Int) d,.int (N+1) (a 13)⟩] 1),(h,I [] 0),(n,Bi (c+1) (q-1)),(y,A5 x M),(i,I [.int (b.length:Nat) d] 1)]) (λa=>bP 0 b++bP (b.length+1) k) c0 λa l s=>b9 l _ _ _ _ (Sh.s3 _ _ _ _ _ _ _ _ _ _ _ _ _) (AO (c6:=[_,_,_,_,_,_,_]) s)
 |s3 G H K c5 d5 c7 d0 c8 c9 d3 d4 e8 e9=>
  refine b8.1 (λa=>[(p,Aw w.params S T a3 Y a4 a5 a6 a7 a8 a9 X a0 a1 a2 b2 g b1 f b0 (a 5) h Q P t z b3 b4 E L (b5) (c2) (c1) b6 c3 c4 (E0 w.params G H K c5 d5 (c) (a 0) (a 3) (a 5) ((((b.length):Nat):Int)) d ((N+1)) (a 13)) (b7)),(g,I (J e) B),(f,A5 (bE w.params (b++((As e c).1,r,i,d)::k)) D),((a 5),A5 [⟨hashInt ((b.length:Nat):Int),.int ((b.length:Nat):Int) d,.int (N+1) (a 13)⟩] 1),(h,I [] 0),(n,Bi (c+1) (q-1)),(y,A5 x M),(i,I [.int (b.length:Nat) d] 1)]) (λa=>bP 0 b++bP (b.length+1) k) c0 λa l s=>b9 l _ _ _ _ (Sh.s3 _ _ _ _ _ _ _ _ _ _ _ _ _) (AO (c6:=[_,_,_,_,_,_,_]) s)
theorem UE(e4:Sh w.params d7)(e2:0<q)(e0:0<=c)(e1:c<e.length)(e3:e.length<=sizeLine)(e5:∀e6∈b,e6.1≠(As e c).1)(e7:¬ ((b.length:Nat):Int)<t)(f0:¬ ((b.length:Nat):Int)>=z)(f4:Fh x)(f2:CX (((b.length:Nat):Int)-1) x=none)(f3:(1:Int)>b5)(d9:Room 200 A)(c0:RepF (V w j o u) ([(p,Aw w.params S T a3 Y a4 a5 a6 a7 a8 a9 X a0 a1 a2 b2 g b1 f b0 y h Q P t z b3 b4 E L b5 c2 c1 b6 c3 c4 d7 b7),(g,I (J e) B),(f,A5 (bE w.params (b++((As e c).1,r,i,d)::k)) D),(y,A5 x M),(h,I [] 0),(n,Bi c q)]++bP 0 (b++((As e c).1,r,i,d)::k)) [] F v)(b9:∀l (d1:Nat) d2 (d8 f7 f8 f9 f5:Nat),Sh w.params d2->RepF (V w j o u) ([(p,Aw w.params S T a3 Y a4 a5 a6 a7 a8 a9 X a0 a1 a2 b2 g b1 f b0 d1 h Q P t z b3 b4 E L (1) (((b.length:Nat):Int)-(1)+1) (c-(1)+1) f7 f8 f9 d2 d8),(g,I (J e) B),(f,A5 (bE w.params (b++((As e c).1,r,i,d)::k)) D),(d1,A5 [⟨hashInt ((b.length:Nat):Int),.int ((b.length:Nat):Int) d,.int (1) f5⟩] 1),(h,I [] 0),(n,Bi (c+1) (q-1)),(y,A5 x M)]++bP 0 (b++((As e c).1,r,i,d)::k)) [] F l->codeAny (model pw w) A (CY p n) R l):codeAny (model pw w) A (CY p n) R v:=by
 have b8:=Cg O d9 (CY p n) 358 0x460400410440041041001000410010410c30c304108208104124904024a00a00a28a24a28004104104104104104100704000104104820104104104100004100004b2cb0402cc30030c30b30c30030c30b30c30030c30b30c30030c30b30c38004100104004128028a28928a401001041 [(λm=>D9 n c q,[5],[]),(λm=>BN g e B c (C m 0),[1],[]),(λm=>FC w.params f b k (As e c).fst r i d D (As e c).2 (Value.ref h),[2],[]),(λm=>AT (↑b.length) t d E false,[],[]),(λm=>JR (↑b.length) z d L false,[],[]),(λm=>ST (C m 3) y x M (↑b.length-1) (C m 10) (Value.int 0 (C m 11)),[6,3],[]),(λm=>I3 (C m 5) (↑b.length) d (Value.int 1 (C m 13)),[7],[]),(λm=>Cq 1 b5 (C m 13) b6 true,[],[])] [0,1,2,7,4,5,3,8] (G7 (Ce O e2) (B0 O e0 e1 e3) (Dq O BP e5) (A9 O (decide_eq_false e7)) (El O (decide_eq_false f0)) (MC O BP f4 f2) (F1 O BP) (AW O (decide_eq_true f3)))
 cases e4 with
 |s0=>
  refine b8.1 (λa=>[(p,Aw w.params S T a3 Y a4 a5 a6 a7 a8 a9 X a0 a1 a2 b2 g b1 f b0 (a 5) h Q P t z b3 b4 E L ((1)) ((↑b.length-1+1)) ((c-1+1)) (a 13) (a 20) (a 17) (E0 w.params (a 1) (a 4) (a 6) (a 8) (a 14) (c) (a 0) (a 3) (a 5) ((((b.length):Nat):Int)) d ((1)) (a 13)) ((((((b7+1)+1)+1)+1)+1))),(g,I (J e) B),(f,A5 (bE w.params (b++((As e c).1,r,i,d)::k)) D),((a 5),A5 [⟨hashInt ((b.length:Nat):Int),.int ((b.length:Nat):Int) d,.int (1) (a 13)⟩] 1),(h,I [] 0),(n,Bi (c+1) (q-1)),(y,A5 x M),(i,I [.int (b.length:Nat) d] 1)]) (λa=>bP 0 b++bP (b.length+1) k) c0 λa l s=>b9 l _ _ _ _ _ _ _ (Sh.s3 _ _ _ _ _ _ _ _ _ _ _ _ _) (AO (c6:=[_,_,_,_,_,_,_]) s)
 |s1 G H K c7 d0 c8 c9=>
  refine b8.1 (λa=>[(p,Aw w.params S T a3 Y a4 a5 a6 a7 a8 a9 X a0 a1 a2 b2 g b1 f b0 (a 5) h Q P t z b3 b4 E L ((1)) ((↑b.length-1+1)) ((c-1+1)) (a 13) (a 20) (a 17) (E0 w.params G H K (a 8) (a 14) (c) (a 0) (a 3) (a 5) ((((b.length):Nat):Int)) d ((1)) (a 13)) (((b7+1)+1))),(g,I (J e) B),(f,A5 (bE w.params (b++((As e c).1,r,i,d)::k)) D),((a 5),A5 [⟨hashInt ((b.length:Nat):Int),.int ((b.length:Nat):Int) d,.int (1) (a 13)⟩] 1),(h,I [] 0),(n,Bi (c+1) (q-1)),(y,A5 x M),(i,I [.int (b.length:Nat) d] 1)]) (λa=>bP 0 b++bP (b.length+1) k) c0 λa l s=>b9 l _ _ _ _ _ _ _ (Sh.s3 _ _ _ _ _ _ _ _ _ _ _ _ _) (AO (c6:=[_,_,_,_,_,_,_]) s)
 |s2 G H K c5 c7 d0 c8 c9 d3 d4=>
  refine b8.1 (λa=>[(p,Aw w.params S T a3 Y a4 a5 a6 a7 a8 a9 X a0 a1 a2 b2 g b1 f b0 (a 5) h Q P t z b3 b4 E L ((1)) ((↑b.length-1+1)) ((c-1+1)) (a 13) (a 20) (a 17) (E0 w.params G H K c5 (a 14) (c) (a 0) (a 3) (a 5) ((((b.length):Nat):Int)) d ((1)) (a 13)) ((b7+1))),(g,I (J e) B),(f,A5 (bE w.params (b++((As e c).1,r,i,d)::k)) D),((a 5),A5 [⟨hashInt ((b.length:Nat):Int),.int ((b.length:Nat):Int) d,.int (1) (a 13)⟩] 1),(h,I [] 0),(n,Bi (c+1) (q-1)),(y,A5 x M),(i,I [.int (b.length:Nat) d] 1)]) (λa=>bP 0 b++bP (b.length+1) k) c0 λa l s=>b9 l _ _ _ _ _ _ _ (Sh.s3 _ _ _ _ _ _ _ _ _ _ _ _ _) (AO (c6:=[_,_,_,_,_,_,_]) s)
 |s3 G H K c5 d5 c7 d0 c8 c9 d3 d4 e8 e9=>
  refine b8.1 (λa=>[(p,Aw w.params S T a3 Y a4 a5 a6 a7 a8 a9 X a0 a1 a2 b2 g b1 f b0 (a 5) h Q P t z b3 b4 E L ((1)) ((↑b.length-1+1)) ((c-1+1)) (a 13) (a 20) (a 17) (E0 w.params G H K c5 d5 (c) (a 0) (a 3) (a 5) ((((b.length):Nat):Int)) d ((1)) (a 13)) (b7)),(g,I (J e) B),(f,A5 (bE w.params (b++((As e c).1,r,i,d)::k)) D),((a 5),A5 [⟨hashInt ((b.length:Nat):Int),.int ((b.length:Nat):Int) d,.int (1) (a 13)⟩] 1),(h,I [] 0),(n,Bi (c+1) (q-1)),(y,A5 x M),(i,I [.int (b.length:Nat) d] 1)]) (λa=>bP 0 b++bP (b.length+1) k) c0 λa l s=>b9 l _ _ _ _ _ _ _ (Sh.s3 _ _ _ _ _ _ _ _ _ _ _ _ _) (AO (c6:=[_,_,_,_,_,_,_]) s)
theorem Uz(e4:Sh w.params d7)(e2:0<q)(e0:0<=c)(e1:c<e.length)(e3:e.length<=sizeLine)(e5:∀e6∈b,e6.1≠(As e c).1)(e7:¬ ((b.length:Nat):Int)<t)(f0:¬ ((b.length:Nat):Int)>=z)(f4:Fh x)(f2:CX (((b.length:Nat):Int)-1) x=none)(f3:¬ (1:Int)>b5)(d9:Room 200 A)(c0:RepF (V w j o u) ([(p,Aw w.params S T a3 Y a4 a5 a6 a7 a8 a9 X a0 a1 a2 b2 g b1 f b0 y h Q P t z b3 b4 E L b5 c2 c1 b6 c3 c4 d7 b7),(g,I (J e) B),(f,A5 (bE w.params (b++((As e c).1,r,i,d)::k)) D),(y,A5 x M),(h,I [] 0),(n,Bi c q)]++bP 0 (b++((As e c).1,r,i,d)::k)) [] F v)(b9:∀l (d1:Nat) d2 (d8 f5:Nat),Sh w.params d2->RepF (V w j o u) ([(p,Aw w.params S T a3 Y a4 a5 a6 a7 a8 a9 X a0 a1 a2 b2 g b1 f b0 d1 h Q P t z b3 b4 E L b5 c2 c1 b6 c3 c4 d2 d8),(g,I (J e) B),(f,A5 (bE w.params (b++((As e c).1,r,i,d)::k)) D),(d1,A5 [⟨hashInt ((b.length:Nat):Int),.int ((b.length:Nat):Int) d,.int (1) f5⟩] 1),(h,I [] 0),(n,Bi (c+1) (q-1)),(y,A5 x M)]++bP 0 (b++((As e c).1,r,i,d)::k)) [] F l->codeAny (model pw w) A (CY p n) R l):codeAny (model pw w) A (CY p n) R v:=by
 have b8:=Cg O d9 (CY p n) 249 0x460400410440041041001000410010410c30c304108208104124904024a00a00a28a24a28004104104104104104100704000104104820104104128028a28928a301001041 [(λm=>D9 n c q,[5],[]),(λm=>BN g e B c (C m 0),[1],[]),(λm=>FC w.params f b k (As e c).fst r i d D (As e c).2 (Value.ref h),[2],[]),(λm=>AT (↑b.length) t d E false,[],[]),(λm=>JR (↑b.length) z d L false,[],[]),(λm=>ST (C m 3) y x M (↑b.length-1) (C m 10) (Value.int 0 (C m 11)),[6,3],[]),(λm=>I3 (C m 5) (↑b.length) d (Value.int 1 (C m 13)),[7],[]),(λm=>Cq 1 b5 (C m 13) b6 false,[],[])] [0,1,2,7,4,5,3,8] (G7 (Ce O e2) (B0 O e0 e1 e3) (Dq O BP e5) (A9 O (decide_eq_false e7)) (El O (decide_eq_false f0)) (MC O BP f4 f2) (F1 O BP) (AW O (decide_eq_false f3)))
 cases e4 with
 |s0=>
  refine b8.1 (λa=>[(p,Aw w.params S T a3 Y a4 a5 a6 a7 a8 a9 X a0 a1 a2 b2 g b1 f b0 (a 5) h Q P t z b3 b4 E L (b5) (c2) (c1) b6 c3 c4 (E0 w.params (a 1) (a 4) (a 6) (a 8) (a 14) (c) (a 0) (a 3) (a 5) ((((b.length):Nat):Int)) d ((1)) (a 13)) ((((((b7+1)+1)+1)+1)+1))),(g,I (J e) B),(f,A5 (bE w.params (b++((As e c).1,r,i,d)::k)) D),((a 5),A5 [⟨hashInt ((b.length:Nat):Int),.int ((b.length:Nat):Int) d,.int (1) (a 13)⟩] 1),(h,I [] 0),(n,Bi (c+1) (q-1)),(y,A5 x M),(i,I [.int (b.length:Nat) d] 1)]) (λa=>bP 0 b++bP (b.length+1) k) c0 λa l s=>b9 l _ _ _ _ (Sh.s3 _ _ _ _ _ _ _ _ _ _ _ _ _) (AO (c6:=[_,_,_,_,_,_,_]) s)
 |s1 G H K c7 d0 c8 c9=>
  refine b8.1 (λa=>[(p,Aw w.params S T a3 Y a4 a5 a6 a7 a8 a9 X a0 a1 a2 b2 g b1 f b0 (a 5) h Q P t z b3 b4 E L (b5) (c2) (c1) b6 c3 c4 (E0 w.params G H K (a 8) (a 14) (c) (a 0) (a 3) (a 5) ((((b.length):Nat):Int)) d ((1)) (a 13)) (((b7+1)+1))),(g,I (J e) B),(f,A5 (bE w.params (b++((As e c).1,r,i,d)::k)) D),((a 5),A5 [⟨hashInt ((b.length:Nat):Int),.int ((b.length:Nat):Int) d,.int (1) (a 13)⟩] 1),(h,I [] 0),(n,Bi (c+1) (q-1)),(y,A5 x M),(i,I [.int (b.length:Nat) d] 1)]) (λa=>bP 0 b++bP (b.length+1) k) c0 λa l s=>b9 l _ _ _ _ (Sh.s3 _ _ _ _ _ _ _ _ _ _ _ _ _) (AO (c6:=[_,_,_,_,_,_,_]) s)
 |s2 G H K c5 c7 d0 c8 c9 d3 d4=>
  refine b8.1 (λa=>[(p,Aw w.params S T a3 Y a4 a5 a6 a7 a8 a9 X a0 a1 a2 b2 g b1 f b0 (a 5) h Q P t z b3 b4 E L (b5) (c2) (c1) b6 c3 c4 (E0 w.params G H K c5 (a 14) (c) (a 0) (a 3) (a 5) ((((b.length):Nat):Int)) d ((1)) (a 13)) ((b7+1))),(g,I (J e) B),(f,A5 (bE w.params (b++((As e c).1,r,i,d)::k)) D),((a 5),A5 [⟨hashInt ((b.length:Nat):Int),.int ((b.length:Nat):Int) d,.int (1) (a 13)⟩] 1),(h,I [] 0),(n,Bi (c+1) (q-1)),(y,A5 x M),(i,I [.int (b.length:Nat) d] 1)]) (λa=>bP 0 b++bP (b.length+1) k) c0 λa l s=>b9 l _ _ _ _ (Sh.s3 _ _ _ _ _ _ _ _ _ _ _ _ _) (AO (c6:=[_,_,_,_,_,_,_]) s)
 |s3 G H K c5 d5 c7 d0 c8 c9 d3 d4 e8 e9=>
  refine b8.1 (λa=>[(p,Aw w.params S T a3 Y a4 a5 a6 a7 a8 a9 X a0 a1 a2 b2 g b1 f b0 (a 5) h Q P t z b3 b4 E L (b5) (c2) (c1) b6 c3 c4 (E0 w.params G H K c5 d5 (c) (a 0) (a 3) (a 5) ((((b.length):Nat):Int)) d ((1)) (a 13)) (b7)),(g,I (J e) B),(f,A5 (bE w.params (b++((As e c).1,r,i,d)::k)) D),((a 5),A5 [⟨hashInt ((b.length:Nat):Int),.int ((b.length:Nat):Int) d,.int (1) (a 13)⟩] 1),(h,I [] 0),(n,Bi (c+1) (q-1)),(y,A5 x M),(i,I [.int (b.length:Nat) d] 1)]) (λa=>bP 0 b++bP (b.length+1) k) c0 λa l s=>b9 l _ _ _ _ (Sh.s3 _ _ _ _ _ _ _ _ _ _ _ _ _) (AO (c6:=[_,_,_,_,_,_,_]) s)
end
end
section
section
variable{m H K Q Y S T X a0 a1 a2 L M N P a6 e d G g a4 a5:Nat}{p n r q:Int}{t x y z:Nat}{b c a:Int}{a8 E D:Nat}{a3 B s f:Nat}{i h:List (Str×Nat)}{a7:List DictEntry}
include O
theorem Rf(b0:¬ a>p)(b1:Room 100 A)(b3:RepF (V w j o u) [(m,Aw w.params H K Q Y S T X a0 a1 a2 L M N P a6 e d G g a4 a5 p n r q t x y z b c a a8 E D a7 a3),(e,I (J i) B),(d,I (J h) s),(g,AR f),(f,Ad w.params)] [] F v)(b2:∀k,RepF (V w j o u) [(m,Aw w.params H K Q Y S T X a0 a1 a2 L M N P a6 e d G g a4 a5 p n r q t x y z b c a a8 E D a7 a3),(e,I (J i) B),(d,I (J h) s),(g,AR f),(f,Ad w.params)] [] F k->R (.ok .next) k):codeAny (model pw w) A (DA 8 m) R v:=
 Ck O b1 _ 68 0x1041041 [(λl=>Cq a p D t false,[],[])] [0,1,2,3,4] (Bo (AW O (decide_eq_false b0))) (λa9=>[(m,Aw w.params H K Q Y S T X a0 a1 a2 L M N P a6 e d G g a4 a5 p n r q t x y z b c a a8 E D a7 a3),(e,I (J i) B),(d,I (J h) s),(g,AR f),(f,Ad w.params)]) b3 λa9 k b4=>b2 k b4
theorem SG(b0:a>p)(b5:¬ c>r)(b1:Room 100 A)(b3:RepF (V w j o u) [(m,Aw w.params H K Q Y S T X a0 a1 a2 L M N P a6 e d G g a4 a5 p n r q t x y z b c a a8 E D a7 a3),(e,I (J i) B),(d,I (J h) s),(g,AR f),(f,Ad w.params)] [] F v)(b2:∀k,RepF (V w j o u) [(m,Aw w.params H K Q Y S T X a0 a1 a2 L M N P a6 e d G g a4 a5 p n r q t x y z b c a a8 E D a7 a3),(e,I (J i) B),(d,I (J h) s),(g,AR f),(f,Ad w.params)] [] F k->R (.ok .next) k):codeAny (model pw w) A (DA 8 m) R v:=
 Ck O b1 _ 75 0x1041041041041 [(λl=>Cq a p D t true,[],[]),(λl=>Cq c r E y false,[],[])] [0,1,2,3,4] (BI (AW O (decide_eq_true b0)) (AW O (decide_eq_false b5))) (λa9=>[(m,Aw w.params H K Q Y S T X a0 a1 a2 L M N P a6 e d G g a4 a5 p n r q t x y z b c a a8 E D a7 a3),(e,I (J i) B),(d,I (J h) s),(g,AR f),(f,Ad w.params)]) b3 λa9 k b4=>b2 k b4
theorem PT(b0:a>p)(b5:c>r)(b9:0<=a-1)(c0:a-1<i.length)(b6:0<=c-1)(b7:c-1<h.length)(c1:i.length<=sizeLine)(b8:h.length<=sizeLine)(c2:((As i (a-1)).1.cps.toList==(As h (c-1)).1.cps.toList)=false)(b1:Room 100 A)(b3:RepF (V w j o u) [(m,Aw w.params H K Q Y S T X a0 a1 a2 L M N P a6 e d G g a4 a5 p n r q t x y z b c a a8 E D a7 a3),(e,I (J i) B),(d,I (J h) s),(g,AR f),(f,Ad w.params)] [] F v)(b2:∀k,RepF (V w j o u) [(m,Aw w.params H K Q Y S T X a0 a1 a2 L M N P a6 e d G g a4 a5 p n r q t x y z b c a a8 E D a7 a3),(e,I (J i) B),(d,I (J h) s),(g,AR f),(f,Ad w.params)] [] F k->R (.ok .next) k):codeAny (model pw w) A (DA 8 m) R v:=
 Ck O b1 _ 145 0x410410410410410410030c30440041451410000050410020820410400c30c1041 [(λl=>Cq a p D t true,[],[]),(λl=>Cq c r E y true,[],[]),(λl=>BN d h s (c-1) (C l 1),[2],[]),(λl=>BN e i B (a-1) (C l 4),[1],[]),(λl=>BN d h s (c-1) (C l 6),[2],[]),(λl=>AY (As i (a-1)).fst (As h (c-1)).fst (As i (a-1)).2 (As h (c-1)).2 false,[],[])] [0,1,2,3,4] (FW (AW O (decide_eq_true b0)) (AW O (decide_eq_true b5)) (B0 O b6 b7 b8) (B0 O b9 c0 c1) (B0 O b6 b7 b8) (Ai O c2)) (λa9=>[(m,Aw w.params H K Q Y S T X a0 a1 a2 L M N P a6 e d G g a4 a5 p n r q t x y z b c a a8 E D a7 a3),(e,I (J i) B),(d,I (J h) s),(g,AR f),(f,Ad w.params)]) b3 λa9 k b4=>b2 k b4
theorem Q0(b0:a>p)(b5:c>r)(b9:0<=a-1)(c0:a-1<i.length)(b6:0<=c-1)(b7:c-1<h.length)(c1:i.length<=sizeLine)(b8:h.length<=sizeLine)(c2:((As i (a-1)).1.cps.toList==(As h (c-1)).1.cps.toList)=true)(b1:Room 100 A)(b3:RepF (V w j o u) [(m,Aw w.params H K Q Y S T X a0 a1 a2 L M N P a6 e d G g a4 a5 p n r q t x y z b c a a8 E D a7 a3),(e,I (J i) B),(d,I (J h) s),(g,AR f),(f,Ad w.params)] [] F v)(b2:∀k (c3 c4 c5:Nat),RepF (V w j o u) [(m,Aw w.params H K Q Y S T X a0 a1 a2 L M N P a6 e d G g a4 a5 p n r q t x y z (b+1) (c-1) (a-1) c3 c4 c5 a7 a3),(e,I (J i) B),(d,I (J h) s),(g,AR f),(f,Ad w.params)] [] F k->codeAny (model pw w) A (DA 8 m) R k):codeAny (model pw w) A (DA 8 m) R v:=
 Bn O b1 _ 246 0x410410410410410410030c30440041451410000050410020820410400c30c10410400400401861810061c70071c71871c70071c71871c70071c71871c70071c71871c9001040041001041 [(λl=>Cq a p D t true,[],[]),(λl=>Cq c r E y true,[],[]),(λl=>BN d h s (c-1) (C l 1),[2],[]),(λl=>BN e i B (a-1) (C l 4),[1],[]),(λl=>BN d h s (c-1) (C l 6),[2],[]),(λl=>AY (As i (a-1)).fst (As h (c-1)).fst (As i (a-1)).2 (As h (c-1)).2 true,[],[])] [0,1,2,3,4] (FW (AW O (decide_eq_true b0)) (AW O (decide_eq_true b5)) (B0 O b6 b7 b8) (B0 O b9 c0 c1) (B0 O b6 b7 b8) (Ai O c2)) (λa9=>[(m,Aw w.params H K Q Y S T X a0 a1 a2 L M N P a6 e d G g a4 a5 p n r q t x y z (b+1) (c-1) (a-1) (a9 12) (a9 10) (a9 8) a7 a3),(e,I (J i) B),(d,I (J h) s),(g,AR f),(f,Ad w.params)]) b3 λa9 k b4=>b2 k _ _ _ b4
theorem Re(b0:¬ a+b<n)(b1:Room 100 A)(b3:RepF (V w j o u) [(m,Aw w.params H K Q Y S T X a0 a1 a2 L M N P a6 e d G g a4 a5 p n r q t x y z b c a a8 E D a7 a3),(e,I (J i) B),(d,I (J h) s),(g,AR f),(f,Ad w.params)] [] F v)(b2:∀k,RepF (V w j o u) [(m,Aw w.params H K Q Y S T X a0 a1 a2 L M N P a6 e d G g a4 a5 p n r q t x y z b c a a8 E D a7 a3),(e,I (J i) B),(d,I (J h) s),(g,AR f),(f,Ad w.params)] [] F k->R (.ok .next) k):codeAny (model pw w) A (DA 9 m) R v:=
 Ck O b1 _ 75 0x1041001041 [(λl=>AT (a+b) n (C l 0) x false,[],[])] [0,1,2,3,4] (Bo (A9 O (decide_eq_false b0))) (λa9=>[(m,Aw w.params H K Q Y S T X a0 a1 a2 L M N P a6 e d G g a4 a5 p n r q t x y z b c a a8 E D a7 a3),(e,I (J i) B),(d,I (J h) s),(g,AR f),(f,Ad w.params)]) b3 λa9 k b4=>b2 k b4
theorem S9(b0:a+b<n)(b5:¬ c+b<q)(b1:Room 100 A)(b3:RepF (V w j o u) [(m,Aw w.params H K Q Y S T X a0 a1 a2 L M N P a6 e d G g a4 a5 p n r q t x y z b c a a8 E D a7 a3),(e,I (J i) B),(d,I (J h) s),(g,AR f),(f,Ad w.params)] [] F v)(b2:∀k,RepF (V w j o u) [(m,Aw w.params H K Q Y S T X a0 a1 a2 L M N P a6 e d G g a4 a5 p n r q t x y z b c a a8 E D a7 a3),(e,I (J i) B),(d,I (J h) s),(g,AR f),(f,Ad w.params)] [] F k->R (.ok .next) k):codeAny (model pw w) A (DA 9 m) R v:=
 Ck O b1 _ 89 0x1041001041041001041 [(λl=>AT (a+b) n (C l 0) x true,[],[]),(λl=>AT (c+b) q (C l 1) z false,[],[])] [0,1,2,3,4] (BI (A9 O (decide_eq_true b0)) (A9 O (decide_eq_false b5))) (λa9=>[(m,Aw w.params H K Q Y S T X a0 a1 a2 L M N P a6 e d G g a4 a5 p n r q t x y z b c a a8 E D a7 a3),(e,I (J i) B),(d,I (J h) s),(g,AR f),(f,Ad w.params)]) b3 λa9 k b4=>b2 k b4
theorem QD(b0:a+b<n)(b5:c+b<q)(b9:0<=a+b)(c0:a+b<i.length)(b6:0<=c+b)(b7:c+b<h.length)(c1:i.length<=sizeLine)(b8:h.length<=sizeLine)(c2:((As i (a+b)).1.cps.toList==(As h (c+b)).1.cps.toList)=false)(b1:Room 100 A)(b3:RepF (V w j o u) [(m,Aw w.params H K Q Y S T X a0 a1 a2 L M N P a6 e d G g a4 a5 p n r q t x y z b c a a8 E D a7 a3),(e,I (J i) B),(d,I (J h) s),(g,AR f),(f,Ad w.params)] [] F v)(b2:∀k,RepF (V w j o u) [(m,Aw w.params H K Q Y S T X a0 a1 a2 L M N P a6 e d G g a4 a5 p n r q t x y z b c a a8 E D a7 a3),(e,I (J i) B),(d,I (J h) s),(g,AR f),(f,Ad w.params)] [] F k->R (.ok .next) k):codeAny (model pw w) A (DA 9 m) R v:=
 Ck O b1 _ 162 0x10410010410410010410410410030c30440041451410000050410400820810410400c30c1041 [(λl=>AT (a+b) n (C l 0) x true,[],[]),(λl=>AT (c+b) q (C l 1) z true,[],[]),(λl=>BN d h s (c+b) (C l 2),[2],[]),(λl=>BN e i B (a+b) (C l 4),[1],[]),(λl=>BN d h s (c+b) (C l 5),[2],[]),(λl=>AY (As i (a+b)).fst (As h (c+b)).fst (As i (a+b)).2 (As h (c+b)).2 false,[],[])] [0,1,2,3,4] (FW (A9 O (decide_eq_true b0)) (A9 O (decide_eq_true b5)) (B0 O b6 b7 b8) (B0 O b9 c0 c1) (B0 O b6 b7 b8) (Ai O c2)) (λa9=>[(m,Aw w.params H K Q Y S T X a0 a1 a2 L M N P a6 e d G g a4 a5 p n r q t x y z b c a a8 E D a7 a3),(e,I (J i) B),(d,I (J h) s),(g,AR f),(f,Ad w.params)]) b3 λa9 k b4=>b2 k b4
theorem QQ(b0:a+b<n)(b5:c+b<q)(b9:0<=a+b)(c0:a+b<i.length)(b6:0<=c+b)(b7:c+b<h.length)(c1:i.length<=sizeLine)(b8:h.length<=sizeLine)(c2:((As i (a+b)).1.cps.toList==(As h (c+b)).1.cps.toList)=true)(b1:Room 100 A)(b3:RepF (V w j o u) [(m,Aw w.params H K Q Y S T X a0 a1 a2 L M N P a6 e d G g a4 a5 p n r q t x y z b c a a8 E D a7 a3),(e,I (J i) B),(d,I (J h) s),(g,AR f),(f,Ad w.params)] [] F v)(b2:∀k (c3 c4 c5:Nat),RepF (V w j o u) [(m,Aw w.params H K Q Y S T X a0 a1 a2 L M N P a6 e d G g a4 a5 p n r q t x y z (b+1) c a c3 c4 c5 a7 a3),(e,I (J i) B),(d,I (J h) s),(g,AR f),(f,Ad w.params)] [] F k->codeAny (model pw w) A (DA 9 m) R k):codeAny (model pw w) A (DA 9 m) R v:=
 Bn O b1 _ 177 0x10410010410410010410410410030c30440041451410000050410400820810410400c30c1041040001041 [(λl=>AT (a+b) n (C l 0) x true,[],[]),(λl=>AT (c+b) q (C l 1) z true,[],[]),(λl=>BN d h s (c+b) (C l 2),[2],[]),(λl=>BN e i B (a+b) (C l 4),[1],[]),(λl=>BN d h s (c+b) (C l 5),[2],[]),(λl=>AY (As i (a+b)).fst (As h (c+b)).fst (As i (a+b)).2 (As h (c+b)).2 true,[],[])] [0,1,2,3,4] (FW (A9 O (decide_eq_true b0)) (A9 O (decide_eq_true b5)) (B0 O b6 b7 b8) (B0 O b9 c0 c1) (B0 O b6 b7 b8) (Ai O c2)) (λa9=>[(m,Aw w.params H K Q Y S T X a0 a1 a2 L M N P a6 e d G g a4 a5 p n r q t x y z (b+1) c a (a9 7) E D a7 a3),(e,I (J i) B),(d,I (J h) s),(g,AR f),(f,Ad w.params)]) b3 λa9 k b4=>b2 k _ _ _ b4
theorem Sm(b0:¬ a>p)(b1:Room 100 A)(b3:RepF (V w j o u) [(m,Aw w.params H K Q Y S T X a0 a1 a2 L M N P a6 e d G g a4 a5 p n r q t x y z b c a a8 E D a7 a3),(e,I (J i) B),(d,I (J h) s),(g,AR f),(f,Ad w.params)] [] F v)(b2:∀k,RepF (V w j o u) [(m,Aw w.params H K Q Y S T X a0 a1 a2 L M N P a6 e d G g a4 a5 p n r q t x y z b c a a8 E D a7 a3),(e,I (J i) B),(d,I (J h) s),(g,AR f),(f,Ad w.params)] [] F k->R (.ok .next) k):codeAny (model pw w) A (DA 10 m) R v:=
 Ck O b1 _ 68 0x1041041 [(λl=>Cq a p D t false,[],[])] [0,1,2,3,4] (Bo (AW O (decide_eq_false b0))) (λa9=>[(m,Aw w.params H K Q Y S T X a0 a1 a2 L M N P a6 e d G g a4 a5 p n r q t x y z b c a a8 E D a7 a3),(e,I (J i) B),(d,I (J h) s),(g,AR f),(f,Ad w.params)]) b3 λa9 k b4=>b2 k b4
theorem PW(b0:a>p)(b5:¬ c>r)(b1:Room 100 A)(b3:RepF (V w j o u) [(m,Aw w.params H K Q Y S T X a0 a1 a2 L M N P a6 e d G g a4 a5 p n r q t x y z b c a a8 E D a7 a3),(e,I (J i) B),(d,I (J h) s),(g,AR f),(f,Ad w.params)] [] F v)(b2:∀k,RepF (V w j o u) [(m,Aw w.params H K Q Y S T X a0 a1 a2 L M N P a6 e d G g a4 a5 p n r q t x y z b c a a8 E D a7 a3),(e,I (J i) B),(d,I (J h) s),(g,AR f),(f,Ad w.params)] [] F k->R (.ok .next) k):codeAny (model pw w) A (DA 10 m) R v:=
 Ck O b1 _ 75 0x1041041041041 [(λl=>Cq a p D t true,[],[]),(λl=>Cq c r E y false,[],[])] [0,1,2,3,4] (BI (AW O (decide_eq_true b0)) (AW O (decide_eq_false b5))) (λa9=>[(m,Aw w.params H K Q Y S T X a0 a1 a2 L M N P a6 e d G g a4 a5 p n r q t x y z b c a a8 E D a7 a3),(e,I (J i) B),(d,I (J h) s),(g,AR f),(f,Ad w.params)]) b3 λa9 k b4=>b2 k b4
theorem QX(b0:a>p)(b5:c>r)(b9:0<=a-1)(c0:a-1<i.length)(b6:0<=c-1)(b7:c-1<h.length)(c1:i.length<=sizeLine)(b8:h.length<=sizeLine)(b1:Room 100 A)(b3:RepF (V w j o u) [(m,Aw w.params H K Q Y S T X a0 a1 a2 L M N P a6 e d G g a4 a5 p n r q t x y z b c a a8 E D a7 a3),(e,I (J i) B),(d,I (J h) s),(g,AR f),(f,Ad w.params)] [] F v)(b2:∀k,RepF (V w j o u) [(m,Aw w.params H K Q Y S T X a0 a1 a2 L M N P a6 e d G g a4 a5 p n r q t x y z b c a a8 E D a7 a3),(e,I (J i) B),(d,I (J h) s),(g,AR f),(f,Ad w.params)] [] F k->R (.ok .next) k):codeAny (model pw w) A (DA 10 m) R v:=
 Ck O b1 _ 112 0x410410410410410410030c3044004145141000005 [(λl=>Cq a p D t true,[],[]),(λl=>Cq c r E y true,[],[]),(λl=>BN d h s (c-1) (C l 1),[2],[])] [0,1,2,3,4] (GH (AW O (decide_eq_true b0)) (AW O (decide_eq_true b5)) (B0 O b6 b7 b8)) (λa9=>[(m,Aw w.params H K Q Y S T X a0 a1 a2 L M N P a6 e d G g a4 a5 p n r q t x y z b c a a8 E D a7 a3),(e,I (J i) B),(d,I (J h) s),(g,AR f),(f,Ad w.params)]) b3 λa9 k b4=>b2 k b4
theorem Su(b0:¬ a+b<n)(b1:Room 100 A)(b3:RepF (V w j o u) [(m,Aw w.params H K Q Y S T X a0 a1 a2 L M N P a6 e d G g a4 a5 p n r q t x y z b c a a8 E D a7 a3),(e,I (J i) B),(d,I (J h) s),(g,AR f),(f,Ad w.params)] [] F v)(b2:∀k,RepF (V w j o u) [(m,Aw w.params H K Q Y S T X a0 a1 a2 L M N P a6 e d G g a4 a5 p n r q t x y z b c a a8 E D a7 a3),(e,I (J i) B),(d,I (J h) s),(g,AR f),(f,Ad w.params)] [] F k->R (.ok .next) k):codeAny (model pw w) A (DA 11 m) R v:=
 Ck O b1 _ 75 0x1041001041 [(λl=>AT (a+b) n (C l 0) x false,[],[])] [0,1,2,3,4] (Bo (A9 O (decide_eq_false b0))) (λa9=>[(m,Aw w.params H K Q Y S T X a0 a1 a2 L M N P a6 e d G g a4 a5 p n r q t x y z b c a a8 E D a7 a3),(e,I (J i) B),(d,I (J h) s),(g,AR f),(f,Ad w.params)]) b3 λa9 k b4=>b2 k b4
theorem QU(b0:a+b<n)(b5:¬ c+b<q)(b1:Room 100 A)(b3:RepF (V w j o u) [(m,Aw w.params H K Q Y S T X a0 a1 a2 L M N P a6 e d G g a4 a5 p n r q t x y z b c a a8 E D a7 a3),(e,I (J i) B),(d,I (J h) s),(g,AR f),(f,Ad w.params)] [] F v)(b2:∀k,RepF (V w j o u) [(m,Aw w.params H K Q Y S T X a0 a1 a2 L M N P a6 e d G g a4 a5 p n r q t x y z b c a a8 E D a7 a3),(e,I (J i) B),(d,I (J h) s),(g,AR f),(f,Ad w.params)] [] F k->R (.ok .next) k):codeAny (model pw w) A (DA 11 m) R v:=
 Ck O b1 _ 89 0x1041001041041001041 [(λl=>AT (a+b) n (C l 0) x true,[],[]),(λl=>AT (c+b) q (C l 1) z false,[],[])] [0,1,2,3,4] (BI (A9 O (decide_eq_true b0)) (A9 O (decide_eq_false b5))) (λa9=>[(m,Aw w.params H K Q Y S T X a0 a1 a2 L M N P a6 e d G g a4 a5 p n r q t x y z b c a a8 E D a7 a3),(e,I (J i) B),(d,I (J h) s),(g,AR f),(f,Ad w.params)]) b3 λa9 k b4=>b2 k b4
theorem QC(b0:a+b<n)(b5:c+b<q)(b9:0<=a+b)(c0:a+b<i.length)(b6:0<=c+b)(b7:c+b<h.length)(c1:i.length<=sizeLine)(b8:h.length<=sizeLine)(b1:Room 100 A)(b3:RepF (V w j o u) [(m,Aw w.params H K Q Y S T X a0 a1 a2 L M N P a6 e d G g a4 a5 p n r q t x y z b c a a8 E D a7 a3),(e,I (J i) B),(d,I (J h) s),(g,AR f),(f,Ad w.params)] [] F v)(b2:∀k,RepF (V w j o u) [(m,Aw w.params H K Q Y S T X a0 a1 a2 L M N P a6 e d G g a4 a5 p n r q t x y z b c a a8 E D a7 a3),(e,I (J i) B),(d,I (J h) s),(g,AR f),(f,Ad w.params)] [] F k->R (.ok .next) k):codeAny (model pw w) A (DA 11 m) R v:=
 Ck O b1 _ 127 0x10410010410410010410410410030c3044004145141000005 [(λl=>AT (a+b) n (C l 0) x true,[],[]),(λl=>AT (c+b) q (C l 1) z true,[],[]),(λl=>BN d h s (c+b) (C l 2),[2],[])] [0,1,2,3,4] (GH (A9 O (decide_eq_true b0)) (A9 O (decide_eq_true b5)) (B0 O b6 b7 b8)) (λa9=>[(m,Aw w.params H K Q Y S T X a0 a1 a2 L M N P a6 e d G g a4 a5 p n r q t x y z b c a a8 E D a7 a3),(e,I (J i) B),(d,I (J h) s),(g,AR f),(f,Ad w.params)]) b3 λa9 k b4=>b2 k b4
end
end
section
noncomputable abbrev Ao(c:List (Str×Nat))(b:Int):Str:=(As c b).1
theorem FX{b a:Str}(n:(b.cps.toList==a.cps.toList)=true):b=a:=by
 cases b; cases a
 simp only[Str.mk.injEq]
 exact Array.toList_inj.mp (by simpa using n)
theorem H5{b a:Str}(n:(b.cps.toList==a.cps.toList)=false):b≠a:=by
 intro q; subst q; simp at n
structure Jq(c i:List (Str×Nat))(e d g f h m l:Int):Prop where
 s0:0<=h
 i0:e<=l
 i1:l+h<=d
 j0:g<=m
 j1:m+h<=f
 eq:∀k,0<=k->k<h->Ao c (l+k)=Ao i (m+k)
 no:h=0->∀a p,e<=a->a<d->g<=p->p<f->Ao c a≠Ao i p
structure CU(c i:List (Str×Nat))(e d g f:Int):Prop where
 a0:0<=e
 a1:e<=d
 a2:d<=c.length
 b0:0<=g
 b1:g<=f
 b2:f<=i.length
 s1:c.length<=100
 s2:i.length<=100
end
section
noncomputable def Cz(H:Str):List (Str×Nat)->Option Nat
 |[]=>none
 |q::a=>if q.1=H then some 0 else(Cz H a).map (· + 1)
noncomputable abbrev Eu:=Int×Int×Int
noncomputable abbrev H8:=Option (Int×Int)×Eu
noncomputable def Cc(c a:List (Str×Nat))(e d f:Int)(b:H8):H8:=match Cz (Ao c f) a with
 |none=>(none,b.2)
 |some k=>if((k:Nat):Int)<e then(none,b.2) else if((k:Nat):Int)>=d then(none,b.2) else match b.1 with
  |some (a4,t)=>if((k:Nat):Int)-1=a4 then(some (((k:Nat):Int),t+1),if t+1>b.2.1 then(t+1,((k:Nat):Int)-(t+1)+1,f-(t+1)+1) else b.2)
   else(some (((k:Nat):Int),1),if(1:Int)>b.2.1 then(1,((k:Nat):Int)-1+1,f-1+1) else b.2)
  |none=>(some (((k:Nat):Int),1),if(1:Int)>b.2.1 then(1,((k:Nat):Int)-1+1,f-1+1) else b.2)
noncomputable def DF(c a:List (Str×Nat))(e d:Int):Nat->Int->H8->H8
 |0,_,b=>b
 |n+1,f,b=>DF c a e d n (f+1) (Cc c a e d f b)
noncomputable def GA(c a:List (Str×Nat))(g e:Int):Nat->Eu->Eu
 |0,b=>b
 |m+1,b=>if b.2.2>g/\b.2.1>e/\Ao c (b.2.2-1)=Ao a (b.2.1-1) then GA c a g e m (b.1+1,b.2.1-1,b.2.2-1) else b
noncomputable def GD(c a:List (Str×Nat))(l d:Int):Nat->Eu->Eu
 |0,b=>b
 |m+1,b=>if b.2.2+b.1<l/\b.2.1+b.1<d/\Ao c (b.2.2+b.1)=Ao a (b.2.1+b.1) then GD c a l d m (b.1+1,b.2.1,b.2.2) else b
theorem HO{H:Str}:∀{a:List (Str×Nat)} {k:Nat},Cz H a=some k->k<a.length/\Ao a ((k:Nat):Int)=H:=by
 intro e4
 induction e4 with
 |nil=>
  intro _ i
  cases i
 |cons q a e3=>
  intro k i
  unfold Cz at i
  by_cases y:q.1=H
  ·rw[if_pos y] at i; cases i
   exact⟨by simp,y⟩
  ·rw[if_neg y] at i
   cases P:Cz H a with
   |none=>rw[P] at i; cases i
   |some X=>
    rw[P] at i
    cases i
    obtain⟨G,c3⟩:=e3 P
    refine⟨by simp; omega,?_⟩
    rw[<-c3]
    simp[Ao,As]
theorem Ik{H:Str}:∀{a:List (Str×Nat)},Cz H a=none->∀q∈a,q.1≠H
 |[],_,_,a1=>by cases a1
 |q::a,i,s,a9=>by
  unfold Cz at i
  by_cases y:q.1=H
  ·rw[if_pos y] at i; cases i
  ·rw[if_neg y] at i
   have P:Cz H a=none:=by
    cases P:Cz H a with
    |none=>rfl
    |some X=>rw[P] at i; cases i
   rcases List.mem_cons.mp a9 with rfl |a9
   ·exact y
   ·exact Ik P s a9
theorem DU{a:List (Str×Nat)}{x:Int}(z:0<=x)(G:x<a.length):∃i:x.toNat<(a.map (·.1)).length,Ao a x=(a.map (·.1))[x.toNat]:=by
 have i:x.toNat<a.length:=by lia
 refine⟨by simpa using i,?_⟩
 simp[Ao,As,List.getD,i]
theorem JA{a:List (Str×Nat)}(K:(a.map (·.1)).Nodup){x s:Int}(a5:0<=x)(b0:x<a.length)(L:0<=s)(M:s<a.length)(i:Ao a x=Ao a s):x=s:=by
 obtain⟨b1,a6⟩:=DU a5 b0
 obtain⟨d1,c2⟩:=DU L M
 rw[a6,c2] at i
 have:=(List.getElem_inj K).mp i
 lia
theorem R4{a:List (Str×Nat)}{x:Int}(z:0<=x)(G:x<a.length):∃q∈a,q.1=Ao a x:=by
 obtain⟨b1,a6⟩:=DU z G
 have:=List.getElem_mem b1
 rw[<-a6] at this
 obtain⟨q,a1,y⟩:=List.mem_map.mp this
 exact⟨q,a1,y⟩
noncomputable def PY(c a:List (Str×Nat))(g e d f:Int):Option (Int×Int)->Prop
 |none=>True
 |some (k,X)=>1<=X/\X<=f-g/\e<=k-X+1/\k<d/\∀h,0<=h->h<X->Ao c (f-1-h)=Ao a (k-h)
noncomputable abbrev FlS(c a:List (Str×Nat))(g l e d:Int)(b:Eu):Prop:=Jq c a g l e d b.1 b.2.1 b.2.2
theorem LI{c a:List (Str×Nat)}{g l e d:Int}(K:(a.map (·.1)).Nodup)(D:CU c a g l e d){f:Int}(a7:g<=f)(d7:f<l){b:H8}(p:FlS c a g f e d b.2)(Q:PY c a g e d f b.1) :
  FlS c a g (f+1) e d (Cc c a e d f b).2/\PY c a g e d (f+1) (Cc c a e d f b).1:=by
 obtain⟨c9,r,E,B⟩:=b
 have d3:=D.a0; have c4:=D.a1; have d4:=D.a2; have d5:=D.b0; have c5:=D.b1; have d6:=D.b2
 have N:=p.i0; have g2:=p.i1; have g3:=p.j0; have S:=p.j1; have T:=p.s0
 dsimp only at N g2 g3 S T
 have a2:(r=0->∀s,e<=s->s<d->Ao c f≠Ao a s)->FlS c a g (f+1) e d (r,E,B):=λi=>
  ⟨T,N,by show B+r<=f+1; lia,g3,S,p.eq,λz x s a5 b0 L M=>by
   by_cases y:x=f
   ·subst y; exact i z s L M
   ·exact p.no z x s a5 (by lia) L M⟩
 unfold Cc
 cases b7:Cz (Ao c f) a with
 |none=>
  refine⟨a2 λz s L M i=>?_,trivial⟩
  obtain⟨q,a1,c6⟩:=R4 (a:=a) (x:=s) (by lia) (by exact Int.le_trans ‹_› ‹_›)
  exact Ik b7 q a1 (c6.trans i.symm)
 |some k=>
  obtain⟨d8,a3⟩:=HO b7
  have b9:∀s,e<=s->s<d->Ao c f=Ao a s->s=((k:Nat):Int):=λs L M i=>JA K (by lia) (by exact Int.le_trans ‹_› ‹_›) (by simp) (by lia) (i.symm.trans a3.symm)
  dsimp only
  by_cases b5:((k:Nat):Int)<e
  ·rw[if_pos b5]
   exact⟨a2 λz s L M i=>by have:=b9 s L M i; lia,trivial⟩
  ·rw[if_neg b5]
   by_cases b3:((k:Nat):Int)>=d
   ·rw[if_pos b3]
    exact⟨a2 λz s L M i=>by have:=b9 s L M i; lia,trivial⟩
   ·rw[if_neg b3]
    have b8:FlS c a g (f+1) e d (if(1:Int)>r then(1,((k:Nat):Int)-1+1,f-1+1) else(r,E,B))/\PY c a g e d (f+1) (some (((k:Nat):Int),1)):=by
     constructor
     ·by_cases a0:(1:Int)>r
      ·rw[if_pos a0]
       refine⟨by show(0:Int)<=1; decide,by show g<=f-1+1; lia,by show f-1+1+1<=f+1; simp,by show e<=((k:Nat):Int)-1+1; lia,by show((k:Nat):Int)-1+1+1<=d; lia,λh z G=>?_,λi=>absurd i (by show ¬ (1:Int)=0; decide)⟩
       have:h=0:=by
        have:h<1:=G
        lia
       subst this
       show Ao c (f-1+1+0)=Ao a (((k:Nat):Int)-1+1+0)
       rw[show f-1+1+0=f by simp,show((k:Nat):Int)-1+1+0=((k:Nat):Int) by simp,a3]
      ·rw[if_neg a0]; exact a2 λz=>by lia
     ·refine⟨by decide,by lia,by lia,by lia,λh z G=>?_⟩
      have:h=0:=by lia
      subst this
      rw[show f+1-1-0=f by simp,show((k:Nat):Int)-0=((k:Nat):Int) by rfl,a3]
    match c9,Q with
    |none,_=>exact b8
    |some (a4,t),Q=>
     dsimp only
     by_cases b4:((k:Nat):Int)-1=a4
     ·rw[if_pos b4]
      obtain⟨d9,e0,e1,e2,d0⟩:=Q
      have b2:∀h,0<=h->h<t+1->Ao c (f-h)=Ao a (((k:Nat):Int)-h):=λh z G=>by
       by_cases y:h=0
       ·subst y
        rw[show f-0=f by simp,show((k:Nat):Int)-0=((k:Nat):Int) by rfl,a3]
       ·have:=d0 (h-1) (by lia) (by lia)
        rw[show f-1-(h-1)=f-h by lia,show a4-(h-1)=((k:Nat):Int)-h by lia] at this
        exact this
      constructor
      ·dsimp only
       by_cases a0:t+1>r
       ·rw[if_pos a0]
        refine⟨by show 0<=t+1; lia,by show g<=f-(t+1)+1; lia,by show f-(t+1)+1+(t+1)<=f+1; lia,by show e<=((k:Nat):Int)-(t+1)+1; lia,by show((k:Nat):Int)-(t+1)+1+(t+1)<=d; lia,λh z G=>?_,λi=>absurd i (by show ¬ t+1=0; lia)⟩
        have d2:h<t+1:=G
        have:=b2 (t-h) (by lia) (by lia)
        rw[show f-(t-h)=f-(t+1)+1+h by lia,show((k:Nat):Int)-(t-h)=((k:Nat):Int)-(t+1)+1+h by lia] at this
        exact this
       ·rw[if_neg a0]; exact a2 λz=>by lia
      ·refine⟨by lia,by lia,by lia,by lia,λh z G=>?_⟩
       rw[show f+1-1-h=f-h by simp]
       exact b2 h z G
     ·rw[if_neg b4]; exact b8
theorem Hx{c a:List (Str×Nat)}{g l e d:Int}(K:(a.map (·.1)).Nodup)(D:CU c a g l e d):∀(n:Nat) {f:Int} {b:H8},g<=f->f+n=l->FlS c a g f e d b.2->PY c a g e d f b.1->FlS c a g l e d (DF c a e d n f b).2
 |0,f,b,a7,c7,p,Q=>by
  have:f=l:=by lia
  subst this; exact p
 |n+1,f,b,a7,c7,p,Q=>by
  obtain⟨c0,c1⟩:=LI K D a7 (by lia) p Q
  exact Hx K D n (by lia) (by lia) c0 c1
theorem Ie{c a:List (Str×Nat)}{g l e d:Int}:∀(m:Nat) {b:Eu},FlS c a g l e d b->FlS c a g l e d (GA c a g e m b)
 |0,b,p=>p
 |m+1,(r,E,B),p=>by
  unfold GA
  dsimp only
  by_cases i:B>g/\E>e/\Ao c (B-1)=Ao a (E-1)
  ·rw[if_pos i]
   have N:=p.i0; have g2:=p.i1; have g3:=p.j0; have S:=p.j1; have T:=p.s0
   dsimp only at N g2 g3 S T
   refine Ie m ⟨by show 0<=r+1; lia,by show g<=B-1; omega,by show B-1+(r+1)<=l; lia,by show e<=E-1; omega,by show E-1+(r+1)<=d; lia,λh b6 a8=>?_,λi=>absurd i (by show ¬ r+1=0; lia)⟩
   have c8:h<r+1:=a8
   show Ao c (B-1+h)=Ao a (E-1+h)
   by_cases y:h=0
   ·subst y
    rw[Int.add_zero,Int.add_zero]
    exact i.2.2
   ·have:=p.eq (h-1) (by lia) (by show h-1<r; lia)
    dsimp only at this
    rw[show B+(h-1)=B-1+h by lia,show E+(h-1)=E-1+h by lia] at this
    exact this
  ·rw[if_neg i]; exact p
theorem JD{c a:List (Str×Nat)}{g l e d:Int}:∀(m:Nat) {b:Eu},FlS c a g l e d b->FlS c a g l e d (GD c a l d m b)
 |0,b,p=>p
 |m+1,(r,E,B),p=>by
  unfold GD
  dsimp only
  by_cases i:B+r<l/\E+r<d/\Ao c (B+r)=Ao a (E+r)
  ·rw[if_pos i]
   have N:=p.i0; have g2:=p.i1; have g3:=p.j0; have S:=p.j1; have T:=p.s0
   dsimp only at N g2 g3 S T
   refine JD m ⟨by show 0<=r+1; lia,N,by show B+(r+1)<=l; lia,g3,by show E+(r+1)<=d; lia,λh b6 a8=>?_,λi=>absurd i (by show ¬ r+1=0; lia)⟩
   have c8:h<r+1:=a8
   show Ao c (B+h)=Ao a (E+h)
   by_cases y:h=r
   ·subst y; exact i.2.2
   ·exact p.eq h b6 (by show h<r; lia)
  ·rw[if_neg i]; exact p
noncomputable def Az(c a:List (Str×Nat))(g l e d:Int):Eu:=(DF c a e d (l-g).toNat g (none,0,e,g)).2
noncomputable def Ci(c a:List (Str×Nat))(g e:Int)(b:Eu):Eu:=GA c a g e (b.2.2-g).toNat b
noncomputable def FQ(c a:List (Str×Nat))(l d:Int)(b:Eu):Eu:=GD c a l d (l-b.2.2-b.1).toNat b
noncomputable def Z(c a:List (Str×Nat))(g l e d:Int):Eu:=FQ c a l d (Ci c a g e (Az c a g l e d))
theorem GI{c a:List (Str×Nat)}{g l e d:Int}(K:(a.map (·.1)).Nodup)(D:CU c a g l e d):FlS c a g l e d (Az c a g l e d):=by
 have c4:=D.a1; have c5:=D.b1
 refine Hx K D _ (Int.le_refl _) (by lia) ⟨by show(0:Int)<=0; decide,Int.le_refl _,by show g+0<=g; simp,Int.le_refl _,by show e+0<=d; lia,λh z G=>?_,λ_ x s a5 b0=>by lia⟩ trivial
 have:h<0:=G
 lia
theorem Ds{c a:List (Str×Nat)}{g l e d:Int}(K:(a.map (·.1)).Nodup)(D:CU c a g l e d):FlS c a g l e d (Z c a g l e d):=
 JD _ (Ie _ (GI K D))
end
section
noncomputable def Hq:Option (Int×Nat×Int×Nat)->List DictEntry
 |none=>[]
 |some (G,a1,f1,f9)=>[⟨hashInt G,.int G a1,.int f1 f9⟩]
theorem Gh(b1:Option (Int×Nat×Int×Nat)):Fh (Hq b1):=by
 intro N f8
 match b1,f8 with
 |some (G,a1,f1,f9),f8=>
  have:N=⟨hashInt G,.int G a1,.int f1 f9⟩:=by simpa[Hq] using f8
  subst this
  exact⟨G,a1,rfl,rfl⟩
noncomputable def Fd:Option (Int×Nat×Int×Nat)->Option (Int×Int)
 |none=>none
 |some (G,_,f1,_)=>some (G,f1)
theorem K0{b f:List (Str×Nat)}{i h B:Int}{a7:H8}(k:Cz (Ao b B) f=none):Cc b f i h B a7=(none,a7.2):=by unfold Cc; rw[k]
theorem Kp{b f:List (Str×Nat)}{i h B:Int}{a7:H8}{G:Nat}(k:Cz (Ao b B) f=some G):Cc b f i h B a7 =
  if((G:Nat):Int)<i then(none,a7.2) else if((G:Nat):Int)>=h then(none,a7.2) else match a7.1 with
  |some (h3,d0)=>if((G:Nat):Int)-1=h3 then(some (((G:Nat):Int),d0+1),if d0+1>a7.2.1 then(d0+1,((G:Nat):Int)-(d0+1)+1,B-(d0+1)+1) else a7.2)
   else(some (((G:Nat):Int),1),if(1:Int)>a7.2.1 then(1,((G:Nat):Int)-1+1,B-1+1) else a7.2)
  |none=>(some (((G:Nat):Int),1),if(1:Int)>a7.2.1 then(1,((G:Nat):Int)-1+1,B-1+1) else a7.2):=by unfold Cc; rw[k] <;> rfl
theorem Ho{M:Str}{e9 e3 b3:Nat}{e8:List Bt}:∀{E:List Bt},(∀a6∈E,a6.1≠M)->Cz M (U (E++(M,e9,e3,b3)::e8))=some E.length
 |[],_=>if_pos rfl
 |r::E,k=>by
  show(if r.1=M then some 0 else(Cz M (U (E++(M,e9,e3,b3)::e8))).map (· + 1))=_
  rw[if_neg (k r (.head _)),Ho λa6 e6=>k a6 (.tail _ e6)]
  rfl
theorem IF{M:Str}:∀{P:List Bt},(∀a6∈P,a6.1≠M)->Cz M (U P)=none
 |[],_=>rfl
 |r::P,k=>by
  show(if r.1=M then some 0 else(Cz M (U P)).map (· + 1))=_
  rw[if_neg (k r (.head _)),IF λa6 e6=>k a6 (.tail _ e6)]
  rfl
theorem IA{M G f1:Int}{a1 f9:Nat}:CX M (Hq (some (G,a1,f1,f9)))=if M=G then some (.int f1 f9) else none:=by
 show(if Value.isInt M (.int G a1)=true then _ else _)=_
 by_cases k:M=G
 ·subst k; rw[if_pos (by simp[Value.isInt]),if_pos rfl]
 ·rw[if_neg (by simp[Value.isInt]; exact λa6=>k a6.symm),if_neg k]; rfl
theorem Gf{M:Str}:∀{P:List Bt},(∃r∈P,r.1=M)->∃E e9 e3 b3 e8,P=E++(M,e9,e3,b3)::e8/\∀a6∈E,a6.1≠M:=by
 intro k5
 induction k5 with
 |nil=>
  intro k
  obtain⟨r,l,_⟩:=k; cases l
 |cons r P i1=>
  intro k
  by_cases N:r.1=M
  ·obtain⟨g5,g0,g1,j4⟩:=r
   cases N
   exact⟨[],g0,g1,j4,P,rfl,λa6 e6=>nomatch e6⟩
  ·obtain⟨a6,e6,f8⟩:=k
   have j6:a6∈P:=by
    rcases List.mem_cons.mp e6 with rfl |e6
    ·exact absurd f8 N
    ·exact e6
   obtain⟨E,e9,e3,b3,e8,H,S⟩:=i1 ⟨a6,j6,f8⟩
   refine⟨r::E,e9,e3,b3,e8,by rw[H]; rfl,λk0 i0=>?_⟩
   rcases List.mem_cons.mp i0 with rfl |i0
   ·exact N
   ·exact S k0 i0
section
variable{Q b6 b7 c2 Y c3 c4 c5 c6 c7 c8 b8 b9 c0 c1 d2 K X a9 T b4 b2:Nat}{q p i h:Int}{d6 d7 d8 d9:Nat}{N d1 f2 a2:Nat}{b f:List (Str×Nat)}{e0:List DictEntry}
include O
theorem QB(g:CU b f q p i h):∀(L:Nat) {a d c:Int} {x y z:Nat},Jq b f q p i h a d c->c-q<=L->∀{A:Around},Room 100 A->∀{F:AK} {v:Shared} {R:RP},
  RepF (V w j o u) [(Q,Aw w.params b6 b7 c2 Y c3 c4 c5 c6 c7 c8 b8 b9 c0 c1 d2 K X a9 T b4 b2 q p i h d6 d7 d8 d9 a d c x y z e0 N),(K,I (J b) d1),(X,I (J f) f2),(T,AR a2),(a2,Ad w.params)] [] F v ->
  (∀e (d3 d4 d5:Nat),RepF (V w j o u) [(Q,Aw w.params b6 b7 c2 Y c3 c4 c5 c6 c7 c8 b8 b9 c0 c1 d2 K X a9 T b4 b2 q p i h d6 d7 d8 d9 (GA b f q i L (a,d,c)).1 (GA b f q i L (a,d,c)).2.1 (GA b f q i L (a,d,c)).2.2 d3 d4 d5 e0 N),(K,I (J b) d1),(X,I (J f) f2),(T,AR a2),(a2,Ad w.params)] [] F e->R (.ok .next) e) ->
  codeAny (model pw w) A (DA 8 Q) R v:=by
 have j5:200<=sizeLine:=by decide
 have a0:b.length<=sizeLine:=Nat.le_trans g.s1 (by decide)
 have e7:f.length<=sizeLine:=Nat.le_trans g.s2 (by decide)
 have g6:=g.a0; have g7:=g.a1; have g8:=g.a2; have g9:=g.b0; have h0:=g.b1; have h1:=g.b2
 intro L
 induction L with
 |zero=>
  intro a d c x y z t h8 A n F v R l s
  have:=t.i0
  exact Rf O (by lia) n l λe m=>s e x y z m
 |succ L i1=>
  intro a d c x y z t h8 A n F v R l s
  have h4:=t.i0; have g2:=t.i1; have g3:=t.j0; have h5:=t.j1; have h6:=t.s0
  have f6:¬ (c>q/\d>i/\Ao b (c-1)=Ao f (d-1))->GA b f q i (L+1) (a,d,c)=(a,d,c):=λk=>if_neg k
  have i3:(c>q/\d>i/\Ao b (c-1)=Ao f (d-1))->GA b f q i (L+1) (a,d,c)=GA b f q i L (a+1,d-1,c-1):=λk=>if_pos k
  by_cases H:c>q
  ·by_cases S:d>i
   ·cases c9:((As b (c-1)).1.cps.toList==(As f (d-1)).1.cps.toList) with
    |false=>exact PT O H S (by lia) (by lia) (by lia) (by lia) a0 e7 c9 n l λe m=>s e x y z (by rw[f6 λk=>H5 c9 k.2.2]; exact m)
    |true=>
     refine Q0 O H S (by lia) (by lia) (by lia) (by lia) a0 e7 c9 n l λe d3 d4 d5 m=>i1 ?_ (by lia) n m λi2 g5 g0 g1 h9=>s i2 g5 g0 g1 (by rw[i3 ⟨H,S,FX c9⟩]; exact h9)
     refine⟨by lia,by lia,by lia,by lia,by lia,λa1 i7 j7=>?_,λk=>by lia⟩
     by_cases N:a1=0
     ·subst N
      rw[Int.add_zero,Int.add_zero]
      exact FX c9
     ·have:=t.eq (a1-1) (by lia) (by lia)
      rw[show c+(a1-1)=c-1+a1 by lia,show d+(a1-1)=d-1+a1 by lia] at this
      exact this
   ·exact SG O H S n l λe m=>s e x y z (by rw[f6 λk=>S k.2.1]; exact m)
  ·exact Rf O H n l λe m=>s e x y z (by rw[f6 λk=>H k.1]; exact m)
theorem Qx(g:CU b f q p i h):∀(L:Nat) {a d c:Int} {x y z:Nat},Jq b f q p i h a d c->p-c-a<=L->∀{A:Around},Room 100 A->∀{F:AK} {v:Shared} {R:RP},
  RepF (V w j o u) [(Q,Aw w.params b6 b7 c2 Y c3 c4 c5 c6 c7 c8 b8 b9 c0 c1 d2 K X a9 T b4 b2 q p i h d6 d7 d8 d9 a d c x y z e0 N),(K,I (J b) d1),(X,I (J f) f2),(T,AR a2),(a2,Ad w.params)] [] F v ->
  (∀e (d3 d4 d5:Nat),RepF (V w j o u) [(Q,Aw w.params b6 b7 c2 Y c3 c4 c5 c6 c7 c8 b8 b9 c0 c1 d2 K X a9 T b4 b2 q p i h d6 d7 d8 d9 (GD b f p h L (a,d,c)).1 (GD b f p h L (a,d,c)).2.1 (GD b f p h L (a,d,c)).2.2 d3 d4 d5 e0 N),(K,I (J b) d1),(X,I (J f) f2),(T,AR a2),(a2,Ad w.params)] [] F e->R (.ok .next) e) ->
  codeAny (model pw w) A (DA 9 Q) R v:=by
 have j5:200<=sizeLine:=by decide
 have a0:b.length<=sizeLine:=Nat.le_trans g.s1 (by decide)
 have e7:f.length<=sizeLine:=Nat.le_trans g.s2 (by decide)
 have g6:=g.a0; have g7:=g.a1; have g8:=g.a2; have g9:=g.b0; have h0:=g.b1; have h1:=g.b2
 intro L
 induction L with
 |zero=>
  intro a d c x y z t h8 A n F v R l s
  exact Re O (by lia) n l λe m=>s e x y z m
 |succ L i1=>
  intro a d c x y z t h8 A n F v R l s
  have h4:=t.i0; have g2:=t.i1; have g3:=t.j0; have h5:=t.j1; have h6:=t.s0
  have f6:¬ (c+a<p/\d+a<h/\Ao b (c+a)=Ao f (d+a))->GD b f p h (L+1) (a,d,c)=(a,d,c):=λk=>if_neg k
  have i3:(c+a<p/\d+a<h/\Ao b (c+a)=Ao f (d+a))->GD b f p h (L+1) (a,d,c)=GD b f p h L (a+1,d,c):=λk=>if_pos k
  by_cases H:c+a<p
  ·by_cases S:d+a<h
   ·cases c9:((As b (c+a)).1.cps.toList==(As f (d+a)).1.cps.toList) with
    |false=>exact QD O H S (by lia) (by exact Int.le_trans ‹_› ‹_›) (by lia) (by exact Int.le_trans ‹_› ‹_›) a0 e7 c9 n l λe m=>s e x y z (by rw[f6 λk=>H5 c9 k.2.2]; exact m)
    |true=>
     refine QQ O H S (by lia) (by exact Int.le_trans ‹_› ‹_›) (by lia) (by exact Int.le_trans ‹_› ‹_›) a0 e7 c9 n l λe d3 d4 d5 m=>i1 ?_ (by lia) n m λi2 g5 g0 g1 h9=>s i2 g5 g0 g1 (by rw[i3 ⟨H,S,FX c9⟩]; exact h9)
     refine⟨by lia,by omega,by lia,by omega,by lia,λa1 i7 j7=>?_,λk=>by lia⟩
     by_cases N:a1=a
     ·subst N; exact FX c9
     ·exact t.eq a1 i7 (by lia)
   ·exact S9 O H S n l λe m=>s e x y z (by rw[f6 λk=>S k.2.1]; exact m)
  ·exact Re O H n l λe m=>s e x y z (by rw[f6 λk=>H k.1]; exact m)
theorem OL(g:CU b f q p i h){a d c:Int}{x y z:Nat}(t:Jq b f q p i h a d c)(n:Room 100 A)(l:RepF (V w j o u) [(Q,Aw w.params b6 b7 c2 Y c3 c4 c5 c6 c7 c8 b8 b9 c0 c1 d2 K X a9 T b4 b2 q p i h d6 d7 d8 d9 a d c x y z e0 N),(K,I (J b) d1),(X,I (J f) f2),(T,AR a2),(a2,Ad w.params)] [] F v)(s:∀e,RepF (V w j o u) [(Q,Aw w.params b6 b7 c2 Y c3 c4 c5 c6 c7 c8 b8 b9 c0 c1 d2 K X a9 T b4 b2 q p i h d6 d7 d8 d9 a d c x y z e0 N),(K,I (J b) d1),(X,I (J f) f2),(T,AR a2),(a2,Ad w.params)] [] F e->R (.ok .next) e):codeAny (model pw w) A (DA 10 Q) R v:=by
 have a0:b.length<=sizeLine:=Nat.le_trans g.s1 (by decide)
 have e7:f.length<=sizeLine:=Nat.le_trans g.s2 (by decide)
 have g6:=g.a0; have g7:=g.a1; have g8:=g.a2; have g9:=g.b0; have h0:=g.b1; have h1:=g.b2
 have h4:=t.i0; have g2:=t.i1; have g3:=t.j0; have h5:=t.j1; have h6:=t.s0
 by_cases H:c>q
 ·by_cases S:d>i
  ·exact QX O H S (by lia) (by lia) (by lia) (by lia) a0 e7 n l s
  ·exact PW O H S n l s
 ·exact Sm O H n l s
theorem OI(g:CU b f q p i h){a d c:Int}{x y z:Nat}(t:Jq b f q p i h a d c)(n:Room 100 A)(l:RepF (V w j o u) [(Q,Aw w.params b6 b7 c2 Y c3 c4 c5 c6 c7 c8 b8 b9 c0 c1 d2 K X a9 T b4 b2 q p i h d6 d7 d8 d9 a d c x y z e0 N),(K,I (J b) d1),(X,I (J f) f2),(T,AR a2),(a2,Ad w.params)] [] F v)(s:∀e,RepF (V w j o u) [(Q,Aw w.params b6 b7 c2 Y c3 c4 c5 c6 c7 c8 b8 b9 c0 c1 d2 K X a9 T b4 b2 q p i h d6 d7 d8 d9 a d c x y z e0 N),(K,I (J b) d1),(X,I (J f) f2),(T,AR a2),(a2,Ad w.params)] [] F e->R (.ok .next) e):codeAny (model pw w) A (DA 11 Q) R v:=by
 have a0:b.length<=sizeLine:=Nat.le_trans g.s1 (by decide)
 have e7:f.length<=sizeLine:=Nat.le_trans g.s2 (by decide)
 have g6:=g.a0; have g7:=g.a1; have g8:=g.a2; have g9:=g.b0; have h0:=g.b1; have h1:=g.b2
 have h4:=t.i0; have g2:=t.i1; have g3:=t.j0; have h5:=t.j1; have h6:=t.s0
 by_cases H:c+a<p
 ·by_cases S:d+a<h
  ·exact QC O H S (by lia) (by exact Int.le_trans ‹_› ‹_›) (by lia) (by exact Int.le_trans ‹_› ‹_›) a0 e7 n l s
  ·exact QU O H S n l s
 ·exact Su O H n l s
end
section
variable{Q e1 b6 b7 c2 Y c3 c4 c5 c6 c7 c8 b8 b9 c0 c1 d2 K X a9 T b2:Nat}{q p i h:Int}{d6 d7 d8 d9:Nat}{d1 j2:Nat}{b:List (Str×Nat)}{P:List Bt}
include O
theorem Og{B e2:Int}(e5:e2<=0)(n:Room 200 A){i4:An}(l:RepF (V w j o u) ([(e1,Bi B e2)]++i4) [] F v)(s:∀e,RepF (V w j o u) ([(e1,Bi B e2)]++i4) [] F e->R (.ok .next) e):codeAny (model pw w) A (CY Q e1) R v:=by
 have l:=RepF.out l (List.Perm.refl _)
 exact Ck O n _ 60 0x1041080 [(λk4=>MJ e1 B e2,[0],[])] [0] (Bo (Lz O e5)) (λ_=>[(e1,Bi B e2)]) l
  λk1 e m=>s e (RepF.into m)
theorem MX(g:CU b (U P) q p i h){b4 j1 x y z N:Nat}{B e2 a d c:Int}{e0:List DictEntry}{b1:Option (Int×Nat×Int×Nat)}(e5:0<e2)(k3:B+e2=p)(k2:q<=B)(f4:Sh w.params e0)(n:Room 200 A)(l:RepF (V w j o u) ([(Q,Aw w.params b6 b7 c2 Y c3 c4 c5 c6 c7 c8 b8 b9 c0 c1 d2 K X a9 T b4 b2 q p i h d6 d7 d8 d9 a d c x y z e0 N),(K,I (J b) d1),(a9,A5 (bE w.params P) j2),(b4,A5 (Hq b1) j1),(b2,I [] 0),(e1,Bi B e2)]++bP 0 P) [] F v)(s:∀e (a3 j8 d3 d4 d5 a5:Nat) a4 j0 (g4:H8),g4=Cc b (U P) i h B (Fd b1,a,d,c)->Fd j0=g4.1->Sh w.params a4 ->
   RepF (V w j o u) ([(Q,Aw w.params b6 b7 c2 Y c3 c4 c5 c6 c7 c8 b8 b9 c0 c1 d2 K X a9 T a3 b2 q p i h d6 d7 d8 d9 g4.2.1 g4.2.2.1 g4.2.2.2 d3 d4 d5 a4 a5),(K,I (J b) d1),(a9,A5 (bE w.params P) j2),(a3,A5 (Hq j0) j8),(b2,I [] 0),(e1,Bi (B+1) (e2-1)),(b4,A5 (Hq b1) j1)]++bP 0 P) [] F e->codeAny (model pw w) A (CY Q e1) R e) :
  codeAny (model pw w) A (CY Q e1) R v:=by
 have a0:b.length<=sizeLine:=Nat.le_trans g.s1 (by decide)
 have g6:=g.a0; have g7:=g.a1; have g8:=g.a2; have g9:=g.b0; have h0:=g.b1; have h1:=g.b2
 by_cases i8:∃r∈P,r.1=Ao b B
 ·obtain⟨E,e9,e3,b3,e8,rfl,f5⟩:=Gf i8
  have h7:Cz (Ao b B) (U (E++(Ao b B,e9,e3,b3)::e8))=some E.length:=Ho f5
  have b5:=Kp (a7:=(Fd b1,a,d,c)) (i:=i) (h:=h) h7
  dsimp only at b5
  by_cases f0:((E.length:Nat):Int)<i
  ·rw[if_pos f0] at b5
   exact Vv O f4 e5 (by lia) (by lia) a0 f5 f0 n l λe a3 a4 a5 b0 m=>s e a3 0 x y z a5 a4 none _ b5.symm rfl b0 m
  ·rw[if_neg f0] at b5
   by_cases f3:((E.length:Nat):Int)>=h
   ·rw[if_pos f3] at b5
    exact VC O f4 e5 (by lia) (by lia) a0 f5 f0 f3 n l λe a3 a4 a5 b0 m=>s e a3 0 x y z a5 a4 none _ b5.symm rfl b0 m
   ·rw[if_neg f3] at b5
    have D:CX (((E.length:Nat):Int)-1) (Hq b1)=none->Cc b (U (E++(Ao b B,e9,e3,b3)::e8)) i h B (Fd b1,a,d,c)=(some (((E.length:Nat):Int),1),if(1:Int)>a then(1,((E.length:Nat):Int)-1+1,B-1+1) else(a,d,c))->codeAny (model pw w) A (CY Q e1) R v:=λi5 a8=>by
     by_cases e4:(1:Int)>a
     ·rw[if_pos e4] at a8
      exact UE O f4 e5 (by lia) (by lia) a0 f5 f0 f3 (Gh b1) i5 e4 n l λe a3 a4 a5 d3 d4 d5 f7 b0 m=>s e a3 1 d3 d4 d5 a5 a4 (some (((E.length:Nat):Int),b3,1,f7)) _ a8.symm rfl b0 m
     ·rw[if_neg e4] at a8
      exact Uz O f4 e5 (by lia) (by lia) a0 f5 f0 f3 (Gh b1) i5 e4 n l λe a3 a4 a5 f7 b0 m=>s e a3 1 x y z a5 a4 (some (((E.length:Nat):Int),b3,1,f7)) _ a8.symm rfl b0 m
    rcases b1 with _ |⟨h3,j9,d0,j3⟩
    ·exact D rfl b5
    ·by_cases h2:((E.length:Nat):Int)-1=h3
     ·have i6:CX (((E.length:Nat):Int)-1) (Hq (some (h3,j9,d0,j3)))=some (.int d0 j3):=by rw[IA,if_pos h2]
      have a8:=b5
      dsimp only[Fd] at a8
      rw[if_pos h2] at a8
      by_cases e4:d0+1>a
      ·rw[if_pos e4] at a8
       exact Tr O f4 e5 (by lia) (by lia) a0 f5 f0 f3 (Gh _) i6 e4 n l λe a3 a4 a5 d3 d4 d5 f7 b0 m=>s e a3 1 d3 d4 d5 a5 a4 (some (((E.length:Nat):Int),b3,d0+1,f7)) _ a8.symm rfl b0 m
      ·rw[if_neg e4] at a8
       exact TI O f4 e5 (by lia) (by lia) a0 f5 f0 f3 (Gh _) i6 e4 n l λe a3 a4 a5 f7 b0 m=>s e a3 1 x y z a5 a4 (some (((E.length:Nat):Int),b3,d0+1,f7)) _ a8.symm rfl b0 m
     ·refine D (by rw[IA,if_neg h2]) ?_
      have a8:=b5
      dsimp only[Fd] at a8
      rw[if_neg h2] at a8
      exact a8
 ·have i9:∀r∈P,r.1≠Ao b B:=λr l k=>i8 ⟨r,l,k⟩
  have h7:Cz (Ao b B) (U P)=none:=IF i9
  have b5:=K0 (a7:=(Fd b1,a,d,c)) (i:=i) (h:=h) h7
  exact Vg O f4 e5 (by lia) (by lia) a0 i9 n l λe a3 a4 a5 b0 m=>s e a3 0 x y z a5 a4 none _ b5.symm rfl b0 m
end
end
section
noncomputable def B8(b0:Nat):Int:=if b0 % 2=0 then((b0 / 2:Nat):Int) else -((b0 / 2+1:Nat):Int)
theorem B9(d3:Int):∃b0,B8 b0=d3:=by
 by_cases e5:0<=d3
 ·refine⟨2*d3.toNat,?_⟩
  unfold B8
  rw[if_pos (by simp)]
  lia
 ·refine⟨2*(-d3-1).toNat+1,?_⟩
  unfold B8
  rw[if_neg (by simp)]
  omega
noncomputable def U2(m:Params):List Nat->List DictEntry
 |[c4,c5,c6,c7,d1,c8,d0]=>QV m c4 c5 c6 (B8 c7) d1 c8 d0
 |[c4,c5,c6,d8,c7,d1,c8,d0,d9,e1]=>Cs m c4 c5 c6 d8 (B8 c7) d1 c8 d0 (B8 d9) e1
 |[c4,c5,c6,d8,f0,c7,d1,c8,d0,d9,e1,g4,g7]=>E0 m c4 c5 c6 d8 f0 (B8 c7) d1 c8 d0 (B8 d9) e1 (B8 g4) g7
 |_=>[]
noncomputable def Lr(m:Params)(b0:Nat):List DictEntry:=U2 m (GG b0)
theorem R5{m:Params}{a7:List DictEntry}(e5:Sh m a7):∃b0,Lr m b0=a7:=by
 have:∃g5,U2 m g5=a7:=by
  cases e5 with
  |s0=>exact⟨[],rfl⟩
  |s1 c4 c5 c6 c7 d1 c8 d0=>
   obtain⟨d7,rfl⟩:=B9 c7
   exact⟨[c4,c5,c6,d7,d1,c8,d0],rfl⟩
  |s2 c4 c5 c6 d8 c7 d1 c8 d0 d9 e1=>
   obtain⟨d7,rfl⟩:=B9 c7
   obtain⟨e4,rfl⟩:=B9 d9
   exact⟨[c4,c5,c6,d8,d7,d1,c8,d0,e4,e1],rfl⟩
  |s3 c4 c5 c6 d8 f0 c7 d1 c8 d0 d9 e1 g4 g7=>
   obtain⟨d7,rfl⟩:=B9 c7
   obtain⟨e4,rfl⟩:=B9 d9
   obtain⟨e9,rfl⟩:=B9 g4
   exact⟨[c4,c5,c6,d8,f0,d7,d1,c8,d0,e4,e1,e9,g7],rfl⟩
 obtain⟨g5,r⟩:=this
 exact⟨Di g5,by unfold Lr; rw[C6]; exact r⟩
section
variable{y c2 z B K Y L M N P Q S D E G H X g t i s l:Nat}{a b c f:Int}{a0 a1 a2 a3:Nat}{T c9:Nat}{e:List (Str×Nat)}{h:List Bt}
include O
theorem PX(b3:CU e (U h) a b c f):∀(e2:Nat) {k e8 a4 a5 a6 r:Nat} {c0 b0 p q n:Int} {a7:List DictEntry} {e0:Option (Int×Nat×Int×Nat)},b0=(e2:Nat)->c0+b0=b->a<=c0->Sh w.params a7 ->
  ∀{A:Around},Room 200 A->∀{F:AK} {v:Shared} {R:RP},
  RepF (V w j o u) ([(y,Aw w.params z B K Y L M N P Q S D E G H X g t i s k l a b c f a0 a1 a2 a3 p q n a4 a5 a6 a7 r),(g,I (J e) T),(i,A5 (bE w.params h) c9),(k,A5 (Hq e0) e8),(l,I [] 0),(c2,Bi c0 b0)]++bP 0 h) [] F v ->
  (∀a8 (d2 b4 b5 b6 d4:Nat) d5 (c3:H8),c3=DF e (U h) c f e2 c0 (Fd e0,p,q,n)->Sh w.params d5 ->
   RepF (V w j o u) ([(y,Aw w.params z B K Y L M N P Q S D E G H X g t i s d2 l a b c f a0 a1 a2 a3 c3.2.1 c3.2.2.1 c3.2.2.2 b4 b5 b6 d5 d4),(g,I (J e) T),(i,A5 (bE w.params h) c9),(l,I [] 0),(c2,Bi b 0)]++bP 0 h) [] F a8->R (.ok .next) a8) ->
  codeAny (model pw w) A (CY y c2) R v:=by
 intro e2
 induction e2 with
 |zero=>
  intro k e8 a4 a5 a6 r c0 b0 p q n a7 e0 h1 h0 g9 g0 A b2 F v R b8 b9
  have f1:b0=0:=h1
  have f2:c0=b:=by lia
  subst f2 f1
  refine Og O (Int.le_refl _) b2 (RepF.ord [5] b8 rfl) λa8 a9=>b9 a8 k a4 a5 a6 r a7 _ rfl g0 ?_
  have d3:=RepF.ord [1,1,1,2,0] a9 rfl
  refine RepF.sub d3 ?_
  exact List.Sublist.append_left (List.sublist_cons_self _ _) [_,_,_,_,_]
 |succ e2 h4=>
  intro k e8 a4 a5 a6 r c0 b0 p q n a7 e0 h1 h0 g9 g0 A b2 F v R b8 b9
  refine MX O b3 (by lia) h0 g9 g0 b2 b8 λa8 d2 g3 b4 b5 b6 d4 d5 g1 c3 f9 f5 e6 a9=>?_
  refine h4 (k:=d2) (e8:=g3) (a4:=b4) (a5:=b5) (a6:=b6) (r:=d4) (c0:=c0+1) (b0:=b0-1) (p:=c3.2.1) (q:=c3.2.2.1) (n:=c3.2.2.2) (e0:=g1) (by lia) (by lia) (by lia) e6 b2 (F:=F) ?_ λs2 g2 d7 e4 e9 f3 Cs g6 f6 f8 f7=>b9 s2 g2 d7 e4 e9 f3 Cs g6 ?_ f8 f7
  ·have d3:=RepF.ord [0,0,0,0,0,0] a9 rfl
   refine RepF.sub d3 ?_
   exact List.Sublist.append_left (List.sublist_cons_self _ _) [_,_,_,_,_,_]
  ·rw[f6,f5]
   show _=DF e (U h) c f e2 (c0+1) (Cc e (U h) c f c0 (Fd e0,p,q,n))
   rw[<-f9]
end
noncomputable def TX(m:Params)(y c2 z B K Y L M N P Q S D E G H X g t i s k l:Nat)(a b c f:Int)(a0 a1 a2 a3 a4 a5 a6 r T c9:Nat)(e:List (Str×Nat))(h:List Bt):Spec:=
 {code:=CY y c2,nf:=6,d:=200,pool:=true,pre:=bP 0 h,post:=λ_=>bP 0 h,res:=λ_=>.ok .next,
  fp:=[(y,Aw m z B K Y L M N P Q S D E G H X g t i s k l a b c f a0 a1 a2 a3 0 c a a4 a5 a6 [] r),(g,I (J e) T),(i,A5 (bE m h) c9),(k,A5 [] 0),(l,I [] 0),(c2,Bi a (I4 a b))],
  upd:=λb7=>[Aw m z B K Y L M N P Q S D E G H X g t i s (W 0 b7 0) l a b c f a0 a1 a2 a3 (Az e (U h) a b c f).1 (Az e (U h) a b c f).2.1 (Az e (U h) a b c f).2.2 (W 0 b7 1) (W 0 b7 2) (W 0 b7 3) (Lr m (W 0 b7 4)) (W 0 b7 5),
   I (J e) T,A5 (bE m h) c9,A5 [] 0,I [] 0,Bi b 0]}
noncomputable def UJ(m:Params)(y z B K Y L M N P Q S D E G H X g t i s k l:Nat)(a b c f:Int)(a0 a1 a2 a3:Nat)(p q n:Int)(a4 a5 a6:Nat)(a7:List DictEntry)(r T c1 b1:Nat)(e x:List (Str×Nat)):Spec:=
 {code:=DA 8 y,nf:=3,d:=100,res:=λ_=>.ok .next,
  fp:=[(y,Aw m z B K Y L M N P Q S D E G H X g t i s k l a b c f a0 a1 a2 a3 p q n a4 a5 a6 a7 r),(g,I (J e) T),(t,I (J x) c1),(s,AR b1),(b1,Ad m)],
  upd:=λb7=>[Aw m z B K Y L M N P Q S D E G H X g t i s k l a b c f a0 a1 a2 a3 (Ci e x a c (p,q,n)).1 (Ci e x a c (p,q,n)).2.1 (Ci e x a c (p,q,n)).2.2 (W 0 b7 0) (W 0 b7 1) (W 0 b7 2) a7 r,
   I (J e) T,I (J x) c1,AR b1,Ad m]}
noncomputable def V5(m:Params)(y z B K Y L M N P Q S D E G H X g t i s k l:Nat)(a b c f:Int)(a0 a1 a2 a3:Nat)(p q n:Int)(a4 a5 a6:Nat)(a7:List DictEntry)(r T c1 b1:Nat)(e x:List (Str×Nat)):Spec:=
 {code:=DA 9 y,nf:=3,d:=100,res:=λ_=>.ok .next,
  fp:=[(y,Aw m z B K Y L M N P Q S D E G H X g t i s k l a b c f a0 a1 a2 a3 p q n a4 a5 a6 a7 r),(g,I (J e) T),(t,I (J x) c1),(s,AR b1),(b1,Ad m)],
  upd:=λb7=>[Aw m z B K Y L M N P Q S D E G H X g t i s k l a b c f a0 a1 a2 a3 (FQ e x b f (p,q,n)).1 (FQ e x b f (p,q,n)).2.1 (FQ e x b f (p,q,n)).2.2 (W 0 b7 0) (W 0 b7 1) (W 0 b7 2) a7 r,
   I (J e) T,I (J x) c1,AR b1,Ad m]}
noncomputable def TR(c0:Nat)(m:Params)(y z B K Y L M N P Q S D E G H X g t i s k l:Nat)(a b c f:Int)(a0 a1 a2 a3:Nat)(p q n:Int)(a4 a5 a6:Nat)(a7:List DictEntry)(r T c1 b1:Nat)(e x:List (Str×Nat)):Spec:=
 {code:=DA c0 y,d:=100,res:=λ_=>.ok .next,
  fp:=[(y,Aw m z B K Y L M N P Q S D E G H X g t i s k l a b c f a0 a1 a2 a3 p q n a4 a5 a6 a7 r),(g,I (J e) T),(t,I (J x) c1),(s,AR b1),(b1,Ad m)],
  upd:=λb7=>[Aw m z B K Y L M N P Q S D E G H X g t i s k l a b c f a0 a1 a2 a3 p q n a4 a5 a6 a7 r,I (J e) T,I (J x) c1,AR b1,Ad m]}
noncomputable def Rt:=TR 10
noncomputable def Ru:=TR 11
section
variable{y c2 z B K Y L M N P Q S D E G H X g t i s k l:Nat}{a b c f:Int}{a0 a1 a2 a3 a4 a5 a6 r:Nat}{T c1 c9 b1:Nat}{e x:List (Str×Nat)}{h:List Bt}{p q n:Int}{a7:List DictEntry}
include O
theorem Q2(b3:CU e (U h) a b c f):(TX w.params y c2 z B K Y L M N P Q S D E G H X g t i s k l a b c f a0 a1 a2 a3 a4 a5 a6 r T c9 e h).Ok (V w j o u):=Spec.of_code (λ_=>rfl) (λ_=>rfl) λA b2 F e3 R b8 b9=>by
 have h8:=b3.a0; have h9:=b3.a1; have i0:=b3.b1
 have g8:∀a8 (d2 b4 b5 b6 d4:Nat) d5 (s3:Eu),s3=Az e (U h) a b c f->Sh w.params d5->RepF (V w j o u) ([(y,Aw w.params z B K Y L M N P Q S D E G H X g t i s d2 l a b c f a0 a1 a2 a3 s3.1 s3.2.1 s3.2.2 b4 b5 b6 d5 d4),(g,I (J e) T),(i,A5 (bE w.params h) c9),(k,A5 [] 0),(l,I [] 0),(c2,Bi b 0)]++bP 0 h) [] F a8->R (.ok .next) a8:=λa8 d2 b4 b5 b6 d4 d5 s3 h3 e6 a9=>by
  obtain⟨h5,h2⟩:=R5 e6
  refine b9 [d2,b4,b5,b6,h5,d4] a8 rfl ?_
  rw[h3,<-h2] at a9
  exact a9
 by_cases e5:a<b
 ·have f4:I4 a b=b-a:=if_pos e5
  have e7:RepF (V w j o u) ([(y,Aw w.params z B K Y L M N P Q S D E G H X g t i s k l a b c f a0 a1 a2 a3 0 c a a4 a5 a6 [] r),(g,I (J e) T),(i,A5 (bE w.params h) c9),(k,A5 (Hq none) 0),(l,I [] 0),(c2,Bi a (b-a))]++bP 0 h) [] F e3:=by rw[<-f4]; exact b8
  refine MX O b3 (by lia) (by lia) (Int.le_refl _) .s0 (b1:=none) b2 e7 λa8 d2 g3 b4 b5 b6 d4 d5 g1 c3 f9 f5 e6 a9=>?_
  have d3:=RepF.ord [6] a9 rfl
  have h7:=RepF.out (F:=F) d3 (a8:=[(k,A5 [] 0)]) (c3:=[(y,Aw w.params z B K Y L M N P Q S D E G H X g t i s d2 l a b c f a0 a1 a2 a3 c3.2.1 c3.2.2.1 c3.2.2.2 b4 b5 b6 d5 d4),(g,I (J e) T),(i,A5 (bE w.params h) c9),(d2,A5 (Hq g1) g3),(l,I [] 0),(c2,Bi (a+1) (b-a-1))]++bP 0 h) (List.perm_append_comm (l₁:=[_]) (l₂:=_))
  refine PX O b3 (b-a-1).toNat (by omega) (by lia) (by lia) e6 b2 h7 λs2 g2 b4 b5 b6 f3 Cs g6 f6 f8 f7=>g8 s2 g2 b4 b5 b6 f3 Cs g6.2 ?_ f8 ?_
  ·rw[f6,f5]
   show _=(DF e (U h) c f (b-a).toNat a (none,0,c,a)).2
   have f2:(b-a).toNat=(b-a-1).toNat+1:=by lia
   rw[f2]
   show _=(DF e (U h) c f (b-a-1).toNat (a+1) (Cc e (U h) c f a (Fd none,0,c,a))).2
   rw[<-f9]
  ·have h6:=RepF.into f7
   refine RepF.perm h6 ?_
   refine List.Perm.trans ?_ (List.perm_append_comm (l₁:=[_]) (l₂:=_))
   exact(List.perm_middle (l₁:=[_,_,_]) (l₂:=[_,_]++bP 0 h))
 ·have f1:a=b:=by lia
  have f4:I4 a b=0:=if_neg e5
  subst f1
  have e7:RepF (V w j o u) ([(y,Aw w.params z B K Y L M N P Q S D E G H X g t i s k l a a c f a0 a1 a2 a3 0 c a a4 a5 a6 [] r),(g,I (J e) T),(i,A5 (bE w.params h) c9),(k,A5 [] 0),(l,I [] 0),(c2,Bi a (I4 a a))]++bP 0 h) [] F e3:=b8
  rw[f4] at e7
  refine Og O (Int.le_refl _) b2 (RepF.ord [5] e7 rfl) λa8 a9=>g8 a8 k a4 a5 a6 r [] (0,c,a) ?_ .s0 (RepF.ord [1,1,1,1,1,0] a9 rfl)
  unfold Az
  rw[Int.sub_self]; rfl
theorem Qg(b3:CU e x a b c f)(d6:Jq e x a b c f p q n):(UJ w.params y z B K Y L M N P Q S D E G H X g t i s k l a b c f a0 a1 a2 a3 p q n a4 a5 a6 a7 r T c1 b1 e x).Ok (V w j o u):=Spec.of_code (λ_=>rfl) (λ_=>rfl) λA b2 F e3 R b8 b9=>
 QB O b3 (n-a).toNat d6 (by lia) b2 b8 λa8 b4 b5 b6 a9=>b9 [b4,b5,b6] a8 rfl a9
theorem Qk(b3:CU e x a b c f)(d6:Jq e x a b c f p q n):(V5 w.params y z B K Y L M N P Q S D E G H X g t i s k l a b c f a0 a1 a2 a3 p q n a4 a5 a6 a7 r T c1 b1 e x).Ok (V w j o u):=Spec.of_code (λ_=>rfl) (λ_=>rfl) λA b2 F e3 R b8 b9=>
 Qx O b3 (b-n-p).toNat d6 (by lia) b2 b8 λa8 b4 b5 b6 a9=>b9 [b4,b5,b6] a8 rfl a9
theorem NS(b3:CU e x a b c f)(d6:Jq e x a b c f p q n):(Rt w.params y z B K Y L M N P Q S D E G H X g t i s k l a b c f a0 a1 a2 a3 p q n a4 a5 a6 a7 r T c1 b1 e x).Ok (V w j o u):=Spec.of_code (λ_=>rfl) (λ_=>rfl) λA b2 F e3 R b8 b9=>
 OL O b3 d6 b2 b8 λa8 a9=>b9 [] a8 rfl a9
theorem Pp(b3:CU e x a b c f)(d6:Jq e x a b c f p q n):(Ru w.params y z B K Y L M N P Q S D E G H X g t i s k l a b c f a0 a1 a2 a3 p q n a4 a5 a6 a7 r T c1 b1 e x).Ok (V w j o u):=Spec.of_code (λ_=>rfl) (λ_=>rfl) λA b2 F e3 R b8 b9=>
 OI O b3 d6 b2 b8 λa8 a9=>b9 [] a8 rfl a9
end
end
section
noncomputable def Lu(e:Nat)(b:Value)(a:List Value):Spec:=
 {code:=.builtin "proto.collect" ⟨[.ref e],[]⟩,fp:=[(e,Aa (b::a))],upd:=λ_=>[Aa (b::a)],nf:=1,new:=λg=>[(W 0 g 0,I (b::a) 1)],res:=λg=>.ok (.ret (.ref (W 0 g 0))),d:=30}
theorem IE{h:Cx}(O:h.Ok){e:Nat}{b:Value}{a:List Value}(n:a.length<sizeLine):(Lu e b a).Ok h:=Spec.of_code (λ_=>rfl) (λ_=>rfl) λA t s c R i l=>by
 have m:=RepF.get0 i
 refine codeAny_builtin F.entry_proto_collect ?_
 rw[Around.under_plainId F.plain_proto_collect _]
 show wpAny _ A.in1 (newList []>>=λp=>again (.builtin "list.__iadd__" ⟨[p,.ref e],[]⟩)) _ _ c
 refine wpAny_bind (wpAny_newObj_type ?_)
 refine wpAny_pure ⟨plainId_quiet F.plain_list_iadd _,codeAny_builtin F.entry_list_iadd ?_⟩
 rw[Around.under_plainId F.plain_list_iadd _]
 show wpAny _ A.in1 (Builtin.List.listExtendWith (.ref c.heap.objs.size) (.ref e) (.ref c.heap.objs.size)) _ _ _
 refine wpAny_extend_seq (hsz:=n) (A:=A) (R:=R) (items:=⟨b::a⟩) (s:={c with heap:=c.heap.push {cls:=.type "list",data:=.seq ([]:List Value).toArray}}) _ e _ 0 (.inr rfl) (Heap.get?_push_size _ rfl) (Heap.get?_push_of_some _ m) rfl rfl ?_
 refine l [c.heap.objs.size] _ rfl ?_
 have q:=RepF.push i (o:=I [] 0) rfl
 have r:=RepF.ord [1,0] q rfl
 have k:=RepF.upd0 O r (x:=Obj.mapSeq (· ++ ⟨b::a⟩)) rfl
 rw[Cu [] 0 _ (b::a) (by simp) (by simp)] at k
 exact RepF.ord [1,0] k rfl
end
section
noncomputable def Aj(a4:Nat)(a8 a9 b0:Int)(a5 a6 a7:Nat):Obj:=⟨.ref 135,some a4,.seq ⟨[.int a8 a5,.int a9 a6,.int b0 a7]⟩ 0,⟨[]⟩⟩
noncomputable def EH(B:Params)(r G l m q x k p H:Nat)(K:Nat->Nat)(E:Nat)(c:List (Str×Nat))(b:List Bt)(a1 a3:Value)(e g f h:Int)(n s t y:Nat):Spec:=
 {code:=.call (.ref 196) ⟨[.ref r,.int e n,.int g s,.int f t,.int h y],[]⟩,nf:=5,d:=250,pool:=true,pre:=bP 0 b,post:=λ_=>bP 0 b,
  fp:=[(r,Ba G),(G,Bb B K l m k p H a1 a3),(l,I (J c) q),(m,I (J (U b)) x),(k,A5 (bE B b) E),(p,Ad B)],
  upd:=λ_=>[Ba G,Bb B K l m k p H a1 a3,I (J c) q,I (J (U b)) x,A5 (bE B b) E,Ad B],
  new:=λz=>[(W 0 z 0,Aj (W 0 z 1) (Z c (U b) e g f h).2.2 (Z c (U b) e g f h).2.1 (Z c (U b) e g f h).1 (W 0 z 4) (W 0 z 3) (W 0 z 2))],
  res:=λz=>.ok (.ret (.ref (W 0 z 0)))}
section
variable{r G l m q x k p H:Nat}{K:Nat->Nat}{E:Nat}{c:List (Str×Nat)}{b:List Bt}{a1 a3:Value}{e g f h:Int}{n s t y:Nat}
include O
theorem CB(a2:((U b).map (·.1)).Nodup)(i:CU c (U b) e g f h):(EH w.params r G l m q x k p H K E c b a1 a3 e g f h n s t y).Ok (V w j o u):=
 Spec.of_run O 559 (hd 0x10000001c70071c01c70071c01c700704000000100000104008704000000100000104008704000000100000104008704000000100000104008600618618018024924100928a00a28a24a28a00a28a24a28a00a28a24a28a00a28a24a28a00a28a24a28c0071c01c70071c01c71c71c734d34100d38e00e38e34e38e00e38e34e38e00e38e34e38e00e38e34e3900071c01c70071c01c70071c00071c00134c04d34d30415010410410071c7000000000000000000000000000000000000000555015540555015540000555555000000000000000000000000057019019000000640640000000) [(λa=>Km (C a 34) e g n s (C a 33),[18],[]),(λa=>TX w.params (C a 0) (C a 35) (C a 1) (C a 2) (C a 3) (C a 4) (C a 5) (C a 17) (C a 18) (C a 19) (C a 20) (C a 26) (C a 27) (C a 28) (C a 30) (C a 32) r l m k (C a 12) (C a 29) (C a 31) e g f h n s t y (C a 21) t n 14 q E c b,[6,2,4,16,17,19],[]),(λa=>UJ w.params (C a 0) (C a 1) (C a 2) (C a 3) (C a 4) (C a 5) (C a 17) (C a 18) (C a 19) (C a 20) (C a 26) (C a 27) (C a 28) (C a 30) (C a 32) r l m k (C a 12) (W 0 [W 0 a 36,W 0 a 37,W 0 a 38,W 0 a 39,W 0 a 40,W 0 a 41] 0) (C a 31) e g f h n s t y (Az c (U b) e g f h).fst (Az c (U b) e g f h).snd.fst (Az c (U b) e g f h).snd.snd (W 0 [W 0 a 36,W 0 a 37,W 0 a 38,W 0 a 39,W 0 a 40,W 0 a 41] 1) (W 0 [W 0 a 36,W 0 a 37,W 0 a 38,W 0 a 39,W 0 a 40,W 0 a 41] 2) (W 0 [W 0 a 36,W 0 a 37,W 0 a 38,W 0 a 39,W 0 a 40,W 0 a 41] 3) (Lr w.params (W 0 [W 0 a 36,W 0 a 37,W 0 a 38,W 0 a 39,W 0 a 40,W 0 a 41] 4)) (C a 41) q x p c (U b),[6,2,3,7,5],[]),(λa=>V5 w.params (C a 0) (C a 1) (C a 2) (C a 3) (C a 4) (C a 5) (C a 17) (C a 18) (C a 19) (C a 20) (C a 26) (C a 27) (C a 28) (C a 30) (C a 32) r l m k (C a 12) (W 0 [W 0 a 36,W 0 a 37,W 0 a 38,W 0 a 39,W 0 a 40,W 0 a 41] 0) (C a 31) e g f h n s t y (Ci c (U b) e f ((Az c (U b) e g f h).fst,(Az c (U b) e g f h).snd.fst,(Az c (U b) e g f h).snd.snd)).fst (Ci c (U b) e f ((Az c (U b) e g f h).fst,(Az c (U b) e g f h).snd.fst,(Az c (U b) e g f h).snd.snd)).snd.fst (Ci c (U b) e f ((Az c (U b) e g f h).fst,(Az c (U b) e g f h).snd.fst,(Az c (U b) e g f h).snd.snd)).snd.snd (W 0 [W 0 a 42,W 0 a 43,W 0 a 44] 0) (W 0 [W 0 a 42,W 0 a 43,W 0 a 44] 1) (W 0 [W 0 a 42,W 0 a 43,W 0 a 44] 2) (Lr w.params (W 0 [W 0 a 36,W 0 a 37,W 0 a 38,W 0 a 39,W 0 a 40,W 0 a 41] 4)) (C a 41) q x p c (U b),[6,2,3,7,5],[]),(λa=>Rt w.params (C a 0) (C a 1) (C a 2) (C a 3) (C a 4) (C a 5) (C a 17) (C a 18) (C a 19) (C a 20) (C a 26) (C a 27) (C a 28) (C a 30) (C a 32) r l m k (C a 12) (W 0 [W 0 a 36,W 0 a 37,W 0 a 38,W 0 a 39,W 0 a 40,W 0 a 41] 0) (C a 31) e g f h n s t y (FQ c (U b) g h ((Ci c (U b) e f ((Az c (U b) e g f h).fst,(Az c (U b) e g f h).snd.fst,(Az c (U b) e g f h).snd.snd)).fst,(Ci c (U b) e f ((Az c (U b) e g f h).fst,(Az c (U b) e g f h).snd.fst,(Az c (U b) e g f h).snd.snd)).snd.fst,(Ci c (U b) e f ((Az c (U b) e g f h).fst,(Az c (U b) e g f h).snd.fst,(Az c (U b) e g f h).snd.snd)).snd.snd)).fst (FQ c (U b) g h ((Ci c (U b) e f ((Az c (U b) e g f h).fst,(Az c (U b) e g f h).snd.fst,(Az c (U b) e g f h).snd.snd)).fst,(Ci c (U b) e f ((Az c (U b) e g f h).fst,(Az c (U b) e g f h).snd.fst,(Az c (U b) e g f h).snd.snd)).snd.fst,(Ci c (U b) e f ((Az c (U b) e g f h).fst,(Az c (U b) e g f h).snd.fst,(Az c (U b) e g f h).snd.snd)).snd.snd)).snd.fst (FQ c (U b) g h ((Ci c (U b) e f ((Az c (U b) e g f h).fst,(Az c (U b) e g f h).snd.fst,(Az c (U b) e g f h).snd.snd)).fst,(Ci c (U b) e f ((Az c (U b) e g f h).fst,(Az c (U b) e g f h).snd.fst,(Az c (U b) e g f h).snd.snd)).snd.fst,(Ci c (U b) e f ((Az c (U b) e g f h).fst,(Az c (U b) e g f h).snd.fst,(Az c (U b) e g f h).snd.snd)).snd.snd)).snd.snd (W 0 [W 0 a 45,W 0 a 46,W 0 a 47] 0) (W 0 [W 0 a 45,W 0 a 46,W 0 a 47] 1) (W 0 [W 0 a 45,W 0 a 46,W 0 a 47] 2) (Lr w.params (W 0 [W 0 a 36,W 0 a 37,W 0 a 38,W 0 a 39,W 0 a 40,W 0 a 41] 4)) (C a 41) q x p c (U b),[6,2,3,7,5],[]),(λa=>Ru w.params (C a 0) (C a 1) (C a 2) (C a 3) (C a 4) (C a 5) (C a 17) (C a 18) (C a 19) (C a 20) (C a 26) (C a 27) (C a 28) (C a 30) (C a 32) r l m k (C a 12) (W 0 [W 0 a 36,W 0 a 37,W 0 a 38,W 0 a 39,W 0 a 40,W 0 a 41] 0) (C a 31) e g f h n s t y (FQ c (U b) g h ((Ci c (U b) e f ((Az c (U b) e g f h).fst,(Az c (U b) e g f h).snd.fst,(Az c (U b) e g f h).snd.snd)).fst,(Ci c (U b) e f ((Az c (U b) e g f h).fst,(Az c (U b) e g f h).snd.fst,(Az c (U b) e g f h).snd.snd)).snd.fst,(Ci c (U b) e f ((Az c (U b) e g f h).fst,(Az c (U b) e g f h).snd.fst,(Az c (U b) e g f h).snd.snd)).snd.snd)).fst (FQ c (U b) g h ((Ci c (U b) e f ((Az c (U b) e g f h).fst,(Az c (U b) e g f h).snd.fst,(Az c (U b) e g f h).snd.snd)).fst,(Ci c (U b) e f ((Az c (U b) e g f h).fst,(Az c (U b) e g f h).snd.fst,(Az c (U b) e g f h).snd.snd)).snd.fst,(Ci c (U b) e f ((Az c (U b) e g f h).fst,(Az c (U b) e g f h).snd.fst,(Az c (U b) e g f h).snd.snd)).snd.snd)).snd.fst (FQ c (U b) g h ((Ci c (U b) e f ((Az c (U b) e g f h).fst,(Az c (U b) e g f h).snd.fst,(Az c (U b) e g f h).snd.snd)).fst,(Ci c (U b) e f ((Az c (U b) e g f h).fst,(Az c (U b) e g f h).snd.fst,(Az c (U b) e g f h).snd.snd)).snd.fst,(Ci c (U b) e f ((Az c (U b) e g f h).fst,(Az c (U b) e g f h).snd.fst,(Az c (U b) e g f h).snd.snd)).snd.snd)).snd.snd (W 0 [W 0 a 45,W 0 a 46,W 0 a 47] 0) (W 0 [W 0 a 45,W 0 a 46,W 0 a 47] 1) (W 0 [W 0 a 45,W 0 a 46,W 0 a 47] 2) (Lr w.params (W 0 [W 0 a 36,W 0 a 37,W 0 a 38,W 0 a 39,W 0 a 40,W 0 a 41] 4)) (C a 41) q x p c (U b),[6,2,3,7,5],[]),(λa=>Lu (C a 56) (Value.int (FQ c (U b) g h ((Ci c (U b) e f ((Az c (U b) e g f h).fst,(Az c (U b) e g f h).snd.fst,(Az c (U b) e g f h).snd.snd)).fst,(Ci c (U b) e f ((Az c (U b) e g f h).fst,(Az c (U b) e g f h).snd.fst,(Az c (U b) e g f h).snd.snd)).snd.fst,(Ci c (U b) e f ((Az c (U b) e g f h).fst,(Az c (U b) e g f h).snd.fst,(Az c (U b) e g f h).snd.snd)).snd.snd)).snd.snd (C a 47)) [Value.int (FQ c (U b) g h ((Ci c (U b) e f ((Az c (U b) e g f h).fst,(Az c (U b) e g f h).snd.fst,(Az c (U b) e g f h).snd.snd)).fst,(Ci c (U b) e f ((Az c (U b) e g f h).fst,(Az c (U b) e g f h).snd.fst,(Az c (U b) e g f h).snd.snd)).snd.fst,(Ci c (U b) e f ((Az c (U b) e g f h).fst,(Az c (U b) e g f h).snd.fst,(Az c (U b) e g f h).snd.snd)).snd.snd)).snd.fst (C a 46),Value.int (FQ c (U b) g h ((Ci c (U b) e f ((Az c (U b) e g f h).fst,(Az c (U b) e g f h).snd.fst,(Az c (U b) e g f h).snd.snd)).fst,(Ci c (U b) e f ((Az c (U b) e g f h).fst,(Az c (U b) e g f h).snd.fst,(Az c (U b) e g f h).snd.snd)).snd.fst,(Ci c (U b) e f ((Az c (U b) e g f h).fst,(Az c (U b) e g f h).snd.fst,(Az c (U b) e g f h).snd.snd)).snd.snd)).fst (C a 45)],[21],[])] [0,1,2,3,4,5,24] [] (λD=>[D 59,D 58,D 45,D 46,D 47]) (λ_=>rfl) (λ_=>rfl) (λ_=>rfl) (Fa (Ki O i.a0 (by have:=i.a1; have:=i.a2; have:=i.s1; lia) (by have:=i.a0; have:=i.a1; exact Int.le_trans ‹_› ‹_›) (by have:=i.a2; have:=i.s1; lia)) (Q2 O i) (Qg O i (GI a2 i)) (Qk O i (Ie _ (GI a2 i))) (NS O i (Ds a2 i)) (Pp O i (Ds a2 i)) (IE O (show 2<sizeLine from by decide))) (by kernel_rfl)
end
end
section
noncomputable def EB(f:Nat)(a:List Value)(b:Value)(e:Nat):Spec:=
 {code:=.call (.builtin "list.pop") ⟨[.ref f],[]⟩,fp:=[(f,I (a++[b]) e)],upd:=λ_=>[I a (e+1)],res:=λ_=>.ok (.ret b),d:=10}
noncomputable def DD(f:Nat)(a:List Value)(b:Value)(e:Nat):Spec:=
 {code:=.builtin "len" ⟨[.ref f],[]⟩,fp:=[(f,I (a++[b]) e)],upd:=λ_=>[I (a++[b]) e],nf:=1,res:=λc2=>.ok (.ret (.int (a.length+1:Nat) (W 0 c2 0))),d:=10}
section
variable{k:Cx}(p:k.Ok){f e:Nat}{a:List Value}{b:Value}
theorem C7(q:a.length<sizeLine):(DD f a b e).Ok k:=Spec.of_code (λ_=>rfl) (λ_=>rfl) λA a3 x n R i l=>by
 have c5:=Ae (b:=k) (a:=f) (f:=e) (c:=a++[b]) (by rw[List.length_append]; exact q)
 have:sizeLine<2 ^ 62:=by decide
 refine codeAny_builtin entry_len ?_
 rw[Around.under_plainId plain_len _]
 have g:(a++[b]).length=a.length+1:=by simp
 refine wpAny_mono (wpAny_len_body_list (E:=λ_ _=>False) (Q:=λr s=>R (.ok (.ret r)) s) ⟨_,RepF.get0 i,rfl,e,rfl⟩ (by show(((a++[b]).length:Nat):Int)<2 ^ 63; rw[g]; lia) ?_)
   (λc4 s a2=>by obtain⟨r,rfl,a4⟩:=a2; exact a4) λ_ _ g=>g.elim
 show R (.ok (.ret (.int (((a++[b]).length:Nat):Int) (n.toks+1)))) _
 rw[g]
 exact l [n.toks+1] _ rfl (RepF.toks i _)
include p
theorem Cw(q:a.length<sizeLine):(EB f a b e).Ok k:=Spec.of_call rfl (λ_=>rfl) (λ_=>rfl) λA a3 x n t i l=>by
 refine call_meets F.slot_list_pop ⟨_,RepF.get0 i,rfl⟩ F.entry_list_pop (F.args_list_pop_1 _) (MeetsSeq.list_pop_last f ⟨a++[b]⟩ e b (by simp) (by simp; assumption)) ⟨RepF.get0 i,l [] _ _ rfl rfl ?_⟩
 have:=RepF.upd0 p i (x:=Obj.mapSeq λc3=>c3.eraseIdxIfInBounds ((⟨a++[b]⟩:Array Value).size-1)) rfl
 rw[Cu (a++[b]) e _ a (by simp[Array.eraseIdxIfInBounds,List.eraseIdx_append_of_length_le]) (by simp)] at this
 exact this
end
noncomputable def Vi:Str:=S [83,101,113,117,101,110,99,101,77,97,116,99,104,101,114,46,103,101,116,95,109,97,116,99,104,105,110,103,95,98,108,111,99,107,115,46,60,108,111,99,97,108,115,62,46]
noncomputable def Ph(h:Nat):Env:=Gq (AQ 5 7) 203 202 Vi h
noncomputable def My(m:Nat):Stmt:=W B6 (B2 (AQ 5 7)) m
noncomputable def C8(h:Nat):Code:=.whileLoop (EN (My 5)) (CP (My 5)) (NP (My 5)) (Ph h)
noncomputable def Ee(h a5:Nat):Code:=Ff (My 9) a5 (Ph h)
noncomputable def VH:Str:=S [108,97]
noncomputable def Vr:Str:=S [108,98]
noncomputable def VD:Str:=S [113,117,101,117,101]
noncomputable def AL(c:Params)(G H K Y L b2:Nat)(a9 a8:Int)(c1 c0 b1 b0:Nat)(a:List DictEntry)(g:Nat):Obj:=
 Bl (en c Fy G (.ref b2)::en c Vr H (.int a9 c1)::en c VH K (.int a8 c0)::en c VD Y (.ref b1)::en c IN L (.ref b0)::a) g
noncomputable def gx(c:Params)(M N P Q T X a0 a1:Nat)(z y D B m a6 a7:Int)(b3 b4 b5 b6 b7 b8 b9 b:Nat):List DictEntry:=
 [en c O1 M (.int z b3),en c Pk N (.int y b4),en c NX P (.int D b5),en c P3 Q (.int B b6),en c nI T (.int m b7),en c nJ X (.int a6 b8),en c nK a0 (.int a7 b9),en c nX a1 (.ref b)]
end
section
inductive BC(g6:Params):List DictEntry->Prop
 |s0:BC g6 []
 |s1 (c3 c4 c5 c6 c7 c8 c9 d0:Nat) (f3 f4 f5 f6 f7 f8 f9:Int) (g0 e0 e1 e2 e3 e4 e5 g1:Nat):BC g6 (gx g6 c3 c4 c5 c6 c7 c8 c9 d0 f3 f4 f5 f6 f7 f8 f9 g0 e0 e1 e2 e3 e4 e5 g1)
theorem BV{g6:Params}{c3 c4 c5 c6 c7 c8 c9 d0:Nat}{f3 f4 f5 f6 f7 f8 f9:Int}{g0 e0 e1 e2 e3 e4 e5 g1:Nat}:gx g6 c3 c4 c5 c6 c7 c8 c9 d0 f3 f4 f5 f6 f7 f8 f9 g0 e0 e1 e2 e3 e4 e5 g1≠[]:=λg9=>nomatch g9
section
variable{B a6 a7 a8 Y a9 q:Nat}{b1 b0:Int}{b3 b2 i r b8:Nat}{s G:List Value}{H b6 D:Nat}{c b e d:Int}{t x y z:Nat}{p m n a2 a3 k l K:Nat}{L:Nat->Nat}{a4:Nat}{g:List (Str×Nat)}{a:List Bt}{a5:Value}{d1:List DictEntry}
include O
theorem Vs(d6:BC w.params d1)(d7:((U a).map (·.1)).Nodup)(d2:CU g (U a) c b e d)(b4:s.length<sizeLine-5)(e6:G.length<=sizeLine)(d5:(Z g (U a) c b e d).1=0)(d4:Room 400 A)(c1:RepF (V w j o u) ([(B,AL w.params a6 a7 a8 Y a9 q b1 b0 b3 b2 i r d1 b8),(i,I (s++[.ref D]) H),(D,Aa [.int c t,.int b x,.int e y,.int d z]),(r,I G b6),(q,Ba p),(p,Bb w.params L m n k l K .none a5),(m,I (J g) a2),(n,I (J (U a)) a3),(k,A5 (bE w.params a) a4),(l,Ad w.params)]++bP 0 a) [] F v)(c0:∀E b7 (d3 d9 d8:Nat),BC w.params b7->b7≠[]->RepF (V w j o u) ([(B,AL w.params a6 a7 a8 Y a9 q b1 b0 b3 b2 i r b7 d3),(i,I (s) d9),(r,I (G) d8),(q,Ba p),(p,Bb w.params L m n k l K .none a5),(m,I (J g) a2),(n,I (J (U a)) a3),(k,A5 (bE w.params a) a4),(l,Ad w.params),(D,Aa [.int c t,.int b x,.int e y,.int d z])]++bP 0 a) [] F E->codeAny (model pw w) A (C8 B) R E):codeAny (model pw w) A (C8 B) R v:=by
 have b4:s.length<sizeLine:=by omega
 have b9:=Cg O d4 (C8 B) 304 0x410820410820820430c30400cb2c02cb2c32cb2c02cb2c32cb2c02cb2c32cb2c02cb2c32cb2c02cb2c32cb34004100104004100104114000014000014000000518104104004e00000e00000e00000100e00f3c03cf3ce3cf3c03cf3ce3cf3c03cf3ce3cf3c03cf3ce3cf440041001040041001041041 [(λh=>DD i s (Value.ref D) H,[1],[]),(λh=>EB i s (Value.ref D) H,[1],[]),(λh=>EH w.params q p m n a2 a3 k l K L a4 g a Value.none a5 c b e d t x y z,[4,5,6,7,8,9],[]),(λh=>Bc (Z g (U a) c b e d).fst (C h 10) false,[],[])] [0,1,3,4,5,6,7,8,9,2] (Mf (C7 b4) (Cw O b4) (CB O d7 d2) (Ay O (by rw[d5]; rfl)))
 cases d6 with
 |s0=>
  exact b9.1 (λf=>[(B,AL w.params a6 a7 a8 Y a9 q b1 b0 b3 b2 i r (gx w.params (f 4) (f 5) (f 6) (f 7) (f 16) (f 17) (f 18) (f 19) c b e d (Z g (U a) c b e d).2.2 (Z g (U a) c b e d).2.1 (Z g (U a) c b e d).1 t x y z (f 12) (f 11) (f 10) (f 8)) (((((((((b8+1)+1)+1)+1)+1)+1)+1)+1))),(i,I (s) (H+1)),(r,I (G) b6),(q,Ba p),(p,Bb w.params L m n k l K .none a5),(m,I (J g) a2),(n,I (J (U a)) a3),(k,A5 (bE w.params a) a4),(l,Ad w.params),(D,Aa [.int c t,.int b x,.int e y,.int d z])]) (λf=>bP 0 a) c1 λf E b5=>c0 E _ _ _ _ (BC.s1 _ _ _ _ _ _ _ _ _ _ _ _ _ _ _ _ _ _ _ _ _ _ _) BV b5
 |s1 c3 c4 c5 c6 c7 c8 c9 d0 f3 f4 f5 f6 f7 f8 f9 g0 e0 e1 e2 e3 e4 e5 g1=>
  exact b9.1 (λf=>[(B,AL w.params a6 a7 a8 Y a9 q b1 b0 b3 b2 i r (gx w.params c3 c4 c5 c6 c7 c8 c9 d0 c b e d (Z g (U a) c b e d).2.2 (Z g (U a) c b e d).2.1 (Z g (U a) c b e d).1 t x y z (f 12) (f 11) (f 10) (f 8)) (b8)),(i,I (s) (H+1)),(r,I (G) b6),(q,Ba p),(p,Bb w.params L m n k l K .none a5),(m,I (J g) a2),(n,I (J (U a)) a3),(k,A5 (bE w.params a) a4),(l,Ad w.params),(D,Aa [.int c t,.int b x,.int e y,.int d z])]) (λf=>bP 0 a) c1 λf E b5=>c0 E _ _ _ _ (BC.s1 _ _ _ _ _ _ _ _ _ _ _ _ _ _ _ _ _ _ _ _ _ _ _) BV b5
theorem SX(d6:BC w.params d1)(d7:((U a).map (·.1)).Nodup)(d2:CU g (U a) c b e d)(b4:s.length<sizeLine-5)(e6:G.length<=sizeLine)(d5:(Z g (U a) c b e d).1≠0)(e8:¬ c<(Z g (U a) c b e d).2.2)(e9:¬ (Z g (U a) c b e d).2.2+(Z g (U a) c b e d).1<b)(d4:Room 400 A)(c1:RepF (V w j o u) ([(B,AL w.params a6 a7 a8 Y a9 q b1 b0 b3 b2 i r d1 b8),(i,I (s++[.ref D]) H),(D,Aa [.int c t,.int b x,.int e y,.int d z]),(r,I G b6),(q,Ba p),(p,Bb w.params L m n k l K .none a5),(m,I (J g) a2),(n,I (J (U a)) a3),(k,A5 (bE w.params a) a4),(l,Ad w.params)]++bP 0 a) [] F v)(c0:∀E b7 (d3 d9 d8 c2 e7 f0 f1 f2:Nat),BC w.params b7->b7≠[]->RepF (V w j o u) ([(B,AL w.params a6 a7 a8 Y a9 q b1 b0 b3 b2 i r b7 d3),(i,I (s) d9),(r,I (G++[.ref c2]) d8),(q,Ba p),(p,Bb w.params L m n k l K .none a5),(m,I (J g) a2),(n,I (J (U a)) a3),(k,A5 (bE w.params a) a4),(l,Ad w.params),(D,Aa [.int c t,.int b x,.int e y,.int d z]),(c2,Aj e7 (Z g (U a) c b e d).2.2 (Z g (U a) c b e d).2.1 (Z g (U a) c b e d).1 f0 f1 f2)]++bP 0 a) [] F E->codeAny (model pw w) A (C8 B) R E):codeAny (model pw w) A (C8 B) R v:=by
 have b4:s.length<sizeLine:=by omega
 have b9:=Cg O d4 (C8 B) 341 0x10420810420820810c30c10032cb00b2cb0cb2cb00b2cb0cb2cb00b2cb0cb2cb00b2cb0cb2cb00b2cb0cb2cd0010400410010400410450000050000050000001460410410013800003800003800000403803cf00f3cf38f3cf00f3cf38f3cf00f3cf38f3cf00f3cf38f3d1001040041001040041041044104101041041041040041041 [(λh=>DD i s (Value.ref D) H,[1],[]),(λh=>EB i s (Value.ref D) H,[1],[]),(λh=>EH w.params q p m n a2 a3 k l K L a4 g a Value.none a5 c b e d t x y z,[4,5,6,7,8,9],[]),(λh=>Bc (Z g (U a) c b e d).fst (C h 10) true,[],[]),(λh=>AJ r G b6 (Value.ref (C h 8)),[3],[]),(λh=>AT c (Z g (U a) c b e d).snd.snd t (C h 12) false,[],[]),(λh=>AT ((Z g (U a) c b e d).snd.snd+(Z g (U a) c b e d).fst) b (C h 20) x false,[],[])] [0,1,3,4,5,6,7,8,9,2,13] (Fa (C7 b4) (Cw O b4) (CB O d7 d2) (Ay O (bne_iff_ne.mpr d5)) (Ag O e6) (A9 O (decide_eq_false e8)) (A9 O (decide_eq_false e9)))
 cases d6 with
 |s0=>
  exact b9.1 (λf=>[(B,AL w.params a6 a7 a8 Y a9 q b1 b0 b3 b2 i r (gx w.params (f 4) (f 5) (f 6) (f 7) (f 16) (f 17) (f 18) (f 19) c b e d (Z g (U a) c b e d).2.2 (Z g (U a) c b e d).2.1 (Z g (U a) c b e d).1 t x y z (f 12) (f 11) (f 10) (f 8)) (((((((((b8+1)+1)+1)+1)+1)+1)+1)+1))),(i,I (s) (H+1)),(r,I (G++[.ref (f 8)]) (b6+1)),(q,Ba p),(p,Bb w.params L m n k l K .none a5),(m,I (J g) a2),(n,I (J (U a)) a3),(k,A5 (bE w.params a) a4),(l,Ad w.params),(D,Aa [.int c t,.int b x,.int e y,.int d z]),((f 8),Aj (f 9) (Z g (U a) c b e d).2.2 (Z g (U a) c b e d).2.1 (Z g (U a) c b e d).1 (f 12) (f 11) (f 10))]) (λf=>bP 0 a) c1 λf E b5=>c0 E _ _ _ _ _ _ _ _ _ (BC.s1 _ _ _ _ _ _ _ _ _ _ _ _ _ _ _ _ _ _ _ _ _ _ _) BV b5
 |s1 c3 c4 c5 c6 c7 c8 c9 d0 f3 f4 f5 f6 f7 f8 f9 g0 e0 e1 e2 e3 e4 e5 g1=>
  exact b9.1 (λf=>[(B,AL w.params a6 a7 a8 Y a9 q b1 b0 b3 b2 i r (gx w.params c3 c4 c5 c6 c7 c8 c9 d0 c b e d (Z g (U a) c b e d).2.2 (Z g (U a) c b e d).2.1 (Z g (U a) c b e d).1 t x y z (f 12) (f 11) (f 10) (f 8)) (b8)),(i,I (s) (H+1)),(r,I (G++[.ref (f 8)]) (b6+1)),(q,Ba p),(p,Bb w.params L m n k l K .none a5),(m,I (J g) a2),(n,I (J (U a)) a3),(k,A5 (bE w.params a) a4),(l,Ad w.params),(D,Aa [.int c t,.int b x,.int e y,.int d z]),((f 8),Aj (f 9) (Z g (U a) c b e d).2.2 (Z g (U a) c b e d).2.1 (Z g (U a) c b e d).1 (f 12) (f 11) (f 10))]) (λf=>bP 0 a) c1 λf E b5=>c0 E _ _ _ _ _ _ _ _ _ (BC.s1 _ _ _ _ _ _ _ _ _ _ _ _ _ _ _ _ _ _ _ _ _ _ _) BV b5
theorem Tq(d6:BC w.params d1)(d7:((U a).map (·.1)).Nodup)(d2:CU g (U a) c b e d)(b4:s.length<sizeLine-5)(e6:G.length<=sizeLine)(d5:(Z g (U a) c b e d).1≠0)(e8:¬ c<(Z g (U a) c b e d).2.2)(e9:(Z g (U a) c b e d).2.2+(Z g (U a) c b e d).1<b)(g3:¬ (Z g (U a) c b e d).2.1+(Z g (U a) c b e d).1<d)(d4:Room 400 A)(c1:RepF (V w j o u) ([(B,AL w.params a6 a7 a8 Y a9 q b1 b0 b3 b2 i r d1 b8),(i,I (s++[.ref D]) H),(D,Aa [.int c t,.int b x,.int e y,.int d z]),(r,I G b6),(q,Ba p),(p,Bb w.params L m n k l K .none a5),(m,I (J g) a2),(n,I (J (U a)) a3),(k,A5 (bE w.params a) a4),(l,Ad w.params)]++bP 0 a) [] F v)(c0:∀E b7 (d3 d9 d8 c2 e7 f0 f1 f2:Nat),BC w.params b7->b7≠[]->RepF (V w j o u) ([(B,AL w.params a6 a7 a8 Y a9 q b1 b0 b3 b2 i r b7 d3),(i,I (s) d9),(r,I (G++[.ref c2]) d8),(q,Ba p),(p,Bb w.params L m n k l K .none a5),(m,I (J g) a2),(n,I (J (U a)) a3),(k,A5 (bE w.params a) a4),(l,Ad w.params),(D,Aa [.int c t,.int b x,.int e y,.int d z]),(c2,Aj e7 (Z g (U a) c b e d).2.2 (Z g (U a) c b e d).2.1 (Z g (U a) c b e d).1 f0 f1 f2)]++bP 0 a) [] F E->codeAny (model pw w) A (C8 B) R E):codeAny (model pw w) A (C8 B) R v:=by
 have b4:s.length<sizeLine:=by omega
 have b9:=Cg O d4 (C8 B) 355 0x10420810420820810c30c10032cb00b2cb0cb2cb00b2cb0cb2cb00b2cb0cb2cb00b2cb0cb2cb00b2cb0cb2cd0010400410010400410450000050000050000001460410410013800003800003800000403803cf00f3cf38f3cf00f3cf38f3cf00f3cf38f3cf00f3cf38f3d1001040041001040041041044104101041041041040041041040041041 [(λh=>DD i s (Value.ref D) H,[1],[]),(λh=>EB i s (Value.ref D) H,[1],[]),(λh=>EH w.params q p m n a2 a3 k l K L a4 g a Value.none a5 c b e d t x y z,[4,5,6,7,8,9],[]),(λh=>Bc (Z g (U a) c b e d).fst (C h 10) true,[],[]),(λh=>AJ r G b6 (Value.ref (C h 8)),[3],[]),(λh=>AT c (Z g (U a) c b e d).snd.snd t (C h 12) false,[],[]),(λh=>AT ((Z g (U a) c b e d).snd.snd+(Z g (U a) c b e d).fst) b (C h 20) x true,[],[]),(λh=>AT ((Z g (U a) c b e d).snd.fst+(Z g (U a) c b e d).fst) d (C h 21) z false,[],[])] [0,1,3,4,5,6,7,8,9,2,13] (G7 (C7 b4) (Cw O b4) (CB O d7 d2) (Ay O (bne_iff_ne.mpr d5)) (Ag O e6) (A9 O (decide_eq_false e8)) (A9 O (decide_eq_true e9)) (A9 O (decide_eq_false g3)))
 cases d6 with
 |s0=>
  exact b9.1 (λf=>[(B,AL w.params a6 a7 a8 Y a9 q b1 b0 b3 b2 i r (gx w.params (f 4) (f 5) (f 6) (f 7) (f 16) (f 17) (f 18) (f 19) c b e d (Z g (U a) c b e d).2.2 (Z g (U a) c b e d).2.1 (Z g (U a) c b e d).1 t x y z (f 12) (f 11) (f 10) (f 8)) (((((((((b8+1)+1)+1)+1)+1)+1)+1)+1))),(i,I (s) (H+1)),(r,I (G++[.ref (f 8)]) (b6+1)),(q,Ba p),(p,Bb w.params L m n k l K .none a5),(m,I (J g) a2),(n,I (J (U a)) a3),(k,A5 (bE w.params a) a4),(l,Ad w.params),(D,Aa [.int c t,.int b x,.int e y,.int d z]),((f 8),Aj (f 9) (Z g (U a) c b e d).2.2 (Z g (U a) c b e d).2.1 (Z g (U a) c b e d).1 (f 12) (f 11) (f 10))]) (λf=>bP 0 a) c1 λf E b5=>c0 E _ _ _ _ _ _ _ _ _ (BC.s1 _ _ _ _ _ _ _ _ _ _ _ _ _ _ _ _ _ _ _ _ _ _ _) BV b5
 |s1 c3 c4 c5 c6 c7 c8 c9 d0 f3 f4 f5 f6 f7 f8 f9 g0 e0 e1 e2 e3 e4 e5 g1=>
  exact b9.1 (λf=>[(B,AL w.params a6 a7 a8 Y a9 q b1 b0 b3 b2 i r (gx w.params c3 c4 c5 c6 c7 c8 c9 d0 c b e d (Z g (U a) c b e d).2.2 (Z g (U a) c b e d).2.1 (Z g (U a) c b e d).1 t x y z (f 12) (f 11) (f 10) (f 8)) (b8)),(i,I (s) (H+1)),(r,I (G++[.ref (f 8)]) (b6+1)),(q,Ba p),(p,Bb w.params L m n k l K .none a5),(m,I (J g) a2),(n,I (J (U a)) a3),(k,A5 (bE w.params a) a4),(l,Ad w.params),(D,Aa [.int c t,.int b x,.int e y,.int d z]),((f 8),Aj (f 9) (Z g (U a) c b e d).2.2 (Z g (U a) c b e d).2.1 (Z g (U a) c b e d).1 (f 12) (f 11) (f 10))]) (λf=>bP 0 a) c1 λf E b5=>c0 E _ _ _ _ _ _ _ _ _ (BC.s1 _ _ _ _ _ _ _ _ _ _ _ _ _ _ _ _ _ _ _ _ _ _ _) BV b5
theorem Td(d6:BC w.params d1)(d7:((U a).map (·.1)).Nodup)(d2:CU g (U a) c b e d)(b4:s.length<sizeLine-5)(e6:G.length<=sizeLine)(d5:(Z g (U a) c b e d).1≠0)(e8:¬ c<(Z g (U a) c b e d).2.2)(e9:(Z g (U a) c b e d).2.2+(Z g (U a) c b e d).1<b)(g3:(Z g (U a) c b e d).2.1+(Z g (U a) c b e d).1<d)(d4:Room 400 A)(c1:RepF (V w j o u) ([(B,AL w.params a6 a7 a8 Y a9 q b1 b0 b3 b2 i r d1 b8),(i,I (s++[.ref D]) H),(D,Aa [.int c t,.int b x,.int e y,.int d z]),(r,I G b6),(q,Ba p),(p,Bb w.params L m n k l K .none a5),(m,I (J g) a2),(n,I (J (U a)) a3),(k,A5 (bE w.params a) a4),(l,Ad w.params)]++bP 0 a) [] F v)(c0:∀E b7 (d3 d9 d8 c2 e7 f0 f1 f2 g5 e4 e5 g7 g8:Nat),BC w.params b7->b7≠[]->RepF (V w j o u) ([(B,AL w.params a6 a7 a8 Y a9 q b1 b0 b3 b2 i r b7 d3),(i,I (s++[.ref g5]) d9),(r,I (G++[.ref c2]) d8),(q,Ba p),(p,Bb w.params L m n k l K .none a5),(m,I (J g) a2),(n,I (J (U a)) a3),(k,A5 (bE w.params a) a4),(l,Ad w.params),(D,Aa [.int c t,.int b x,.int e y,.int d z]),(c2,Aj e7 (Z g (U a) c b e d).2.2 (Z g (U a) c b e d).2.1 (Z g (U a) c b e d).1 f0 f1 f2),(g5,Aa [.int ((Z g (U a) c b e d).2.2+(Z g (U a) c b e d).1) e4,.int b e5,.int ((Z g (U a) c b e d).2.1+(Z g (U a) c b e d).1) g7,.int d g8])]++bP 0 a) [] F E->codeAny (model pw w) A (C8 B) R E):codeAny (model pw w) A (C8 B) R v:=by
 have b4:s.length<sizeLine:=by omega
 have b9:=Cg O d4 (C8 B) 391 0x10420810420820810c30c10032cb00b2cb0cb2cb00b2cb0cb2cb00b2cb0cb2cb00b2cb0cb2cb00b2cb0cb2cd0010400410010400410450000050000050000001460410410013800003800003800000403803cf00f3cf38f3cf00f3cf38f3cf00f3cf38f3cf00f3cf38f3d1001040041001040041041044104101041041041040041041040041041082082041001041001041 [(λh=>DD i s (Value.ref D) H,[1],[]),(λh=>EB i s (Value.ref D) H,[1],[]),(λh=>EH w.params q p m n a2 a3 k l K L a4 g a Value.none a5 c b e d t x y z,[4,5,6,7,8,9],[]),(λh=>Bc (Z g (U a) c b e d).fst (C h 10) true,[],[]),(λh=>AJ r G b6 (Value.ref (C h 8)),[3],[]),(λh=>AT c (Z g (U a) c b e d).snd.snd t (C h 12) false,[],[]),(λh=>AT ((Z g (U a) c b e d).snd.snd+(Z g (U a) c b e d).fst) b (C h 20) x true,[],[]),(λh=>AT ((Z g (U a) c b e d).snd.fst+(Z g (U a) c b e d).fst) d (C h 21) z true,[],[]),(λh=>AJ i s H.succ (Value.ref (C h 24)),[1],[])] [0,1,3,4,5,6,7,8,9,2,13,17] (HY (C7 b4) (Cw O b4) (CB O d7 d2) (Ay O (bne_iff_ne.mpr d5)) (Ag O e6) (A9 O (decide_eq_false e8)) (A9 O (decide_eq_true e9)) (A9 O (decide_eq_true g3)) (Ag O (by first |(exact Nat.le_of_lt ‹_›) |(simp; omega))))
 cases d6 with
 |s0=>
  exact b9.1 (λf=>[(B,AL w.params a6 a7 a8 Y a9 q b1 b0 b3 b2 i r (gx w.params (f 4) (f 5) (f 6) (f 7) (f 16) (f 17) (f 18) (f 19) c b e d (Z g (U a) c b e d).2.2 (Z g (U a) c b e d).2.1 (Z g (U a) c b e d).1 t x y z (f 12) (f 11) (f 10) (f 8)) (((((((((b8+1)+1)+1)+1)+1)+1)+1)+1))),(i,I (s++[.ref (f 24)]) ((H+1)+1)),(r,I (G++[.ref (f 8)]) (b6+1)),(q,Ba p),(p,Bb w.params L m n k l K .none a5),(m,I (J g) a2),(n,I (J (U a)) a3),(k,A5 (bE w.params a) a4),(l,Ad w.params),(D,Aa [.int c t,.int b x,.int e y,.int d z]),((f 8),Aj (f 9) (Z g (U a) c b e d).2.2 (Z g (U a) c b e d).2.1 (Z g (U a) c b e d).1 (f 12) (f 11) (f 10)),(f 24,Aa [.int ((Z g (U a) c b e d).2.2+(Z g (U a) c b e d).1) (f 22),.int b x,.int ((Z g (U a) c b e d).2.1+(Z g (U a) c b e d).1) (f 23),.int d z])]) (λf=>bP 0 a) c1 λf E b5=>c0 E _ _ _ _ _ _ _ _ _ _ _ _ _ _ (BC.s1 _ _ _ _ _ _ _ _ _ _ _ _ _ _ _ _ _ _ _ _ _ _ _) BV b5
 |s1 c3 c4 c5 c6 c7 c8 c9 d0 f3 f4 f5 f6 f7 f8 f9 g0 e0 e1 e2 e3 e4 e5 g1=>
  exact b9.1 (λf=>[(B,AL w.params a6 a7 a8 Y a9 q b1 b0 b3 b2 i r (gx w.params c3 c4 c5 c6 c7 c8 c9 d0 c b e d (Z g (U a) c b e d).2.2 (Z g (U a) c b e d).2.1 (Z g (U a) c b e d).1 t x y z (f 12) (f 11) (f 10) (f 8)) (b8)),(i,I (s++[.ref (f 24)]) ((H+1)+1)),(r,I (G++[.ref (f 8)]) (b6+1)),(q,Ba p),(p,Bb w.params L m n k l K .none a5),(m,I (J g) a2),(n,I (J (U a)) a3),(k,A5 (bE w.params a) a4),(l,Ad w.params),(D,Aa [.int c t,.int b x,.int e y,.int d z]),((f 8),Aj (f 9) (Z g (U a) c b e d).2.2 (Z g (U a) c b e d).2.1 (Z g (U a) c b e d).1 (f 12) (f 11) (f 10)),(f 24,Aa [.int ((Z g (U a) c b e d).2.2+(Z g (U a) c b e d).1) (f 22),.int b x,.int ((Z g (U a) c b e d).2.1+(Z g (U a) c b e d).1) (f 23),.int d z])]) (λf=>bP 0 a) c1 λf E b5=>c0 E _ _ _ _ _ _ _ _ _ _ _ _ _ _ (BC.s1 _ _ _ _ _ _ _ _ _ _ _ _ _ _ _ _ _ _ _ _ _ _ _) BV b5
theorem U8(d6:BC w.params d1)(d7:((U a).map (·.1)).Nodup)(d2:CU g (U a) c b e d)(b4:s.length<sizeLine-5)(e6:G.length<=sizeLine)(d5:(Z g (U a) c b e d).1≠0)(e8:c<(Z g (U a) c b e d).2.2)(g2:¬ e<(Z g (U a) c b e d).2.1)(e9:¬ (Z g (U a) c b e d).2.2+(Z g (U a) c b e d).1<b)(d4:Room 400 A)(c1:RepF (V w j o u) ([(B,AL w.params a6 a7 a8 Y a9 q b1 b0 b3 b2 i r d1 b8),(i,I (s++[.ref D]) H),(D,Aa [.int c t,.int b x,.int e y,.int d z]),(r,I G b6),(q,Ba p),(p,Bb w.params L m n k l K .none a5),(m,I (J g) a2),(n,I (J (U a)) a3),(k,A5 (bE w.params a) a4),(l,Ad w.params)]++bP 0 a) [] F v)(c0:∀E b7 (d3 d9 d8 c2 e7 f0 f1 f2:Nat),BC w.params b7->b7≠[]->RepF (V w j o u) ([(B,AL w.params a6 a7 a8 Y a9 q b1 b0 b3 b2 i r b7 d3),(i,I (s) d9),(r,I (G++[.ref c2]) d8),(q,Ba p),(p,Bb w.params L m n k l K .none a5),(m,I (J g) a2),(n,I (J (U a)) a3),(k,A5 (bE w.params a) a4),(l,Ad w.params),(D,Aa [.int c t,.int b x,.int e y,.int d z]),(c2,Aj e7 (Z g (U a) c b e d).2.2 (Z g (U a) c b e d).2.1 (Z g (U a) c b e d).1 f0 f1 f2)]++bP 0 a) [] F E->codeAny (model pw w) A (C8 B) R E):codeAny (model pw w) A (C8 B) R v:=by
 have b4:s.length<sizeLine:=by omega
 have b9:=Cg O d4 (C8 B) 348 0x10420810420820810c30c10032cb00b2cb0cb2cb00b2cb0cb2cb00b2cb0cb2cb00b2cb0cb2cb00b2cb0cb2cd0010400410010400410450000050000050000001460410410013800003800003800000403803cf00f3cf38f3cf00f3cf38f3cf00f3cf38f3cf00f3cf38f3d1001040041001040041041044104101041041041041041040041041 [(λh=>DD i s (Value.ref D) H,[1],[]),(λh=>EB i s (Value.ref D) H,[1],[]),(λh=>EH w.params q p m n a2 a3 k l K L a4 g a Value.none a5 c b e d t x y z,[4,5,6,7,8,9],[]),(λh=>Bc (Z g (U a) c b e d).fst (C h 10) true,[],[]),(λh=>AJ r G b6 (Value.ref (C h 8)),[3],[]),(λh=>AT c (Z g (U a) c b e d).snd.snd t (C h 12) true,[],[]),(λh=>AT e (Z g (U a) c b e d).snd.fst y (C h 11) false,[],[]),(λh=>AT ((Z g (U a) c b e d).snd.snd+(Z g (U a) c b e d).fst) b (C h 20) x false,[],[])] [0,1,3,4,5,6,7,8,9,2,13] (G7 (C7 b4) (Cw O b4) (CB O d7 d2) (Ay O (bne_iff_ne.mpr d5)) (Ag O e6) (A9 O (decide_eq_true e8)) (A9 O (decide_eq_false g2)) (A9 O (decide_eq_false e9)))
 cases d6 with
 |s0=>
  exact b9.1 (λf=>[(B,AL w.params a6 a7 a8 Y a9 q b1 b0 b3 b2 i r (gx w.params (f 4) (f 5) (f 6) (f 7) (f 16) (f 17) (f 18) (f 19) c b e d (Z g (U a) c b e d).2.2 (Z g (U a) c b e d).2.1 (Z g (U a) c b e d).1 t x y z (f 12) (f 11) (f 10) (f 8)) (((((((((b8+1)+1)+1)+1)+1)+1)+1)+1))),(i,I (s) (H+1)),(r,I (G++[.ref (f 8)]) (b6+1)),(q,Ba p),(p,Bb w.params L m n k l K .none a5),(m,I (J g) a2),(n,I (J (U a)) a3),(k,A5 (bE w.params a) a4),(l,Ad w.params),(D,Aa [.int c t,.int b x,.int e y,.int d z]),((f 8),Aj (f 9) (Z g (U a) c b e d).2.2 (Z g (U a) c b e d).2.1 (Z g (U a) c b e d).1 (f 12) (f 11) (f 10))]) (λf=>bP 0 a) c1 λf E b5=>c0 E _ _ _ _ _ _ _ _ _ (BC.s1 _ _ _ _ _ _ _ _ _ _ _ _ _ _ _ _ _ _ _ _ _ _ _) BV b5
 |s1 c3 c4 c5 c6 c7 c8 c9 d0 f3 f4 f5 f6 f7 f8 f9 g0 e0 e1 e2 e3 e4 e5 g1=>
  exact b9.1 (λf=>[(B,AL w.params a6 a7 a8 Y a9 q b1 b0 b3 b2 i r (gx w.params c3 c4 c5 c6 c7 c8 c9 d0 c b e d (Z g (U a) c b e d).2.2 (Z g (U a) c b e d).2.1 (Z g (U a) c b e d).1 t x y z (f 12) (f 11) (f 10) (f 8)) (b8)),(i,I (s) (H+1)),(r,I (G++[.ref (f 8)]) (b6+1)),(q,Ba p),(p,Bb w.params L m n k l K .none a5),(m,I (J g) a2),(n,I (J (U a)) a3),(k,A5 (bE w.params a) a4),(l,Ad w.params),(D,Aa [.int c t,.int b x,.int e y,.int d z]),((f 8),Aj (f 9) (Z g (U a) c b e d).2.2 (Z g (U a) c b e d).2.1 (Z g (U a) c b e d).1 (f 12) (f 11) (f 10))]) (λf=>bP 0 a) c1 λf E b5=>c0 E _ _ _ _ _ _ _ _ _ (BC.s1 _ _ _ _ _ _ _ _ _ _ _ _ _ _ _ _ _ _ _ _ _ _ _) BV b5
theorem UO(d6:BC w.params d1)(d7:((U a).map (·.1)).Nodup)(d2:CU g (U a) c b e d)(b4:s.length<sizeLine-5)(e6:G.length<=sizeLine)(d5:(Z g (U a) c b e d).1≠0)(e8:c<(Z g (U a) c b e d).2.2)(g2:¬ e<(Z g (U a) c b e d).2.1)(e9:(Z g (U a) c b e d).2.2+(Z g (U a) c b e d).1<b)(g3:¬ (Z g (U a) c b e d).2.1+(Z g (U a) c b e d).1<d)(d4:Room 400 A)(c1:RepF (V w j o u) ([(B,AL w.params a6 a7 a8 Y a9 q b1 b0 b3 b2 i r d1 b8),(i,I (s++[.ref D]) H),(D,Aa [.int c t,.int b x,.int e y,.int d z]),(r,I G b6),(q,Ba p),(p,Bb w.params L m n k l K .none a5),(m,I (J g) a2),(n,I (J (U a)) a3),(k,A5 (bE w.params a) a4),(l,Ad w.params)]++bP 0 a) [] F v)(c0:∀E b7 (d3 d9 d8 c2 e7 f0 f1 f2:Nat),BC w.params b7->b7≠[]->RepF (V w j o u) ([(B,AL w.params a6 a7 a8 Y a9 q b1 b0 b3 b2 i r b7 d3),(i,I (s) d9),(r,I (G++[.ref c2]) d8),(q,Ba p),(p,Bb w.params L m n k l K .none a5),(m,I (J g) a2),(n,I (J (U a)) a3),(k,A5 (bE w.params a) a4),(l,Ad w.params),(D,Aa [.int c t,.int b x,.int e y,.int d z]),(c2,Aj e7 (Z g (U a) c b e d).2.2 (Z g (U a) c b e d).2.1 (Z g (U a) c b e d).1 f0 f1 f2)]++bP 0 a) [] F E->codeAny (model pw w) A (C8 B) R E):codeAny (model pw w) A (C8 B) R v:=by
 have b4:s.length<sizeLine:=by omega
 have b9:=Cg O d4 (C8 B) 362 0x10420810420820810c30c10032cb00b2cb0cb2cb00b2cb0cb2cb00b2cb0cb2cb00b2cb0cb2cb00b2cb0cb2cd0010400410010400410450000050000050000001460410410013800003800003800000403803cf00f3cf38f3cf00f3cf38f3cf00f3cf38f3cf00f3cf38f3d1001040041001040041041044104101041041041041041040041041040041041 [(λh=>DD i s (Value.ref D) H,[1],[]),(λh=>EB i s (Value.ref D) H,[1],[]),(λh=>EH w.params q p m n a2 a3 k l K L a4 g a Value.none a5 c b e d t x y z,[4,5,6,7,8,9],[]),(λh=>Bc (Z g (U a) c b e d).fst (C h 10) true,[],[]),(λh=>AJ r G b6 (Value.ref (C h 8)),[3],[]),(λh=>AT c (Z g (U a) c b e d).snd.snd t (C h 12) true,[],[]),(λh=>AT e (Z g (U a) c b e d).snd.fst y (C h 11) false,[],[]),(λh=>AT ((Z g (U a) c b e d).snd.snd+(Z g (U a) c b e d).fst) b (C h 20) x true,[],[]),(λh=>AT ((Z g (U a) c b e d).snd.fst+(Z g (U a) c b e d).fst) d (C h 21) z false,[],[])] [0,1,3,4,5,6,7,8,9,2,13] (HY (C7 b4) (Cw O b4) (CB O d7 d2) (Ay O (bne_iff_ne.mpr d5)) (Ag O e6) (A9 O (decide_eq_true e8)) (A9 O (decide_eq_false g2)) (A9 O (decide_eq_true e9)) (A9 O (decide_eq_false g3)))
 cases d6 with
 |s0=>
  exact b9.1 (λf=>[(B,AL w.params a6 a7 a8 Y a9 q b1 b0 b3 b2 i r (gx w.params (f 4) (f 5) (f 6) (f 7) (f 16) (f 17) (f 18) (f 19) c b e d (Z g (U a) c b e d).2.2 (Z g (U a) c b e d).2.1 (Z g (U a) c b e d).1 t x y z (f 12) (f 11) (f 10) (f 8)) (((((((((b8+1)+1)+1)+1)+1)+1)+1)+1))),(i,I (s) (H+1)),(r,I (G++[.ref (f 8)]) (b6+1)),(q,Ba p),(p,Bb w.params L m n k l K .none a5),(m,I (J g) a2),(n,I (J (U a)) a3),(k,A5 (bE w.params a) a4),(l,Ad w.params),(D,Aa [.int c t,.int b x,.int e y,.int d z]),((f 8),Aj (f 9) (Z g (U a) c b e d).2.2 (Z g (U a) c b e d).2.1 (Z g (U a) c b e d).1 (f 12) (f 11) (f 10))]) (λf=>bP 0 a) c1 λf E b5=>c0 E _ _ _ _ _ _ _ _ _ (BC.s1 _ _ _ _ _ _ _ _ _ _ _ _ _ _ _ _ _ _ _ _ _ _ _) BV b5
 |s1 c3 c4 c5 c6 c7 c8 c9 d0 f3 f4 f5 f6 f7 f8 f9 g0 e0 e1 e2 e3 e4 e5 g1=>
  exact b9.1 (λf=>[(B,AL w.params a6 a7 a8 Y a9 q b1 b0 b3 b2 i r (gx w.params c3 c4 c5 c6 c7 c8 c9 d0 c b e d (Z g (U a) c b e d).2.2 (Z g (U a) c b e d).2.1 (Z g (U a) c b e d).1 t x y z (f 12) (f 11) (f 10) (f 8)) (b8)),(i,I (s) (H+1)),(r,I (G++[.ref (f 8)]) (b6+1)),(q,Ba p),(p,Bb w.params L m n k l K .none a5),(m,I (J g) a2),(n,I (J (U a)) a3),(k,A5 (bE w.params a) a4),(l,Ad w.params),(D,Aa [.int c t,.int b x,.int e y,.int d z]),((f 8),Aj (f 9) (Z g (U a) c b e d).2.2 (Z g (U a) c b e d).2.1 (Z g (U a) c b e d).1 (f 12) (f 11) (f 10))]) (λf=>bP 0 a) c1 λf E b5=>c0 E _ _ _ _ _ _ _ _ _ (BC.s1 _ _ _ _ _ _ _ _ _ _ _ _ _ _ _ _ _ _ _ _ _ _ _) BV b5
theorem Uv(d6:BC w.params d1)(d7:((U a).map (·.1)).Nodup)(d2:CU g (U a) c b e d)(b4:s.length<sizeLine-5)(e6:G.length<=sizeLine)(d5:(Z g (U a) c b e d).1≠0)(e8:c<(Z g (U a) c b e d).2.2)(g2:¬ e<(Z g (U a) c b e d).2.1)(e9:(Z g (U a) c b e d).2.2+(Z g (U a) c b e d).1<b)(g3:(Z g (U a) c b e d).2.1+(Z g (U a) c b e d).1<d)(d4:Room 400 A)(c1:RepF (V w j o u) ([(B,AL w.params a6 a7 a8 Y a9 q b1 b0 b3 b2 i r d1 b8),(i,I (s++[.ref D]) H),(D,Aa [.int c t,.int b x,.int e y,.int d z]),(r,I G b6),(q,Ba p),(p,Bb w.params L m n k l K .none a5),(m,I (J g) a2),(n,I (J (U a)) a3),(k,A5 (bE w.params a) a4),(l,Ad w.params)]++bP 0 a) [] F v)(c0:∀E b7 (d3 d9 d8 c2 e7 f0 f1 f2 g5 e4 e5 g7 g8:Nat),BC w.params b7->b7≠[]->RepF (V w j o u) ([(B,AL w.params a6 a7 a8 Y a9 q b1 b0 b3 b2 i r b7 d3),(i,I (s++[.ref g5]) d9),(r,I (G++[.ref c2]) d8),(q,Ba p),(p,Bb w.params L m n k l K .none a5),(m,I (J g) a2),(n,I (J (U a)) a3),(k,A5 (bE w.params a) a4),(l,Ad w.params),(D,Aa [.int c t,.int b x,.int e y,.int d z]),(c2,Aj e7 (Z g (U a) c b e d).2.2 (Z g (U a) c b e d).2.1 (Z g (U a) c b e d).1 f0 f1 f2),(g5,Aa [.int ((Z g (U a) c b e d).2.2+(Z g (U a) c b e d).1) e4,.int b e5,.int ((Z g (U a) c b e d).2.1+(Z g (U a) c b e d).1) g7,.int d g8])]++bP 0 a) [] F E->codeAny (model pw w) A (C8 B) R E):codeAny (model pw w) A (C8 B) R v:=by
 have b4:s.length<sizeLine:=by omega
 have b9:=Cg O d4 (C8 B) 398 0x10420810420820810c30c10032cb00b2cb0cb2cb00b2cb0cb2cb00b2cb0cb2cb00b2cb0cb2cb00b2cb0cb2cd0010400410010400410450000050000050000001460410410013800003800003800000403803cf00f3cf38f3cf00f3cf38f3cf00f3cf38f3cf00f3cf38f3d1001040041001040041041044104101041041041041041040041041040041041082082041001041001041 [(λh=>DD i s (Value.ref D) H,[1],[]),(λh=>EB i s (Value.ref D) H,[1],[]),(λh=>EH w.params q p m n a2 a3 k l K L a4 g a Value.none a5 c b e d t x y z,[4,5,6,7,8,9],[]),(λh=>Bc (Z g (U a) c b e d).fst (C h 10) true,[],[]),(λh=>AJ r G b6 (Value.ref (C h 8)),[3],[]),(λh=>AT c (Z g (U a) c b e d).snd.snd t (C h 12) true,[],[]),(λh=>AT e (Z g (U a) c b e d).snd.fst y (C h 11) false,[],[]),(λh=>AT ((Z g (U a) c b e d).snd.snd+(Z g (U a) c b e d).fst) b (C h 20) x true,[],[]),(λh=>AT ((Z g (U a) c b e d).snd.fst+(Z g (U a) c b e d).fst) d (C h 21) z true,[],[]),(λh=>AJ i s H.succ (Value.ref (C h 24)),[1],[])] [0,1,3,4,5,6,7,8,9,2,13,17] (H4 (C7 b4) (Cw O b4) (CB O d7 d2) (Ay O (bne_iff_ne.mpr d5)) (Ag O e6) (A9 O (decide_eq_true e8)) (A9 O (decide_eq_false g2)) (A9 O (decide_eq_true e9)) (A9 O (decide_eq_true g3)) (Ag O (by first |(exact Nat.le_of_lt ‹_›) |(simp; omega))))
 cases d6 with
 |s0=>
  exact b9.1 (λf=>[(B,AL w.params a6 a7 a8 Y a9 q b1 b0 b3 b2 i r (gx w.params (f 4) (f 5) (f 6) (f 7) (f 16) (f 17) (f 18) (f 19) c b e d (Z g (U a) c b e d).2.2 (Z g (U a) c b e d).2.1 (Z g (U a) c b e d).1 t x y z (f 12) (f 11) (f 10) (f 8)) (((((((((b8+1)+1)+1)+1)+1)+1)+1)+1))),(i,I (s++[.ref (f 24)]) ((H+1)+1)),(r,I (G++[.ref (f 8)]) (b6+1)),(q,Ba p),(p,Bb w.params L m n k l K .none a5),(m,I (J g) a2),(n,I (J (U a)) a3),(k,A5 (bE w.params a) a4),(l,Ad w.params),(D,Aa [.int c t,.int b x,.int e y,.int d z]),((f 8),Aj (f 9) (Z g (U a) c b e d).2.2 (Z g (U a) c b e d).2.1 (Z g (U a) c b e d).1 (f 12) (f 11) (f 10)),(f 24,Aa [.int ((Z g (U a) c b e d).2.2+(Z g (U a) c b e d).1) (f 22),.int b x,.int ((Z g (U a) c b e d).2.1+(Z g (U a) c b e d).1) (f 23),.int d z])]) (λf=>bP 0 a) c1 λf E b5=>c0 E _ _ _ _ _ _ _ _ _ _ _ _ _ _ (BC.s1 _ _ _ _ _ _ _ _ _ _ _ _ _ _ _ _ _ _ _ _ _ _ _) BV b5
 |s1 c3 c4 c5 c6 c7 c8 c9 d0 f3 f4 f5 f6 f7 f8 f9 g0 e0 e1 e2 e3 e4 e5 g1=>
  exact b9.1 (λf=>[(B,AL w.params a6 a7 a8 Y a9 q b1 b0 b3 b2 i r (gx w.params c3 c4 c5 c6 c7 c8 c9 d0 c b e d (Z g (U a) c b e d).2.2 (Z g (U a) c b e d).2.1 (Z g (U a) c b e d).1 t x y z (f 12) (f 11) (f 10) (f 8)) (b8)),(i,I (s++[.ref (f 24)]) ((H+1)+1)),(r,I (G++[.ref (f 8)]) (b6+1)),(q,Ba p),(p,Bb w.params L m n k l K .none a5),(m,I (J g) a2),(n,I (J (U a)) a3),(k,A5 (bE w.params a) a4),(l,Ad w.params),(D,Aa [.int c t,.int b x,.int e y,.int d z]),((f 8),Aj (f 9) (Z g (U a) c b e d).2.2 (Z g (U a) c b e d).2.1 (Z g (U a) c b e d).1 (f 12) (f 11) (f 10)),(f 24,Aa [.int ((Z g (U a) c b e d).2.2+(Z g (U a) c b e d).1) (f 22),.int b x,.int ((Z g (U a) c b e d).2.1+(Z g (U a) c b e d).1) (f 23),.int d z])]) (λf=>bP 0 a) c1 λf E b5=>c0 E _ _ _ _ _ _ _ _ _ _ _ _ _ _ (BC.s1 _ _ _ _ _ _ _ _ _ _ _ _ _ _ _ _ _ _ _ _ _ _ _) BV b5
theorem TS(d6:BC w.params d1)(d7:((U a).map (·.1)).Nodup)(d2:CU g (U a) c b e d)(b4:s.length<sizeLine-5)(e6:G.length<=sizeLine)(d5:(Z g (U a) c b e d).1≠0)(e8:c<(Z g (U a) c b e d).2.2)(g2:e<(Z g (U a) c b e d).2.1)(e9:¬ (Z g (U a) c b e d).2.2+(Z g (U a) c b e d).1<b)(d4:Room 400 A)(c1:RepF (V w j o u) ([(B,AL w.params a6 a7 a8 Y a9 q b1 b0 b3 b2 i r d1 b8),(i,I (s++[.ref D]) H),(D,Aa [.int c t,.int b x,.int e y,.int d z]),(r,I G b6),(q,Ba p),(p,Bb w.params L m n k l K .none a5),(m,I (J g) a2),(n,I (J (U a)) a3),(k,A5 (bE w.params a) a4),(l,Ad w.params)]++bP 0 a) [] F v)(c0:∀E b7 (d3 d9 d8 c2 e7 f0 f1 f2 g4 e0 e1 e2 e3:Nat),BC w.params b7->b7≠[]->RepF (V w j o u) ([(B,AL w.params a6 a7 a8 Y a9 q b1 b0 b3 b2 i r b7 d3),(i,I (s++[.ref g4]) d9),(r,I (G++[.ref c2]) d8),(q,Ba p),(p,Bb w.params L m n k l K .none a5),(m,I (J g) a2),(n,I (J (U a)) a3),(k,A5 (bE w.params a) a4),(l,Ad w.params),(D,Aa [.int c t,.int b x,.int e y,.int d z]),(c2,Aj e7 (Z g (U a) c b e d).2.2 (Z g (U a) c b e d).2.1 (Z g (U a) c b e d).1 f0 f1 f2),(g4,Aa [.int c e0,.int (Z g (U a) c b e d).2.2 e1,.int e e2,.int (Z g (U a) c b e d).2.1 e3])]++bP 0 a) [] F E->codeAny (model pw w) A (C8 B) R E):codeAny (model pw w) A (C8 B) R v:=by
 have b4:s.length<sizeLine:=by omega
 have b9:=Cg O d4 (C8 B) 370 0x10420810420820810c30c10032cb00b2cb0cb2cb00b2cb0cb2cb00b2cb0cb2cb00b2cb0cb2cb00b2cb0cb2cd0010400410010400410450000050000050000001460410410013800003800003800000403803cf00f3cf38f3cf00f3cf38f3cf00f3cf38f3cf00f3cf38f3d1001040041001040041041044104101041041041041041082082041041041040041041 [(λh=>DD i s (Value.ref D) H,[1],[]),(λh=>EB i s (Value.ref D) H,[1],[]),(λh=>EH w.params q p m n a2 a3 k l K L a4 g a Value.none a5 c b e d t x y z,[4,5,6,7,8,9],[]),(λh=>Bc (Z g (U a) c b e d).fst (C h 10) true,[],[]),(λh=>AJ r G b6 (Value.ref (C h 8)),[3],[]),(λh=>AT c (Z g (U a) c b e d).snd.snd t (C h 12) true,[],[]),(λh=>AT e (Z g (U a) c b e d).snd.fst y (C h 11) true,[],[]),(λh=>AJ i s H.succ (Value.ref (C h 20)),[1],[]),(λh=>AT ((Z g (U a) c b e d).snd.snd+(Z g (U a) c b e d).fst) b (C h 21) x false,[],[])] [0,1,3,4,5,6,7,8,9,2,13,17] (HY (C7 b4) (Cw O b4) (CB O d7 d2) (Ay O (bne_iff_ne.mpr d5)) (Ag O e6) (A9 O (decide_eq_true e8)) (A9 O (decide_eq_true g2)) (Ag O (by first |(exact Nat.le_of_lt ‹_›) |(simp; omega))) (A9 O (decide_eq_false e9)))
 cases d6 with
 |s0=>
  exact b9.1 (λf=>[(B,AL w.params a6 a7 a8 Y a9 q b1 b0 b3 b2 i r (gx w.params (f 4) (f 5) (f 6) (f 7) (f 16) (f 17) (f 18) (f 19) c b e d (Z g (U a) c b e d).2.2 (Z g (U a) c b e d).2.1 (Z g (U a) c b e d).1 t x y z (f 12) (f 11) (f 10) (f 8)) (((((((((b8+1)+1)+1)+1)+1)+1)+1)+1))),(i,I (s++[.ref (f 20)]) ((H+1)+1)),(r,I (G++[.ref (f 8)]) (b6+1)),(q,Ba p),(p,Bb w.params L m n k l K .none a5),(m,I (J g) a2),(n,I (J (U a)) a3),(k,A5 (bE w.params a) a4),(l,Ad w.params),(D,Aa [.int c t,.int b x,.int e y,.int d z]),((f 8),Aj (f 9) (Z g (U a) c b e d).2.2 (Z g (U a) c b e d).2.1 (Z g (U a) c b e d).1 (f 12) (f 11) (f 10)),(f 20,Aa [.int c t,.int (Z g (U a) c b e d).2.2 (f 12),.int e y,.int (Z g (U a) c b e d).2.1 (f 11)])]) (λf=>bP 0 a) c1 λf E b5=>c0 E _ _ _ _ _ _ _ _ _ _ _ _ _ _ (BC.s1 _ _ _ _ _ _ _ _ _ _ _ _ _ _ _ _ _ _ _ _ _ _ _) BV b5
 |s1 c3 c4 c5 c6 c7 c8 c9 d0 f3 f4 f5 f6 f7 f8 f9 g0 e0 e1 e2 e3 e4 e5 g1=>
  exact b9.1 (λf=>[(B,AL w.params a6 a7 a8 Y a9 q b1 b0 b3 b2 i r (gx w.params c3 c4 c5 c6 c7 c8 c9 d0 c b e d (Z g (U a) c b e d).2.2 (Z g (U a) c b e d).2.1 (Z g (U a) c b e d).1 t x y z (f 12) (f 11) (f 10) (f 8)) (b8)),(i,I (s++[.ref (f 20)]) ((H+1)+1)),(r,I (G++[.ref (f 8)]) (b6+1)),(q,Ba p),(p,Bb w.params L m n k l K .none a5),(m,I (J g) a2),(n,I (J (U a)) a3),(k,A5 (bE w.params a) a4),(l,Ad w.params),(D,Aa [.int c t,.int b x,.int e y,.int d z]),((f 8),Aj (f 9) (Z g (U a) c b e d).2.2 (Z g (U a) c b e d).2.1 (Z g (U a) c b e d).1 (f 12) (f 11) (f 10)),(f 20,Aa [.int c t,.int (Z g (U a) c b e d).2.2 (f 12),.int e y,.int (Z g (U a) c b e d).2.1 (f 11)])]) (λf=>bP 0 a) c1 λf E b5=>c0 E _ _ _ _ _ _ _ _ _ _ _ _ _ _ (BC.s1 _ _ _ _ _ _ _ _ _ _ _ _ _ _ _ _ _ _ _ _ _ _ _) BV b5
theorem Us(d6:BC w.params d1)(d7:((U a).map (·.1)).Nodup)(d2:CU g (U a) c b e d)(b4:s.length<sizeLine-5)(e6:G.length<=sizeLine)(d5:(Z g (U a) c b e d).1≠0)(e8:c<(Z g (U a) c b e d).2.2)(g2:e<(Z g (U a) c b e d).2.1)(e9:(Z g (U a) c b e d).2.2+(Z g (U a) c b e d).1<b)(g3:¬ (Z g (U a) c b e d).2.1+(Z g (U a) c b e d).1<d)(d4:Room 400 A)(c1:RepF (V w j o u) ([(B,AL w.params a6 a7 a8 Y a9 q b1 b0 b3 b2 i r d1 b8),(i,I (s++[.ref D]) H),(D,Aa [.int c t,.int b x,.int e y,.int d z]),(r,I G b6),(q,Ba p),(p,Bb w.params L m n k l K .none a5),(m,I (J g) a2),(n,I (J (U a)) a3),(k,A5 (bE w.params a) a4),(l,Ad w.params)]++bP 0 a) [] F v)(c0:∀E b7 (d3 d9 d8 c2 e7 f0 f1 f2 g4 e0 e1 e2 e3:Nat),BC w.params b7->b7≠[]->RepF (V w j o u) ([(B,AL w.params a6 a7 a8 Y a9 q b1 b0 b3 b2 i r b7 d3),(i,I (s++[.ref g4]) d9),(r,I (G++[.ref c2]) d8),(q,Ba p),(p,Bb w.params L m n k l K .none a5),(m,I (J g) a2),(n,I (J (U a)) a3),(k,A5 (bE w.params a) a4),(l,Ad w.params),(D,Aa [.int c t,.int b x,.int e y,.int d z]),(c2,Aj e7 (Z g (U a) c b e d).2.2 (Z g (U a) c b e d).2.1 (Z g (U a) c b e d).1 f0 f1 f2),(g4,Aa [.int c e0,.int (Z g (U a) c b e d).2.2 e1,.int e e2,.int (Z g (U a) c b e d).2.1 e3])]++bP 0 a) [] F E->codeAny (model pw w) A (C8 B) R E):codeAny (model pw w) A (C8 B) R v:=by
 have b4:s.length<sizeLine:=by omega
 have b9:=Cg O d4 (C8 B) 384 0x10420810420820810c30c10032cb00b2cb0cb2cb00b2cb0cb2cb00b2cb0cb2cb00b2cb0cb2cb00b2cb0cb2cd0010400410010400410450000050000050000001460410410013800003800003800000403803cf00f3cf38f3cf00f3cf38f3cf00f3cf38f3cf00f3cf38f3d1001040041001040041041044104101041041041041041082082041041041040041041040041041 [(λh=>DD i s (Value.ref D) H,[1],[]),(λh=>EB i s (Value.ref D) H,[1],[]),(λh=>EH w.params q p m n a2 a3 k l K L a4 g a Value.none a5 c b e d t x y z,[4,5,6,7,8,9],[]),(λh=>Bc (Z g (U a) c b e d).fst (C h 10) true,[],[]),(λh=>AJ r G b6 (Value.ref (C h 8)),[3],[]),(λh=>AT c (Z g (U a) c b e d).snd.snd t (C h 12) true,[],[]),(λh=>AT e (Z g (U a) c b e d).snd.fst y (C h 11) true,[],[]),(λh=>AJ i s H.succ (Value.ref (C h 20)),[1],[]),(λh=>AT ((Z g (U a) c b e d).snd.snd+(Z g (U a) c b e d).fst) b (C h 21) x true,[],[]),(λh=>AT ((Z g (U a) c b e d).snd.fst+(Z g (U a) c b e d).fst) d (C h 22) z false,[],[])] [0,1,3,4,5,6,7,8,9,2,13,17] (H4 (C7 b4) (Cw O b4) (CB O d7 d2) (Ay O (bne_iff_ne.mpr d5)) (Ag O e6) (A9 O (decide_eq_true e8)) (A9 O (decide_eq_true g2)) (Ag O (by first |(exact Nat.le_of_lt ‹_›) |(simp; omega))) (A9 O (decide_eq_true e9)) (A9 O (decide_eq_false g3)))
 cases d6 with
 |s0=>
  exact b9.1 (λf=>[(B,AL w.params a6 a7 a8 Y a9 q b1 b0 b3 b2 i r (gx w.params (f 4) (f 5) (f 6) (f 7) (f 16) (f 17) (f 18) (f 19) c b e d (Z g (U a) c b e d).2.2 (Z g (U a) c b e d).2.1 (Z g (U a) c b e d).1 t x y z (f 12) (f 11) (f 10) (f 8)) (((((((((b8+1)+1)+1)+1)+1)+1)+1)+1))),(i,I (s++[.ref (f 20)]) ((H+1)+1)),(r,I (G++[.ref (f 8)]) (b6+1)),(q,Ba p),(p,Bb w.params L m n k l K .none a5),(m,I (J g) a2),(n,I (J (U a)) a3),(k,A5 (bE w.params a) a4),(l,Ad w.params),(D,Aa [.int c t,.int b x,.int e y,.int d z]),((f 8),Aj (f 9) (Z g (U a) c b e d).2.2 (Z g (U a) c b e d).2.1 (Z g (U a) c b e d).1 (f 12) (f 11) (f 10)),(f 20,Aa [.int c t,.int (Z g (U a) c b e d).2.2 (f 12),.int e y,.int (Z g (U a) c b e d).2.1 (f 11)])]) (λf=>bP 0 a) c1 λf E b5=>c0 E _ _ _ _ _ _ _ _ _ _ _ _ _ _ (BC.s1 _ _ _ _ _ _ _ _ _ _ _ _ _ _ _ _ _ _ _ _ _ _ _) BV b5
 |s1 c3 c4 c5 c6 c7 c8 c9 d0 f3 f4 f5 f6 f7 f8 f9 g0 e0 e1 e2 e3 e4 e5 g1=>
  exact b9.1 (λf=>[(B,AL w.params a6 a7 a8 Y a9 q b1 b0 b3 b2 i r (gx w.params c3 c4 c5 c6 c7 c8 c9 d0 c b e d (Z g (U a) c b e d).2.2 (Z g (U a) c b e d).2.1 (Z g (U a) c b e d).1 t x y z (f 12) (f 11) (f 10) (f 8)) (b8)),(i,I (s++[.ref (f 20)]) ((H+1)+1)),(r,I (G++[.ref (f 8)]) (b6+1)),(q,Ba p),(p,Bb w.params L m n k l K .none a5),(m,I (J g) a2),(n,I (J (U a)) a3),(k,A5 (bE w.params a) a4),(l,Ad w.params),(D,Aa [.int c t,.int b x,.int e y,.int d z]),((f 8),Aj (f 9) (Z g (U a) c b e d).2.2 (Z g (U a) c b e d).2.1 (Z g (U a) c b e d).1 (f 12) (f 11) (f 10)),(f 20,Aa [.int c t,.int (Z g (U a) c b e d).2.2 (f 12),.int e y,.int (Z g (U a) c b e d).2.1 (f 11)])]) (λf=>bP 0 a) c1 λf E b5=>c0 E _ _ _ _ _ _ _ _ _ _ _ _ _ _ (BC.s1 _ _ _ _ _ _ _ _ _ _ _ _ _ _ _ _ _ _ _ _ _ _ _) BV b5
theorem Tz(d6:BC w.params d1)(d7:((U a).map (·.1)).Nodup)(d2:CU g (U a) c b e d)(b4:s.length<sizeLine-5)(e6:G.length<=sizeLine)(d5:(Z g (U a) c b e d).1≠0)(e8:c<(Z g (U a) c b e d).2.2)(g2:e<(Z g (U a) c b e d).2.1)(e9:(Z g (U a) c b e d).2.2+(Z g (U a) c b e d).1<b)(g3:(Z g (U a) c b e d).2.1+(Z g (U a) c b e d).1<d)(d4:Room 400 A)(c1:RepF (V w j o u) ([(B,AL w.params a6 a7 a8 Y a9 q b1 b0 b3 b2 i r d1 b8),(i,I (s++[.ref D]) H),(D,Aa [.int c t,.int b x,.int e y,.int d z]),(r,I G b6),(q,Ba p),(p,Bb w.params L m n k l K .none a5),(m,I (J g) a2),(n,I (J (U a)) a3),(k,A5 (bE w.params a) a4),(l,Ad w.params)]++bP 0 a) [] F v)(c0:∀E b7 (d3 d9 d8 c2 e7 f0 f1 f2 g4 e0 e1 e2 e3 g5 e4 e5 g7 g8:Nat),BC w.params b7->b7≠[]->RepF (V w j o u) ([(B,AL w.params a6 a7 a8 Y a9 q b1 b0 b3 b2 i r b7 d3),(i,I (s++[.ref g4]++[.ref g5]) d9),(r,I (G++[.ref c2]) d8),(q,Ba p),(p,Bb w.params L m n k l K .none a5),(m,I (J g) a2),(n,I (J (U a)) a3),(k,A5 (bE w.params a) a4),(l,Ad w.params),(D,Aa [.int c t,.int b x,.int e y,.int d z]),(c2,Aj e7 (Z g (U a) c b e d).2.2 (Z g (U a) c b e d).2.1 (Z g (U a) c b e d).1 f0 f1 f2),(g4,Aa [.int c e0,.int (Z g (U a) c b e d).2.2 e1,.int e e2,.int (Z g (U a) c b e d).2.1 e3]),(g5,Aa [.int ((Z g (U a) c b e d).2.2+(Z g (U a) c b e d).1) e4,.int b e5,.int ((Z g (U a) c b e d).2.1+(Z g (U a) c b e d).1) g7,.int d g8])]++bP 0 a) [] F E->codeAny (model pw w) A (C8 B) R E):codeAny (model pw w) A (C8 B) R v:=by
 have b4:s.length<sizeLine:=by omega
 have b9:=Cg O d4 (C8 B) 420 0x10420810420820810c30c10032cb00b2cb0cb2cb00b2cb0cb2cb00b2cb0cb2cb00b2cb0cb2cb00b2cb0cb2cd0010400410010400410450000050000050000001460410410013800003800003800000403803cf00f3cf38f3cf00f3cf38f3cf00f3cf38f3cf00f3cf38f3d1001040041001040041041044104101041041041041041082082041041041040041041040041041082082041001041001041 [(λh=>DD i s (Value.ref D) H,[1],[]),(λh=>EB i s (Value.ref D) H,[1],[]),(λh=>EH w.params q p m n a2 a3 k l K L a4 g a Value.none a5 c b e d t x y z,[4,5,6,7,8,9],[]),(λh=>Bc (Z g (U a) c b e d).fst (C h 10) true,[],[]),(λh=>AJ r G b6 (Value.ref (C h 8)),[3],[]),(λh=>AT c (Z g (U a) c b e d).snd.snd t (C h 12) true,[],[]),(λh=>AT e (Z g (U a) c b e d).snd.fst y (C h 11) true,[],[]),(λh=>AJ i s H.succ (Value.ref (C h 20)),[1],[]),(λh=>AT ((Z g (U a) c b e d).snd.snd+(Z g (U a) c b e d).fst) b (C h 21) x true,[],[]),(λh=>AT ((Z g (U a) c b e d).snd.fst+(Z g (U a) c b e d).fst) d (C h 22) z true,[],[]),(λh=>AJ i (s++[Value.ref (C h 20)]) H.succ.succ (Value.ref (C h 25)),[1],[])] [0,1,3,4,5,6,7,8,9,2,13,17,18] (Od (C7 b4) (Cw O b4) (CB O d7 d2) (Ay O (bne_iff_ne.mpr d5)) (Ag O e6) (A9 O (decide_eq_true e8)) (A9 O (decide_eq_true g2)) (Ag O (by first |(exact Nat.le_of_lt ‹_›) |(simp; omega))) (A9 O (decide_eq_true e9)) (A9 O (decide_eq_true g3)) (Ag O (by first |omega |(simp; assumption))))
 cases d6 with
 |s0=>
  exact b9.1 (λf=>[(B,AL w.params a6 a7 a8 Y a9 q b1 b0 b3 b2 i r (gx w.params (f 4) (f 5) (f 6) (f 7) (f 16) (f 17) (f 18) (f 19) c b e d (Z g (U a) c b e d).2.2 (Z g (U a) c b e d).2.1 (Z g (U a) c b e d).1 t x y z (f 12) (f 11) (f 10) (f 8)) (((((((((b8+1)+1)+1)+1)+1)+1)+1)+1))),(i,I (s++[.ref (f 20)]++[.ref (f 25)]) (((H+1)+1)+1)),(r,I (G++[.ref (f 8)]) (b6+1)),(q,Ba p),(p,Bb w.params L m n k l K .none a5),(m,I (J g) a2),(n,I (J (U a)) a3),(k,A5 (bE w.params a) a4),(l,Ad w.params),(D,Aa [.int c t,.int b x,.int e y,.int d z]),((f 8),Aj (f 9) (Z g (U a) c b e d).2.2 (Z g (U a) c b e d).2.1 (Z g (U a) c b e d).1 (f 12) (f 11) (f 10)),(f 20,Aa [.int c t,.int (Z g (U a) c b e d).2.2 (f 12),.int e y,.int (Z g (U a) c b e d).2.1 (f 11)]),(f 25,Aa [.int ((Z g (U a) c b e d).2.2+(Z g (U a) c b e d).1) (f 23),.int b x,.int ((Z g (U a) c b e d).2.1+(Z g (U a) c b e d).1) (f 24),.int d z])]) (λf=>bP 0 a) c1 λf E b5=>c0 E _ _ _ _ _ _ _ _ _ _ _ _ _ _ _ _ _ _ _ (BC.s1 _ _ _ _ _ _ _ _ _ _ _ _ _ _ _ _ _ _ _ _ _ _ _) BV b5
 |s1 c3 c4 c5 c6 c7 c8 c9 d0 f3 f4 f5 f6 f7 f8 f9 g0 e0 e1 e2 e3 e4 e5 g1=>
  exact b9.1 (λf=>[(B,AL w.params a6 a7 a8 Y a9 q b1 b0 b3 b2 i r (gx w.params c3 c4 c5 c6 c7 c8 c9 d0 c b e d (Z g (U a) c b e d).2.2 (Z g (U a) c b e d).2.1 (Z g (U a) c b e d).1 t x y z (f 12) (f 11) (f 10) (f 8)) (b8)),(i,I (s++[.ref (f 20)]++[.ref (f 25)]) (((H+1)+1)+1)),(r,I (G++[.ref (f 8)]) (b6+1)),(q,Ba p),(p,Bb w.params L m n k l K .none a5),(m,I (J g) a2),(n,I (J (U a)) a3),(k,A5 (bE w.params a) a4),(l,Ad w.params),(D,Aa [.int c t,.int b x,.int e y,.int d z]),((f 8),Aj (f 9) (Z g (U a) c b e d).2.2 (Z g (U a) c b e d).2.1 (Z g (U a) c b e d).1 (f 12) (f 11) (f 10)),(f 20,Aa [.int c t,.int (Z g (U a) c b e d).2.2 (f 12),.int e y,.int (Z g (U a) c b e d).2.1 (f 11)]),(f 25,Aa [.int ((Z g (U a) c b e d).2.2+(Z g (U a) c b e d).1) (f 23),.int b x,.int ((Z g (U a) c b e d).2.1+(Z g (U a) c b e d).1) (f 24),.int d z])]) (λf=>bP 0 a) c1 λf E b5=>c0 E _ _ _ _ _ _ _ _ _ _ _ _ _ _ _ _ _ _ _ (BC.s1 _ _ _ _ _ _ _ _ _ _ _ _ _ _ _ _ _ _ _ _ _ _ _) BV b5
end
end
section
noncomputable abbrev Q4:=Int×Int×Int×Int
noncomputable abbrev Ak(a c:List (Str×Nat))(b:Q4):Eu:=Z a c b.1 b.2.1 b.2.2.1 b.2.2.2
noncomputable abbrev GU(a c:List (Str×Nat))(b:Q4):Prop:=CU a c b.1 b.2.1 b.2.2.1 b.2.2.2
noncomputable def Bg(a c:List (Str×Nat))(b:Q4):List Q4:=
 (if(Ak a c b).2.2+(Ak a c b).1<b.2.1/\(Ak a c b).2.1+(Ak a c b).1<b.2.2.2 then[((Ak a c b).2.2+(Ak a c b).1,b.2.1,(Ak a c b).2.1+(Ak a c b).1,b.2.2.2)] else[]) ++
 (if b.1<(Ak a c b).2.2/\b.2.2.1<(Ak a c b).2.1 then[(b.1,(Ak a c b).2.2,b.2.2.1,(Ak a c b).2.1)] else[])
noncomputable abbrev DW(a c:List (Str×Nat))(b:Q4):Int×Int×Int:=((Ak a c b).2.2,(Ak a c b).2.1,(Ak a c b).1)
noncomputable def qF(a c:List (Str×Nat)):Nat->List Q4->List (Int×Int×Int)->List (Int×Int×Int)
 |0,_,m=>m
 |_+1,[],m=>m
 |n+1,b::v,m=>if(Ak a c b).1=0 then qF a c n v m else qF a c n (Bg a c b++v) (m++[DW a c b])
noncomputable def DZ:List Q4->Nat
 |[]=>0
 |b::v=>2*(b.2.1-b.1).toNat+1+DZ v
theorem DX:∀(f b:List Q4),DZ (f++b)=DZ f+DZ b
 |[],b=>by simp[DZ]
 |x::f,b=>by
  show 2*(x.2.1-x.1).toNat+1+DZ (f++b)=2*(x.2.1-x.1).toNat+1+DZ f+DZ b
  rw[DX f b]; lia
theorem G6:∀(f:List Q4),f.length<=DZ f
 |[]=>Nat.le_refl _
 |x::f=>by
  have:=G6 f
  show f.length+1<=2*(x.2.1-x.1).toNat+1+DZ f
  lia
theorem GC{a c:List (Str×Nat)}{b:Q4}(S:(c.map (·.1)).Nodup)(e:GU a c b)(a9:(Ak a c b).1≠0):DZ (Bg a c b)+1<=2*(b.2.1-b.1).toNat+1:=by
 have i:=Ds S e
 have c4:=i.i0; have g2:=i.i1; have c5:=i.s0
 unfold Bg
 rw[DX]
 have d4:DZ (if(Ak a c b).2.2+(Ak a c b).1<b.2.1/\(Ak a c b).2.1+(Ak a c b).1<b.2.2.2 then[((Ak a c b).2.2+(Ak a c b).1,b.2.1,(Ak a c b).2.1+(Ak a c b).1,b.2.2.2)] else[])<=2*(b.2.1-((Ak a c b).2.2+(Ak a c b).1)).toNat+1:=by
  split <;> simp[DZ]
 have d5:DZ (if b.1<(Ak a c b).2.2/\b.2.2.1<(Ak a c b).2.1 then[(b.1,(Ak a c b).2.2,b.2.2.1,(Ak a c b).2.1)] else[])<=2*((Ak a c b).2.2-b.1).toNat+1:=by
  split <;> simp[DZ]
 have a6:1<=(Ak a c b).1:=by
  have:0<=(Ak a c b).1:=c5
  lia
 have a7:b.1<=(Ak a c b).2.2:=c4
 have a8:(Ak a c b).2.2+(Ak a c b).1<=b.2.1:=g2
 omega
theorem F7{a c:List (Str×Nat)}{b:Q4}(S:(c.map (·.1)).Nodup)(e:GU a c b):∀a5∈Bg a c b,GU a c a5:=by
 have i:=Ds S e
 have a6:b.1<=(Ak a c b).2.2:=i.i0
 have a7:(Ak a c b).2.2+(Ak a c b).1<=b.2.1:=i.i1
 have a8:b.2.2.1<=(Ak a c b).2.1:=i.j0
 have c6:(Ak a c b).2.1+(Ak a c b).1<=b.2.2.2:=i.j1
 have d6:0<=(Ak a c b).1:=i.s0
 have c8:=e.a0; have d7:=e.a1; have c9:=e.a2; have d0:=e.b0; have d8:=e.b1; have d1:=e.b2
 intro a5 h
 unfold Bg at h
 rcases List.mem_append.mp h with h |h
 ·split at h
  ·rw[List.mem_singleton.mp h]
   exact⟨by show 0<=(Ak a c b).2.2+(Ak a c b).1; lia,a7,c9,by show 0<=(Ak a c b).2.1+(Ak a c b).1; lia,c6,d1,e.s1,e.s2⟩
  ·cases h
 ·split at h
  ·rw[List.mem_singleton.mp h]
   exact⟨c8,a6,by show(Ak a c b).2.2<=a.length; lia,d0,a8,by show(Ak a c b).2.1<=c.length; lia,e.s1,e.s2⟩
  ·cases h
noncomputable abbrev EA:=Nat×Q4×Nat×Nat×Nat×Nat
noncomputable abbrev BX:=Nat×Nat×(Int×Int×Int)×Nat×Nat×Nat
noncomputable def Bm(k:List EA):List Value:=(k.map λd=>Value.ref d.1).reverse
noncomputable def qP(k:List EA):An:=k.map λd=>(d.1,Aa [.int d.2.1.1 d.2.2.1,.int d.2.1.2.1 d.2.2.2.1,.int d.2.1.2.2.1 d.2.2.2.2.1,.int d.2.1.2.2.2 d.2.2.2.2.2])
noncomputable def A4(g:List BX):List Value:=g.map λd=>Value.ref d.1
noncomputable def mP(g:List BX):An:=g.map λd=>(d.1,Aj d.2.1 d.2.2.1.1 d.2.2.1.2.1 d.2.2.1.2.2 d.2.2.2.1 d.2.2.2.2.1 d.2.2.2.2.2)
theorem KE(d:EA)(k:List EA):Bm (d::k)=Bm k++[.ref d.1]:=by simp[Bm]
theorem LG(k:List EA):(Bm k).length=k.length:=by simp[Bm]
theorem BA(g:List BX)(d:BX):A4 (g++[d])=A4 g++[.ref d.1]:=by simp[A4]
theorem D5(g:List BX):(A4 g).length=g.length:=by simp[A4]
theorem Kg(g:List BX)(d:BX):mP (g++[d])=mP g++mP [d]:=by simp[mP]
section
variable{q B D E Y G p:Nat}{P N:Int}{a1 a0 l Q:Nat}{X L M c0 c1 y z a4:Nat}{b0:Nat->Nat}{c2:Nat}{a:List (Str×Nat)}{T:List Bt}{c3:Value}
noncomputable def DI(t:Params)(p X L M c0 c1 y z a4:Nat)(b0:Nat->Nat)(c2:Nat)(a:List (Str×Nat))(T:List Bt)(c3:Value):An:=
 [(p,Ba X),(X,Bb t b0 L M y z a4 .none c3),(L,I (J a) c0),(M,I (J (U T)) c1),(y,A5 (bE t T) c2),(z,Ad t)]
include O
theorem Sf{r:Nat}{a3:An}(c7:Room 400 A){a2:List DictEntry}{H:Nat}(K:RepF (V w j o u) ([(q,AL w.params B D E Y G p P N a1 a0 l Q a2 H),(l,I [] r)]++a3) [] F v)(a9:∀s,RepF (V w j o u) ([(q,AL w.params B D E Y G p P N a1 a0 l Q a2 H),(l,I [] r)]++a3) [] F s->R (.ok .next) s):codeAny (model pw w) A (C8 q) R v:=by
 have K:=RepF.out K (List.Perm.refl _)
 exact Ck O c7 _ 60 0x41082040 [(λd9=>AA l [] r,[1],[])] [0,1] (Bo (Ae (by decide))) (λ_=>[(q,AL w.params B D E Y G p P N a1 a0 l Q a2 H),(l,I [] r)]) K
  λd3 s d2=>a9 s (RepF.into d2)
end
end
section
theorem L9{α:Type}:∀{L M:List (List α)},L.Perm M->L.flatten.Perm M.flatten:=by
 intro L M i
 induction i with
 |nil=>exact List.Perm.refl _
 |cons h0 _ h6=>simpa using h6.append_left h0
 |swap h0 i3 i2=>
  simp only[List.flatten_cons,<-List.append_assoc]
  exact(List.perm_append_comm).append_right _
 |trans _ _ f7 a0=>exact f7.trans a0
theorem RepF.segs{g4:Cx}{g2 g3:An}{g1:Gs}{g8:Shared}{g5 g7:List An}(g9:List An)(h7:List Nat)(i:RepF g4 g2 g1 F g8)(h3:Mine.sel h7 g9=some (g5,g7))(f0:g2=g9.flatten)(s:g3=g5.flatten++g7.flatten):RepF g4 g3 g1 F g8:=by
 subst f0 s
 refine RepF.perm i ?_
 have:=L9 (F0 h3)
 rw[List.flatten_append] at this
 exact this.symm
section
variable{e5 e6 e7 e8 Y e9 H:Nat}{f2 f1:Int}{f5 f4 d6 d4:Nat}{b8 b2 b3 b4 b5 S T X:Nat}{a2:Nat->Nat}{b6:Nat}{f:List (Str×Nat)}{a:List Bt}{b7:Value}
include O
theorem MN(d5:((U a).map (·.1)).Nodup){n:EA}{k:List EA}{E:List BX}{f6:List DictEntry}{f0 f9 f8:Nat}(c8:GU f (U a) n.2.1)(d3:BC w.params f6)(i1:k.length<1000)(i0:E.length<1000)(d0:Room 400 A)(g6:RepF (V w j o u) ([(e5,AL w.params e6 e7 e8 Y e9 H f2 f1 f5 f4 d6 d4 f6 f0),(d6,I (Bm (n::k)) f9),(d4,I (A4 E) f8)]++DI w.params H b8 b2 b3 b4 b5 S T X a2 b6 f a b7++(bP 0 a++qP (n::k)++mP E)) [] F v)(h5:(Ak f (U a) n.2.1).1=0->∀h l s x t,BC w.params l->l≠[] ->
   RepF (V w j o u) ([(e5,AL w.params e6 e7 e8 Y e9 H f2 f1 f5 f4 d6 d4 l s),(d6,I (Bm k) x),(d4,I (A4 E) t)]++DI w.params H b8 b2 b3 b4 b5 S T X a2 b6 f a b7++(bP 0 a++qP k++mP E)++[(n.1,Aa [.int n.2.1.1 n.2.2.1,.int n.2.1.2.1 n.2.2.2.1,.int n.2.1.2.2.1 n.2.2.2.2.1,.int n.2.1.2.2.2 n.2.2.2.2.2])]) [] F h->codeAny (model pw w) A (C8 e5) R h)(d9:(Ak f (U a) n.2.1).1≠0->∀h l s x t (e0:List EA) (g:BX),e0.map (·.2.1)=Bg f (U a) n.2.1->g.2.2.1=DW f (U a) n.2.1->BC w.params l->l≠[] ->
   RepF (V w j o u) ([(e5,AL w.params e6 e7 e8 Y e9 H f2 f1 f5 f4 d6 d4 l s),(d6,I (Bm (e0++k)) x),(d4,I (A4 (E++[g])) t)]++DI w.params H b8 b2 b3 b4 b5 S T X a2 b6 f a b7++(bP 0 a++qP (e0++k)++mP (E++[g]))++[(n.1,Aa [.int n.2.1.1 n.2.2.1,.int n.2.1.2.1 n.2.2.2.1,.int n.2.1.2.2.1 n.2.2.2.2.1,.int n.2.1.2.2.2 n.2.2.2.2.2])]) [] F h->codeAny (model pw w) A (C8 e5) R h) :
  codeAny (model pw w) A (C8 e5) R v:=by
 obtain⟨b9,⟨d,b,e,c⟩,e1,e2,e3,e4⟩:=n
 have h9:sizeLine=16777216:=sizeLine_eq
 have d2:(Bm k).length<sizeLine-5:=by rw[LG]; omega
 have d1:(A4 E).length<=sizeLine:=by rw[D5]; lia
 rw[KE] at g6
 have f7:RepF (V w j o u) (([(e5,AL w.params e6 e7 e8 Y e9 H f2 f1 f5 f4 d6 d4 f6 f0),(d6,I (Bm k++[.ref b9]) f9),(b9,Aa [.int d e1,.int b e2,.int e e3,.int c e4]),(d4,I (A4 E) f8)]++DI w.params H b8 b2 b3 b4 b5 S T X a2 b6 f a b7++bP 0 a)++(qP k++mP E)) [] F v:=
  RepF.segs [[(e5,AL w.params e6 e7 e8 Y e9 H f2 f1 f5 f4 d6 d4 f6 f0)],[(d6,I (Bm k++[.ref b9]) f9)],[(d4,I (A4 E) f8)],DI w.params H b8 b2 b3 b4 b5 S T X a2 b6 f a b7,bP 0 a,[(b9,Aa [.int d e1,.int b e2,.int e e3,.int c e4])],qP k,mP E] [0,0,3,0,0,0,0,0] g6 rfl (by simp[qP]) (by simp)
 have a0:=RepF.out f7 (List.Perm.refl _)
 have h2:∀{h:Shared} {L M c9:Addr×Obj},RepF (V w j o u) ([L,M,c9]++DI w.params H b8 b2 b3 b4 b5 S T X a2 b6 f a b7++[(b9,Aa [.int d e1,.int b e2,.int e e3,.int c e4])]++bP 0 a) [] (qP k++mP E++F.1,F.2) h ->
   RepF (V w j o u) ([L,M,c9]++DI w.params H b8 b2 b3 b4 b5 S T X a2 b6 f a b7++(bP 0 a++qP k++mP E)++[(b9,Aa [.int d e1,.int b e2,.int e e3,.int c e4])]) [] F h:=λ{h L M c9} i=>by
  have g0:=RepF.into i
  exact RepF.segs [[L,M,c9],DI w.params H b8 b2 b3 b4 b5 S T X a2 b6 f a b7,[(b9,Aa [.int d e1,.int b e2,.int e e3,.int c e4])],bP 0 a,qP k,mP E] [0,0,1,1,1,0] g0 rfl (by simp) (by simp)
 have d7:∀{h:Shared} {L M c9:Addr×Obj} (g:BX) (e0:List EA) (f3:An),f3.Perm (qP e0)->RepF (V w j o u) ([L,M,c9]++DI w.params H b8 b2 b3 b4 b5 S T X a2 b6 f a b7++([(b9,Aa [.int d e1,.int b e2,.int e e3,.int c e4])]++mP [g]++f3)++bP 0 a) [] (qP k++mP E++F.1,F.2) h ->
   RepF (V w j o u) ([L,M,c9]++DI w.params H b8 b2 b3 b4 b5 S T X a2 b6 f a b7++(bP 0 a++qP (e0++k)++mP (E++[g]))++[(b9,Aa [.int d e1,.int b e2,.int e e3,.int c e4])]) [] F h:=λ{h L M c9} g e0 f3 h4 i=>by
  have g0:=RepF.into i
  have h1:RepF (V w j o u) ([L,M,c9]++DI w.params H b8 b2 b3 b4 b5 S T X a2 b6 f a b7++(bP 0 a++(f3++qP k)++(mP E++mP [g]))++[(b9,Aa [.int d e1,.int b e2,.int e e3,.int c e4])]) [] F h:=
   RepF.segs [[L,M,c9],DI w.params H b8 b2 b3 b4 b5 S T X a2 b6 f a b7,[(b9,Aa [.int d e1,.int b e2,.int e e3,.int c e4])],mP [g],f3,bP 0 a,qP k,mP E] [0,0,3,2,2,2,1,0] g0 rfl (by simp) (by simp)
  rw[<-Kg] at h1
  have h8:qP (e0++k)=qP e0++qP k:=by simp[qP]
  rw[h8]
  refine RepF.perm h1 ?_
  refine List.Perm.append_right _ (List.Perm.append_left _ (List.Perm.append_right _ (List.Perm.append_left _ (List.Perm.append_right _ h4.symm))))
 by_cases y:(Z f (U a) d b e c).1=0
 ·exact Vs O d3 d5 c8 d2 d1 y d0 a0 λh l s x t D z B=>h5 y h l s x t D z (h2 B)
 ·by_cases K:d<(Z f (U a) d b e c).2.2
  ·by_cases a1:e<(Z f (U a) d b e c).2.1
   ·by_cases G:(Z f (U a) d b e c).2.2+(Z f (U a) d b e c).1<b
    ·by_cases N:(Z f (U a) d b e c).2.1+(Z f (U a) d b e c).1<c
     ·refine Tz O d3 d5 c8 d2 d1 y K a1 G N d0 a0 λh l s x t g m p q r P c0 c1 c2 c3 Q c4 c5 c6 c7 D z B=>d9 y h l s x t [(Q,((Z f (U a) d b e c).2.2+(Z f (U a) d b e c).1,b,(Z f (U a) d b e c).2.1+(Z f (U a) d b e c).1,c),c4,c5,c6,c7),(P,(d,(Z f (U a) d b e c).2.2,e,(Z f (U a) d b e c).2.1),c0,c1,c2,c3)] (g,m,((Z f (U a) d b e c).2.2,(Z f (U a) d b e c).2.1,(Z f (U a) d b e c).1),p,q,r) ?_ rfl D z ?_
      ·unfold Bg; rw[if_pos ⟨G,N⟩,if_pos ⟨K,a1⟩]; rfl
      ·rw[BA]
       have d8:Bm ([(Q,((Z f (U a) d b e c).2.2+(Z f (U a) d b e c).1,b,(Z f (U a) d b e c).2.1+(Z f (U a) d b e c).1,c),c4,c5,c6,c7),(P,(d,(Z f (U a) d b e c).2.2,e,(Z f (U a) d b e c).2.1),c0,c1,c2,c3)]++k)=Bm k++[.ref P]++[.ref Q]:=by simp[Bm]
       rw[d8]
       exact d7 (g,m,((Z f (U a) d b e c).2.2,(Z f (U a) d b e c).2.1,(Z f (U a) d b e c).1),p,q,r) [(Q,((Z f (U a) d b e c).2.2+(Z f (U a) d b e c).1,b,(Z f (U a) d b e c).2.1+(Z f (U a) d b e c).1,c),c4,c5,c6,c7),(P,(d,(Z f (U a) d b e c).2.2,e,(Z f (U a) d b e c).2.1),c0,c1,c2,c3)] [_,_] (List.Perm.swap ..) B
     ·refine Us O d3 d5 c8 d2 d1 y K a1 G N d0 a0 λh l s x t g m p q r P c0 c1 c2 c3 D z B=>d9 y h l s x t [(P,(d,(Z f (U a) d b e c).2.2,e,(Z f (U a) d b e c).2.1),c0,c1,c2,c3)] (g,m,((Z f (U a) d b e c).2.2,(Z f (U a) d b e c).2.1,(Z f (U a) d b e c).1),p,q,r) ?_ rfl D z ?_
      ·unfold Bg; rw[if_neg λi=>N i.2,if_pos ⟨K,a1⟩]; rfl
      ·rw[BA]
       have d8:Bm ([(P,(d,(Z f (U a) d b e c).2.2,e,(Z f (U a) d b e c).2.1),c0,c1,c2,c3)]++k)=Bm k++[.ref P]:=by simp[Bm]
       rw[d8]
       exact d7 (g,m,((Z f (U a) d b e c).2.2,(Z f (U a) d b e c).2.1,(Z f (U a) d b e c).1),p,q,r) [(P,(d,(Z f (U a) d b e c).2.2,e,(Z f (U a) d b e c).2.1),c0,c1,c2,c3)] [_] (List.Perm.refl _) B
    ·refine TS O d3 d5 c8 d2 d1 y K a1 G d0 a0 λh l s x t g m p q r P c0 c1 c2 c3 D z B=>d9 y h l s x t [(P,(d,(Z f (U a) d b e c).2.2,e,(Z f (U a) d b e c).2.1),c0,c1,c2,c3)] (g,m,((Z f (U a) d b e c).2.2,(Z f (U a) d b e c).2.1,(Z f (U a) d b e c).1),p,q,r) ?_ rfl D z ?_
     ·unfold Bg; rw[if_neg λi=>G i.1,if_pos ⟨K,a1⟩]; rfl
     ·rw[BA]
      have d8:Bm ([(P,(d,(Z f (U a) d b e c).2.2,e,(Z f (U a) d b e c).2.1),c0,c1,c2,c3)]++k)=Bm k++[.ref P]:=by simp[Bm]
      rw[d8]
      exact d7 (g,m,((Z f (U a) d b e c).2.2,(Z f (U a) d b e c).2.1,(Z f (U a) d b e c).1),p,q,r) [(P,(d,(Z f (U a) d b e c).2.2,e,(Z f (U a) d b e c).2.1),c0,c1,c2,c3)] [_] (List.Perm.refl _) B
   ·by_cases G:(Z f (U a) d b e c).2.2+(Z f (U a) d b e c).1<b
    ·by_cases N:(Z f (U a) d b e c).2.1+(Z f (U a) d b e c).1<c
     ·refine Uv O d3 d5 c8 d2 d1 y K a1 G N d0 a0 λh l s x t g m p q r Q c4 c5 c6 c7 D z B=>d9 y h l s x t [(Q,((Z f (U a) d b e c).2.2+(Z f (U a) d b e c).1,b,(Z f (U a) d b e c).2.1+(Z f (U a) d b e c).1,c),c4,c5,c6,c7)] (g,m,((Z f (U a) d b e c).2.2,(Z f (U a) d b e c).2.1,(Z f (U a) d b e c).1),p,q,r) ?_ rfl D z ?_
      ·unfold Bg; rw[if_pos ⟨G,N⟩,if_neg λi=>a1 i.2]; rfl
      ·rw[BA]
       have d8:Bm ([(Q,((Z f (U a) d b e c).2.2+(Z f (U a) d b e c).1,b,(Z f (U a) d b e c).2.1+(Z f (U a) d b e c).1,c),c4,c5,c6,c7)]++k)=Bm k++[.ref Q]:=by simp[Bm]
       rw[d8]
       exact d7 (g,m,((Z f (U a) d b e c).2.2,(Z f (U a) d b e c).2.1,(Z f (U a) d b e c).1),p,q,r) [(Q,((Z f (U a) d b e c).2.2+(Z f (U a) d b e c).1,b,(Z f (U a) d b e c).2.1+(Z f (U a) d b e c).1,c),c4,c5,c6,c7)] [_] (List.Perm.refl _) B
     ·refine UO O d3 d5 c8 d2 d1 y K a1 G N d0 a0 λh l s x t g m p q r D z B=>d9 y h l s x t [] (g,m,((Z f (U a) d b e c).2.2,(Z f (U a) d b e c).2.1,(Z f (U a) d b e c).1),p,q,r) ?_ rfl D z ?_
      ·unfold Bg; rw[if_neg λi=>N i.2,if_neg λi=>a1 i.2]; rfl
      ·rw[BA]
       exact d7 (g,m,((Z f (U a) d b e c).2.2,(Z f (U a) d b e c).2.1,(Z f (U a) d b e c).1),p,q,r) [] [] (List.Perm.refl _) B
    ·refine U8 O d3 d5 c8 d2 d1 y K a1 G d0 a0 λh l s x t g m p q r D z B=>d9 y h l s x t [] (g,m,((Z f (U a) d b e c).2.2,(Z f (U a) d b e c).2.1,(Z f (U a) d b e c).1),p,q,r) ?_ rfl D z ?_
     ·unfold Bg; rw[if_neg λi=>G i.1,if_neg λi=>a1 i.2]; rfl
     ·rw[BA]
      exact d7 (g,m,((Z f (U a) d b e c).2.2,(Z f (U a) d b e c).2.1,(Z f (U a) d b e c).1),p,q,r) [] [] (List.Perm.refl _) B
  ·by_cases G:(Z f (U a) d b e c).2.2+(Z f (U a) d b e c).1<b
   ·by_cases N:(Z f (U a) d b e c).2.1+(Z f (U a) d b e c).1<c
    ·refine Td O d3 d5 c8 d2 d1 y K G N d0 a0 λh l s x t g m p q r Q c4 c5 c6 c7 D z B=>d9 y h l s x t [(Q,((Z f (U a) d b e c).2.2+(Z f (U a) d b e c).1,b,(Z f (U a) d b e c).2.1+(Z f (U a) d b e c).1,c),c4,c5,c6,c7)] (g,m,((Z f (U a) d b e c).2.2,(Z f (U a) d b e c).2.1,(Z f (U a) d b e c).1),p,q,r) ?_ rfl D z ?_
     ·unfold Bg; rw[if_pos ⟨G,N⟩,if_neg λi=>K i.1]; rfl
     ·rw[BA]
      have d8:Bm ([(Q,((Z f (U a) d b e c).2.2+(Z f (U a) d b e c).1,b,(Z f (U a) d b e c).2.1+(Z f (U a) d b e c).1,c),c4,c5,c6,c7)]++k)=Bm k++[.ref Q]:=by simp[Bm]
      rw[d8]
      exact d7 (g,m,((Z f (U a) d b e c).2.2,(Z f (U a) d b e c).2.1,(Z f (U a) d b e c).1),p,q,r) [(Q,((Z f (U a) d b e c).2.2+(Z f (U a) d b e c).1,b,(Z f (U a) d b e c).2.1+(Z f (U a) d b e c).1,c),c4,c5,c6,c7)] [_] (List.Perm.refl _) B
    ·refine Tq O d3 d5 c8 d2 d1 y K G N d0 a0 λh l s x t g m p q r D z B=>d9 y h l s x t [] (g,m,((Z f (U a) d b e c).2.2,(Z f (U a) d b e c).2.1,(Z f (U a) d b e c).1),p,q,r) ?_ rfl D z ?_
     ·unfold Bg; rw[if_neg λi=>N i.2,if_neg λi=>K i.1]; rfl
     ·rw[BA]
      exact d7 (g,m,((Z f (U a) d b e c).2.2,(Z f (U a) d b e c).2.1,(Z f (U a) d b e c).1),p,q,r) [] [] (List.Perm.refl _) B
   ·refine SX O d3 d5 c8 d2 d1 y K G d0 a0 λh l s x t g m p q r D z B=>d9 y h l s x t [] (g,m,((Z f (U a) d b e c).2.2,(Z f (U a) d b e c).2.1,(Z f (U a) d b e c).1),p,q,r) ?_ rfl D z ?_
    ·unfold Bg; rw[if_neg λi=>G i.1,if_neg λi=>K i.1]; rfl
    ·rw[BA]
     exact d7 (g,m,((Z f (U a) d b e c).2.2,(Z f (U a) d b e c).2.1,(Z f (U a) d b e c).1),p,q,r) [] [] (List.Perm.refl _) B
end
end
section
noncomputable def ES:List (Int×Int×Int)->List Nat->List BX
 |[],_=>[]
 |b::b2,b9=>(b9.headD 0,b9.tail.headD 0,b,b9.tail.tail.headD 0,b9.tail.tail.tail.headD 0,b9.tail.tail.tail.tail.headD 0)::ES b2 b9.tail.tail.tail.tail.tail
noncomputable def Jf:List BX->List Nat
 |[]=>[]
 |r::e=>r.1::r.2.1::r.2.2.2.1::r.2.2.2.2.1::r.2.2.2.2.2::Jf e
theorem FH:∀e:List BX,ES (e.map (·.2.2.1)) (Jf e)=e
 |[]=>rfl
 |r::e=>by
  show(r.1,r.2.1,r.2.2.1,r.2.2.2.1,r.2.2.2.2.1,r.2.2.2.2.2)::ES (e.map (·.2.2.1)) (Jf e)=_
  rw[FH e]
noncomputable def A8(b2:List (Int×Int×Int))(a9:Nat):List BX:=ES b2 (GG a9)
theorem EZ(e:List BX):∃a9,A8 (e.map (·.2.2.1)) a9=e:=⟨Di (Jf e),by unfold A8; rw[C6]; exact FH e⟩
theorem GY:∀(b2:List (Int×Int×Int)) (b9:List Nat),(ES b2 b9).map (·.2.2.1)=b2
 |[],_=>rfl
 |b::b2,b9=>by
  show b::(ES b2 b9.tail.tail.tail.tail.tail).map (·.2.2.1)=_
  rw[GY b2]
theorem Em(b2:List (Int×Int×Int))(a9:Nat):(A8 b2 a9).map (·.2.2.1)=b2:=GY _ _
noncomputable def BK(a e3:List (Str×Nat)):List (Int×Int×Int):=qF a e3 (2*a.length+1) [(0,(a.length:Nat),0,(e3.length:Nat))] []
theorem NU{a e3:List (Str×Nat)}(f4:a.length<=100)(c8:e3.length<=100):CU a e3 0 (a.length:Nat) 0 (e3.length:Nat):=⟨by decide,by simp,by simp,by decide,by simp,by simp,f4,c8⟩
section
variable{x a5 a6 a7 Y a8 i:Nat}{f2 f1:Int}{b1 b0 k g:Nat}{D y z a1 a2 q s E:Nat}{H:Nat->Nat}{a3:Nat}{a:List (Str×Nat)}{c:List Bt}{a4:Value}
include O
theorem MB(d3:((U c).map (·.1)).Nodup):∀(a9:Nat) {h:List EA} {e:List BX} {b6:List DictEntry} {t B p:Nat},DZ (h.map (·.2.1))<=a9->(∀r∈h,GU a (U c) r.2.1)->BC w.params b6->e.length+a9<1000 ->
  ∀{A:Around},Room 400 A->∀{F:AK} {v:Shared} {R:RP},
  RepF (V w j o u) ([(x,AL w.params a5 a6 a7 Y a8 i f2 f1 b1 b0 k g b6 t),(k,I (Bm h) B),(g,I (A4 e) p)]++DI w.params i D y z a1 a2 q s E H a3 a c a4++(bP 0 c++qP h++mP e)) [] F v ->
  (∀m b4 b7 c1 c0 d2,d2.map (·.2.2.1)=qF a (U c) a9 (h.map (·.2.1)) (e.map (·.2.2.1))->BC w.params b4->(h≠[]∨b6≠[]->b4≠[]) ->
   RepF (V w j o u) ([(x,AL w.params a5 a6 a7 Y a8 i f2 f1 b1 b0 k g b4 b7),(k,I [] c1),(g,I (A4 d2) c0)]++DI w.params i D y z a1 a2 q s E H a3 a c a4++mP d2) [] F m->R (.ok .next) m) ->
  codeAny (model pw w) A (C8 x) R v:=by
 have e5:∀{e:List BX} {b6:List DictEntry} {t B p:Nat} {A:Around},Room 400 A->∀{F:AK} {v:Shared} {R:RP},
   RepF (V w j o u) ([(x,AL w.params a5 a6 a7 Y a8 i f2 f1 b1 b0 k g b6 t),(k,I [] B),(g,I (A4 e) p)]++DI w.params i D y z a1 a2 q s E H a3 a c a4++(bP 0 c++qP []++mP e)) [] F v ->
   (∀m,RepF (V w j o u) ([(x,AL w.params a5 a6 a7 Y a8 i f2 f1 b1 b0 k g b6 t),(k,I [] B),(g,I (A4 e) p)]++DI w.params i D y z a1 a2 q s E H a3 a c a4++mP e) [] F m->R (.ok .next) m)->codeAny (model pw w) A (C8 x) R v:=by
  intro e b6 t B p A b3 F v R d4 c9
  refine Sf O b3 (a3:=[(g,I (A4 e) p)]++DI w.params i D y z a1 a2 q s E H a3 a c a4++(bP 0 c++qP []++mP e)) (by simpa[List.append_assoc] using d4) λm n=>c9 m ?_
  refine RepF.sub n ?_
  simp only[List.append_assoc,List.cons_append,List.nil_append]
  refine List.Sublist.cons_cons _ (List.Sublist.cons_cons _ (List.Sublist.cons_cons _ (List.Sublist.append_left ?_ _)))
  exact List.sublist_append_of_sublist_right (List.sublist_append_right _ _)
 intro a9
 induction a9 with
 |zero=>
  intro h e b6 t B p h5 e2 f0 i5 A b3 F v R d4 c9
  have:h=[]:=by
   cases h with
   |nil=>rfl
   |cons r h=>have:=G6 ((r::h).map (·.2.1)); rw[List.length_map,List.length_cons] at this; lia
  subst this
  exact e5 b3 d4 λm n=>c9 m b6 t B p e rfl f0 (λb5=>by rcases b5 with b5 |b5; exact absurd rfl b5; exact b5) n
 |succ a9 h6=>
  intro h e b6 t B p h5 e2 f0 i5 A b3 F v R d4 c9
  cases h with
  |nil=>exact e5 b3 d4 λm n=>c9 m b6 t B p e rfl f0 (λb5=>by rcases b5 with b5 |b5; exact absurd rfl b5; exact b5) n
  |cons r h=>
   have j9:2*(r.2.1.2.1-r.2.1.1).toNat+1+DZ (h.map (·.2.1))<=a9+1:=h5
   have i6:=G6 (h.map (·.2.1))
   rw[List.length_map] at i6
   refine MN O d3 (e2 r (.head _)) f0 (by lia) (by lia) b3 d4 (λc7 m b4 b7 c1 c0 d1 d0 n=>?_) λc7 m b4 b7 c1 c0 e8 e7 e6 f5 d1 d0 n=>?_
   ·refine h6 (by lia) (λl G=>e2 l (.tail _ G)) d1 (by exact Nat.le_of_lt ‹_›) b3 (RepF.keep _ n) λe1 Cs b8 e0 W9 d8 c8 d7 d5 d6=>c9 e1 Cs b8 e0 W9 d8 ?_ d7 (λ_=>d5 (.inr d0)) d6
    rw[c8]
    show _=(if(Ak a (U c) r.2.1).1=0 then _ else _)
    rw[if_pos c7]
   ·have h4:=GC d3 (e2 r (.head _)) c7
    have e4:(e8++h).map (·.2.1)=Bg a (U c) r.2.1++h.map (·.2.1):=by rw[List.map_append,e6]
    refine h6 (h:=e8++h) (e:=e++[e7]) (by rw[e4,DX]; lia) (λl G=>?_) d1 (by simp; lia) b3 (RepF.keep _ n) λe1 Cs b8 e0 W9 d8 c8 d7 d5 d6=>c9 e1 Cs b8 e0 W9 d8 ?_ d7 (λ_=>d5 (.inr d0)) d6
    ·rcases List.mem_append.mp G with G |G
     ·refine F7 d3 (e2 r (.head _)) l.2.1 ?_
      rw[<-e6]; exact List.mem_map.mpr ⟨l,G,rfl⟩
     ·exact e2 l (.tail _ G)
    ·rw[c8,e4,List.map_append]
     show _=(if(Ak a (U c) r.2.1).1=0 then _ else _)
     rw[if_neg c7]
     show qF _ _ _ _ (_++[e7.2.2.1])=_
     rw[f5]
end
noncomputable def Pj(c6:Params)(x a5 a6 a7 Y a8 i:Nat)(b1 b0 k g t l B p c2 c3 c4 c5:Nat)(D y z a1 a2 q s E:Nat)(H:Nat->Nat)(a3:Nat)(a:List (Str×Nat))(c:List Bt)(a4:Value):Spec:=
 {code:=C8 x,nf:=27,d:=400,pool:=true,pre:=bP 0 c,post:=λf=>mP (A8 (BK a (U c)) (W 0 f 26)),res:=λ_=>.ok .next,
  fp:=[(x,AL c6 a5 a6 a7 Y a8 i ((J (U c)).length:Nat) ((J a).length:Nat) b1 b0 k g [] t),(k,I [.ref l] B),(l,Aa [.int 0 c2,.int ((J a).length:Nat) c3,.int 0 c4,.int ((J (U c)).length:Nat) c5]),(g,I [] p),
   (i,Ba D),(D,Bb c6 H y z q s E .none a4),(y,I (J a) a1),(z,I (J (U c)) a2),(q,A5 (bE c6 c) a3),(s,Ad c6)],
  upd:=λf=>[AL c6 a5 a6 a7 Y a8 i ((J (U c)).length:Nat) ((J a).length:Nat) b1 b0 k g (gx c6 (W 0 f 0) (W 0 f 1) (W 0 f 2) (W 0 f 3) (W 0 f 4) (W 0 f 5) (W 0 f 6) (W 0 f 7) (B8 (W 0 f 8)) (B8 (W 0 f 9)) (B8 (W 0 f 10)) (B8 (W 0 f 11)) (B8 (W 0 f 12)) (B8 (W 0 f 13)) (B8 (W 0 f 14)) (W 0 f 15) (W 0 f 16) (W 0 f 17) (W 0 f 18) (W 0 f 19) (W 0 f 20) (W 0 f 21) (W 0 f 22)) (W 0 f 23),I [] (W 0 f 24),Aa [.int 0 c2,.int ((J a).length:Nat) c3,.int 0 c4,.int ((J (U c)).length:Nat) c5],I (A4 (A8 (BK a (U c)) (W 0 f 26))) (W 0 f 25),
   Ba D,Bb c6 H y z q s E .none a4,I (J a) a1,I (J (U c)) a2,A5 (bE c6 c) a3,Ad c6]}
section
variable{x a5 a6 a7 Y a8 i:Nat}{b1 b0 k g t l B p c2 c3 c4 c5:Nat}{D y z a1 a2 q s E:Nat}{H:Nat->Nat}{a3:Nat}{a:List (Str×Nat)}{c:List Bt}{a4:Value}
include O
theorem MH(d3:((U c).map (·.1)).Nodup)(i8:a.length<=100)(G:c.length<=100):(Pj w.params x a5 a6 a7 Y a8 i b1 b0 k g t l B p c2 c3 c4 c5 D y z a1 a2 q s E H a3 a c a4).Ok (V w j o u):=Spec.of_code (λ_=>rfl) (λ_=>rfl) λA b3 F j7 R d4 c9=>by
 have f3:(J a).length=a.length:=by simp[J]
 have b8:(J (U c)).length=(U c).length:=by simp[J]
 have i9:(U c).length<=100:=by simpa[U] using G
 have e9:=NU i8 i9
 rw[<-f3,<-b8] at e9
 have f4:RepF (V w j o u) ([(x,AL w.params a5 a6 a7 Y a8 i ((J (U c)).length:Nat) ((J a).length:Nat) b1 b0 k g [] t),(k,I (Bm [(l,(0,((J a).length:Nat),0,((J (U c)).length:Nat)),c2,c3,c4,c5)]) B),(g,I (A4 []) p)]++DI w.params i D y z a1 a2 q s E H a3 a c a4++(bP 0 c++qP [(l,(0,((J a).length:Nat),0,((J (U c)).length:Nat)),c2,c3,c4,c5)]++mP [])) [] F j7:=by
  refine RepF.segs [[(x,AL w.params a5 a6 a7 Y a8 i ((J (U c)).length:Nat) ((J a).length:Nat) b1 b0 k g [] t)],[(k,I [.ref l] B)],[(l,Aa [.int 0 c2,.int ((J a).length:Nat) c3,.int 0 c4,.int ((J (U c)).length:Nat) c5])],[(g,I [] p)],DI w.params i D y z a1 a2 q s E H a3 a c a4,bP 0 c] [0,0,1,1,1,0] d4 rfl ?_ ?_
  ·simp[DI,Pj,Spec.ins]
  ·simp[Bm,A4,qP,mP]
 have e5:∀m b4 b7 c1 c0 d2,d2.map (·.2.2.1)=BK a (U c)->BC w.params b4->b4≠[] ->
   RepF (V w j o u) ([(x,AL w.params a5 a6 a7 Y a8 i ((J (U c)).length:Nat) ((J a).length:Nat) b1 b0 k g b4 b7),(k,I [] c1),(g,I (A4 d2) c0)]++DI w.params i D y z a1 a2 q s E H a3 a c a4++mP d2) [] ([(l,Aa [.int 0 c2,.int ((J a).length:Nat) c3,.int 0 c4,.int ((J (U c)).length:Nat) c5])]++F.1,F.2) m->R (.ok .next) m:=by
  intro m b4 b7 c1 c0 d2 i7 d1 d0 n
  cases d1 with
  |s0=>exact absurd rfl d0
  |s1 g4 g5 g6 g7 g8 g9 h0 h1 j0 j1 j2 j3 j4 j5 j6 h7 h8 h9 i0 i1 i2 i3 i4=>
   obtain⟨f7,rfl⟩:=B9 j0
   obtain⟨f8,rfl⟩:=B9 j1
   obtain⟨f9,rfl⟩:=B9 j2
   obtain⟨g0,rfl⟩:=B9 j3
   obtain⟨g1,rfl⟩:=B9 j4
   obtain⟨g2,rfl⟩:=B9 j5
   obtain⟨g3,rfl⟩:=B9 j6
   obtain⟨f6,h2⟩:=EZ d2
   rw[i7] at h2
   refine c9 [g4,g5,g6,g7,g8,g9,h0,h1,f7,f8,f9,g0,g1,g2,g3,h7,h8,h9,i0,i1,i2,i3,i4,b7,c1,c0,f6] m rfl ?_
   rw[<-h2] at n
   have j8:=RepF.into n
   refine RepF.segs [[(x,AL w.params a5 a6 a7 Y a8 i ((J (U c)).length:Nat) ((J a).length:Nat) b1 b0 k g (gx w.params g4 g5 g6 g7 g8 g9 h0 h1 (B8 f7) (B8 f8) (B8 f9) (B8 g0) (B8 g1) (B8 g2) (B8 g3) h7 h8 h9 i0 i1 i2 i3 i4) b7)],[(k,I [] c1)],[(g,I (A4 (A8 (BK a (U c)) f6)) c0)],DI w.params i D y z a1 a2 q s E H a3 a c a4,mP (A8 (BK a (U c)) f6),[(l,Aa [.int 0 c2,.int ((J a).length:Nat) c3,.int 0 c4,.int ((J (U c)).length:Nat) c5])]] [0,0,3,0,0,0] j8 rfl ?_ ?_
   ·simp
   ·simp[DI,Pj,Spec.outs,Am,W]
 have e4:qF a (U c) (2*a.length+1) [(0,((J a).length:Nat),0,((J (U c)).length:Nat))] []=BK a (U c):=by rw[f3,b8]; rfl
 refine MN O d3 (n:=(l,(0,((J a).length:Nat),0,((J (U c)).length:Nat)),c2,c3,c4,c5)) (k:=[]) (E:=[]) e9 .s0 (by simp) (by simp) b3 f4 (λc7 m b4 b7 c1 c0 d1 d0 n=>?_) λc7 m b4 b7 c1 c0 e8 e7 e6 f5 d1 d0 n=>?_
 ·refine MB O d3 (2*a.length) (h:=[]) (e:=[]) (by simp[DZ]) (λl G=>nomatch G) d1 (by simp; lia) b3 (RepF.out n (List.Perm.refl _)) λe1 Cs b8 e0 W9 d8 c8 d7 d5 d6=>e5 e1 Cs b8 e0 W9 d8 ?_ d7 (d5 (.inr d0)) d6
  rw[c8,<-e4]
  show _=(if(Ak a (U c) _).1=0 then _ else _)
  rw[if_pos c7]; rfl
 ·have h4:=GC (b:=(0,((J a).length:Nat),0,((J (U c)).length:Nat))) d3 e9 c7
  have h3:(e8++[]).map (λr:EA=>r.2.1)=Bg a (U c) (0,((J a).length:Nat),0,((J (U c)).length:Nat)):=by rw[List.append_nil,e6]
  refine MB O d3 (2*a.length) (h:=e8++[]) (e:=[]++[e7]) (by rw[h3]; simp only[f3] at h4 ⊢; lia) (λl G=>?_) d1 (by simp; lia) b3 (RepF.out n (List.Perm.refl _)) λe1 Cs b8 e0 W9 d8 c8 d7 d5 d6=>e5 e1 Cs b8 e0 W9 d8 ?_ d7 (d5 (.inr d0)) d6
  ·refine F7 (b:=(0,((J a).length:Nat),0,((J (U c)).length:Nat))) d3 e9 l.2.1 ?_
   rw[List.append_nil] at G
   rw[<-e6]; exact List.mem_map.mpr ⟨l,G,rfl⟩
  ·rw[c8,<-e4,h3]
   show _=(if(Ak a (U c) _).1=0 then _ else _)
   rw[if_neg c7,List.append_nil]
   show qF _ _ _ _ [e7.2.2.1]=_
   rw[f5]; rfl
end
end
section
structure Rl(d:Nat)(lt:Nat->Nat->Bool):Prop where
 pos:2<=d
 asym:∀b e,b<d->e<d->lt b e=true->lt e b=false
 trans:∀b e g,b<d->e<d->g<d->lt b e=true->lt e g=true->lt b g=true
 total:∀b e,b<d->e<d->b≠e->lt b e=false->lt e b=true
noncomputable def GW(d:Nat)(lt:Nat->Nat->Bool)(b e:Nat)(T:Bool->Shared->Prop)(q:Shared):Prop:=b<d/\e<d/\T (lt b e) q
noncomputable abbrev kp(a:Array Nat)(b:Nat):Nat:=a.getD b 0
structure Ct(d:Nat)(a:Array Nat):Prop where
 size:a.size=d
 perm:a.toList.Perm (List.range d)
theorem Oj(a:Array Nat)(b:Nat):kp a b=(a[b]?).getD 0:=by simp[kp]
theorem ER{a n:Array Nat}{b e:Nat}(c:a[b]?=n[e]?):kp a b=kp n e:=by rw[Oj,Oj,c]
namespace Ct
variable{d:Nat}{a:Array Nat}
theorem lt(c:Ct d a)(E:0<d)(b:Nat):kp a b<d:=by
 by_cases D:b<a.size
 ·have r:kp a b=a[b]:=by simp[kp,D]
  rw[r]
  have:a[b]∈a.toList:=by simp
  exact List.mem_range.mp (c.perm.mem_iff.mp this)
 ·have r:kp a b=0:=by simp[kp,D]
  rw[r]; exact E
theorem inj(c:Ct d a){b e:Nat}(D:b<d)(H:e<d)(r:kp a b=kp a e):b=e:=by
 have a9:b<a.size:=by rw[c.size]; exact D
 have b0:e<a.size:=by rw[c.size]; exact H
 have c0:a.toList.Nodup:=c.perm.nodup_iff.mpr List.nodup_range
 have M:kp a b=a.toList[b]'(by simpa using a9):=by simp[kp,a9]
 have X:kp a e=a.toList[e]'(by simpa using b0):=by simp[kp,b0]
 rw[M,X] at r
 exact(List.getElem_inj c0).mp r
theorem of_perm(c:Ct d a){n:Array Nat}(Q:n.Perm a):Ct d n:=⟨Q.size_eq.trans c.size,(Array.perm_iff_toList_perm.mp Q).trans c.perm⟩
end Ct
noncomputable def It(lt:Nat->Nat->Bool)(a:Array Nat)(h:Nat):Prop:=∀b e,b<e->e<h->lt (kp a b) (kp a e)=true
noncomputable def RV(lt:Nat->Nat->Bool)(a:Array Nat)(h:Nat):Prop:=∀b e,b<e->e<h->lt (kp a e) (kp a b)=true
section
variable{d:Nat}{lt:Nat->Nat->Bool}(S:Rl d lt){q:Shared}
include S
theorem J3{a:Array Nat}(c:Ct d a):∀(f k t:Nat),k+f=t->t<=d->1<=k->It lt a k->∀{l:Nat->Shared->Prop},(∀h,k<=h->h<=t->It lt a h->(h=t∨lt (kp a h) (kp a (h-1))=true)->l h q)->(kas_asc a f k).kasWp (GW d lt) l q:=by
 intro c4
 induction c4 with
 |zero=>
  intro k t r E x s l p
  exact p k (Nat.le_refl _) (by lia) s (.inl (by omega))
 |succ f c3=>
  intro k t r E x s l p
  have P:=S.pos
  refine⟨c.lt (by exact Nat.le_of_lt ‹_›) _,c.lt (by exact Nat.le_of_lt ‹_›) _,?_⟩
  show KasT.kasWp _ (if lt (kp a k) (kp a (k-1))=true then _ else _) l q
  cases z:lt (kp a k) (kp a (k-1)) with
  |true=>exact p k (Nat.le_refl _) (by lia) s (.inr z)
  |false=>
   refine c3 (k+1) t (by lia) E (by exact Nat.succ_pos _) ?_ λh x y B a3=>p h (by exact Nat.le_of_lt ‹_›) y B a3
   intro b e G H
   by_cases a4:e<k
   ·exact s b e G a4
   ·have:e=k:=by lia
    subst this
    have L:lt (kp a (e-1)) (kp a e)=true:=S.total _ _ (c.lt (by exact Nat.le_of_lt ‹_›) _) (c.lt (by exact Nat.le_of_lt ‹_›) _) (λn=>by have:=c.inj (by lia) (by lia) n; lia) z
    by_cases D:b=e-1
    ·subst D; exact L
    ·exact S.trans _ _ _ (c.lt (by exact Nat.le_of_lt ‹_›) _) (c.lt (by exact Nat.le_of_lt ‹_›) _) (c.lt (by exact Nat.le_of_lt ‹_›) _) (s b (e-1) (by lia) (by omega)) L
theorem KF{a:Array Nat}(c:Ct d a):∀(f k t:Nat),k+f=t->t<=d->1<=k->RV lt a k->∀{l:Array Nat×Nat×Nat->Shared->Prop},(∀h,k<=h->h<=t->RV lt a h->l (a,h,0) q)->(kas_desc f a k 0).kasWp (GW d lt) l q:=by
 intro c4
 induction c4 with
 |zero=>
  intro k t r E x s l p
  exact p k (Nat.le_refl _) (by lia) s
 |succ f c3=>
  intro k t r E x s l p
  have P:=S.pos
  refine⟨c.lt (by exact Nat.le_of_lt ‹_›) _,c.lt (by exact Nat.le_of_lt ‹_›) _,?_⟩
  show KasT.kasWp _ (if lt (kp a k) (kp a (k-1))=true then(if 0>0 then _ else kas_desc f a (k+1) 0) else _) l q
  cases z:lt (kp a k) (kp a (k-1)) with
  |true=>
   rw[if_pos rfl,if_neg (by decide)]
   refine c3 (k+1) t (by lia) E (by exact Nat.succ_pos _) ?_ λh x y B=>p h (by exact Nat.le_of_lt ‹_›) y B
   intro b e G H
   by_cases a4:e<k
   ·exact s b e G a4
   ·have:e=k:=by lia
    subst this
    by_cases D:b=e-1
    ·subst D; exact z
    ·exact S.trans _ _ _ (c.lt (by exact Nat.le_of_lt ‹_›) _) (c.lt (by exact Nat.le_of_lt ‹_›) _) (c.lt (by exact Nat.le_of_lt ‹_›) _) z (s b (e-1) (by lia) (by omega))
  |false=>
   rw[if_neg (by simp)]
   refine⟨c.lt (by exact Nat.le_of_lt ‹_›) _,c.lt (by exact Nat.le_of_lt ‹_›) _,?_⟩
   have L:lt (kp a (k-1)) (kp a k)=true:=S.total _ _ (c.lt (by exact Nat.le_of_lt ‹_›) _) (c.lt (by exact Nat.le_of_lt ‹_›) _) (λn=>by have:=c.inj (by lia) (by lia) n; lia) z
   show KasT.kasWp _ (if lt (kp a (k-1)) (kp a k)=true then _ else _) l q
   rw[L,if_pos rfl]
   exact p k (Nat.le_refl _) (by lia) s
theorem NI{a:Array Nat}(c:Ct d a){h t:Nat}(b9:1<=h)(c2:h<=t)(E:t<=d)(hd:RV lt a h){l:Nat×Array Nat->Shared->Prop}(p:∀i n,Ct d n->1<=i->i<=t->It lt n i->l (i,n) q):(kas_tail3 h t a).kasWp (GW d lt) l q:=by
 unfold kas_tail3
 rw[KasT.kasWp_bind]
 have b1:Ct d (kas_rev a 0 h):=c.of_perm (mirror_perm _ _ _ _)
 refine J3 S b1 (t-h) h t (by lia) E b9 ?_ λi x y B _=>p i _ b1 (by exact Nat.lt_of_lt_of_le ‹_› ‹_›) y B
 intro b e G H
 have r:∀g,g<h->kp (kas_rev a 0 h) g=kp a (h-1-g):=λg N=>by
  refine ER ?_
  have:=getElem?_mirror_all (xs:=a) (i:=0) (j:=h) (by rw[c.size]; exact Nat.le_trans ‹_› ‹_›) g
  rw[if_pos (by lia)] at this
  unfold kas_rev
  rw[this]
  congr 1
  simp
 rw[r b (by lia),r e H]
 exact hd _ _ (by omega) (by omega)
theorem NG{a:Array Nat}(c:Ct d a){l:Nat×Array Nat->Shared->Prop}(p:∀i n,Ct d n->1<=i->i<=d->It lt n i->l (i,n) q):(kas_count d a).kasWp (GW d lt) l q:=by
 have P:=S.pos
 unfold kas_count
 rw[KasT.kasWp_bind]
 refine J3 S c (d-1) 1 d (by lia) (Nat.le_refl _) (Nat.le_refl _) (λb e G H=>by omega) λh x y B a3=>?_
 by_cases M:h=d
 ·rw[if_pos (by simpa using M)]; exact p h a c x y B
 ·rw[if_neg (by simpa using M)]
  by_cases X:h>1
  ·rw[if_pos X]
   refine⟨c.lt (by exact Nat.le_of_lt ‹_›) _,c.lt (by exact Nat.le_of_lt ‹_›) _,?_⟩
   show KasT.kasWp _ (if lt (kp a 0) (kp a (h-1))=true then _ else _) l q
   rw[B 0 (h-1) (by omega) (by omega),if_pos rfl]
   exact p h a c x y B
  ·rw[if_neg X]
   have b3:h=1:=by lia
   subst b3
   have b8:=a3.resolve_left M
   unfold kas_descPart
   rw[KasT.kasWp_bind]
   refine KF S c (d-(1+1)) (1+1) d (by omega) (Nat.le_refl _) (by exact Nat.le_succ _) (λb e G H=>?_) λi a0 g2 g3=>?_
   ·have:b=0:=by lia
    have:e=1:=by lia
    subst b e
    exact b8
   ·show KasT.kasWp _ (if 0>0 then _ else kas_tail3 i d a) l q
    rw[if_neg (by decide)]
    exact NI S c (by exact Nat.le_of_lt ‹_›) g2 (Nat.le_refl _) g3 p
theorem GK{a:Array Nat}(c:Ct d a){g:Nat}(N:g<d)(s:It lt a g):∀(f m i:Nat),m<=i->i<=g->i-m<=f->(∀b,b<m->lt (kp a b) (kp a g)=true)->(∀b,i<=b->b<g->lt (kp a g) (kp a b)=true)->∀{l:Nat->Shared->Prop},
  (∀h,h<=g->(∀b,b<h->lt (kp a b) (kp a g)=true)->(∀b,h<=b->b<g->lt (kp a g) (kp a b)=true)->l h q)->(kas_place a g f m i).kasWp (GW d lt) l q:=by
 intro c4
 induction c4 with
 |zero=>
  intro m i b7 a1 b6 x y l p
  have:m=i:=by lia
  subst this
  exact p m a1 x y
 |succ f c3=>
  intro m i b7 a1 b6 x y l p
  have P:=S.pos
  unfold kas_place
  by_cases a8:m>=i
  ·rw[if_pos a8]
   have:m=i:=by lia
   subst this
   exact p m a1 x y
  ·rw[if_neg a8]
   refine⟨c.lt (by exact Nat.le_of_lt ‹_›) _,c.lt (by exact Nat.le_of_lt ‹_›) _,?_⟩
   show KasT.kasWp _ (if lt (kp a g) (kp a ((m+i) / 2))=true then _ else _) l q
   cases z:lt (kp a g) (kp a ((m+i) / 2)) with
   |true=>
    rw[if_pos rfl]
    refine c3 m ((m+i) / 2) (by lia) (by lia) (by omega) x (λb a0 g2=>?_) p
    by_cases r:b=(m+i) / 2
    ·subst r; exact z
    ·exact S.trans _ _ _ (c.lt (by exact Nat.le_of_lt ‹_›) _) (c.lt (by exact Nat.le_of_lt ‹_›) _) (c.lt (by exact Nat.le_of_lt ‹_›) _) z (s _ _ (by lia) g2)
   |false=>
    rw[if_neg (by simp)]
    have L:lt (kp a ((m+i) / 2)) (kp a g)=true:=S.total _ _ (c.lt (by exact Nat.le_of_lt ‹_›) _) (c.lt (by exact Nat.le_of_lt ‹_›) _) (λn=>by have:=c.inj (by omega) (by lia) n; lia) z
    refine c3 ((m+i) / 2+1) i (by lia) a1 (by omega) (λb a0=>?_) y p
    by_cases r:b=(m+i) / 2
    ·subst r; exact L
    ·exact S.trans _ _ _ (c.lt (by exact Nat.le_of_lt ‹_›) _) (c.lt (by exact Nat.le_of_lt ‹_›) _) (c.lt (by exact Nat.le_of_lt ‹_›) _) (s b ((m+i) / 2) (by lia) (by lia)) L
theorem Mn:∀(f g:Nat) {a:Array Nat},Ct d a->g+f=d->1<=g->It lt a g->∀{l:Array Nat->Shared->Prop},(∀n,Ct d n->It lt n d->l n q)->(kas_bin f a g).kasWp (GW d lt) l q:=by
 intro c4
 induction c4 with
 |zero=>
  intro g a c r N s l p
  exact p a c (by have:g=d:=(by omega); subst this; exact s)
 |succ f c3=>
  intro g a c r N s l p
  have P:=S.pos
  unfold kas_bin
  rw[KasT.kasWp_bind]
  refine GK S c (by lia) s g 0 g (by exact Nat.zero_le _) (Nat.le_refl _) (by simp) (λb D=>by lia) (λb x y=>by lia) λm c1 a0 g2=>?_
  have b5:Ct d (bubble a g (g-m)):=c.of_perm (bubble_perm _ _ _)
  refine c3 (g+1) b5 (by lia) (by exact Nat.succ_pos _) ?_ p
  have r:∀b,kp (bubble a g (g-m)) b=if b=m then kp a g else if m<b/\b<=g then kp a (b-1) else kp a b:=λb=>by
   have K:=getElem?_bubble (xs:=a) (src:=g) (by rw[c.size]; lia) (g-m) (by simp) b
   rw[show g-(g-m)=m by lia] at K
   by_cases x:b=m
   ·rw[if_pos x] at K ⊢; exact ER K
   ·rw[if_neg x] at K ⊢
    by_cases y:m<b/\b<=g
    ·rw[if_pos y] at K ⊢; exact ER K
    ·rw[if_neg y] at K ⊢; exact ER K
  intro b e G H
  rw[r b,r e]
  by_cases a2:e=m
  ·rw[if_neg (by lia),if_neg (by lia),if_pos a2]
   exact a0 b (by lia)
  ·by_cases a5:m<e/\e<=g
   ·rw[if_neg a2,if_pos a5]
    by_cases Y:b=m
    ·rw[if_pos Y]; exact g2 (e-1) (by lia) (by lia)
    ·rw[if_neg Y]
     by_cases a6:m<b/\b<=g
     ·rw[if_pos a6]; exact s _ _ (by omega) (by lia)
     ·rw[if_neg a6]; exact s _ _ (by lia) (by lia)
   ·rw[if_neg a2,if_neg a5,if_neg (by lia),if_neg (by lia)]
    exact s _ _ G (by lia)
theorem P5{l:Array Nat->Shared->Prop}(p:∀n,Ct d n->It lt n d->l n q):(kas_sort d).kasWp (GW d lt) l q:=by
 have P:=S.pos
 unfold kas_sort
 rw[KasT.kasWp_bind]
 have b4:Ct d (List.toArray (List.range d)):=⟨by simp,by simp⟩
 refine NG S b4 λi n Q x y B=>?_
 show KasT.kasWp _ (if i<d then kas_bin (d-max i 1) n (max i 1) else _) l q
 by_cases c:i<d
 ·rw[if_pos c]
  have r:max i 1=i:=by lia
  rw[r]
  exact Mn S (d-i) i Q (by lia) x B p
 ·rw[if_neg c]
  have:i=d:=by lia
  subst this
  exact p n Q B
end
theorem IC{d:Nat}{lt:Nat->Nat->Bool}{q:Shared}{a7:Nat->Nat->(Bool->Shared->Prop)->Shared->Prop}(z:∀b e (T:Bool->Shared->Prop),b<d->e<d->T (lt b e) q->a7 b e T q){α:Type}{l:α->Shared->Prop}:∀(b2:KasT α),b2.kasWp (GW d lt) l q->b2.kasWp a7 l q
 |.ret k,c=>c
 |.ask b e g,c=>z b e _ c.1 c.2.1 (IC z (g (lt b e)) c.2.2)
end
section
noncomputable def KM(L:Params):Frag:=[(135,Ii L),(134,HG L)]
noncomputable abbrev B3:=Int×Int×Int
noncomputable def DG(a b:B3):Bool:=if a.1=b.1 then if a.2.1=b.2.1 then if a.2.2=b.2.2 then false else decide (a.2.2<b.2.2) else decide (a.2.1<b.2.1) else decide (a.1<b.1)
theorem HK{w:World}{i:VP}{c:Shared}{p a:Int}{X a0:Nat}{g:VP}(h:g (.bool (decide (p<a))) c):wpAny (model pw w) A (richCompare .Lt (.int p X) (.int a a0)) g i c:=
 richCompare_gives (op:=.Lt) (T:= "int") rfl rfl PySem.F.slot_int_lt PySem.F.entry_int_lt (PySem.F.args_int_lt_2 _ _) (gives_int_lt p a X a0) (λd=>nomatch d) h
section
variable{w:World}{A:Around}{i:VP}{c:Shared}{d e N P:Nat}{a b:B3}{B D E G H K:Nat}
theorem Q9(r:c.heap.get? d=some (Aj N a.1 a.2.1 a.2.2 B D E))(y:c.heap.get? e=some (Aj P b.1 b.2.1 b.2.2 G H K))(s:(KM w.params).In c.heap){g:VP}(h:g (.bool (DG a b)) c) :
  wpAny (model pw w) A (call (.builtin "tuple.__lt__") [.ref d,.ref e]) g i c:=by
 have sub:Looks (model pw w) c.heap (isSubtype (.ref 135) (.type "tuple")) true:=looks_mroIn s (by kernel_rfl)
 have z:∀{a1 a2:Nat} {p a b:Int} {b3 b4 b5:Nat},c.heap.get? a1=some (Aj a2 p a b b3 b4 b5)->Looks (model pw w) c.heap (isInstance (.ref a1) (.type "tuple")) true:=λb0=>by
  unfold isInstance
  exact Looks.andThen (show Looks (model pw w) c.heap (typeOf (.ref _)) (.ref 135) from(Looks.ld b0).andThen .now) sub
 refine wpAny_call (codeAny_call_builtin PySem.F.slot_tuple_lt.plain PySem.F.entry_tuple_lt ?_)
 have a6:builtinKind "tuple.__lt__" = some .slot:=by kernel_rfl
 have a7:splitId "tuple.__lt__" = some ("tuple","__lt__"):=by kernel_rfl
 simp only[checkBuiltinCall,a6,a7]
 refine wpAny_bind ((z r).here ?_)
 have M:wpAny (model pw w) A.in1 (Builtin.«tuple.__lt__» ⟨[.ref d,.ref e],[]⟩) (λx m=>match x with |.done f=>wants g i (.ok f) m |.again c'=>c'.quiet=true/\codeAny (model pw w) A c' (wants g i) m) (λa3 m=>wants g i (.error a3) m) c:=by
  show wpAny _ _ (isInstance (.ref e) (.type "tuple")>>=_) _ _ c
  refine wpAny_bind ((z y).here ?_)
  show wpAny _ _ (Builtin.Tuple.tupleItemsOf (.ref d)>>=_) _ _ c
  refine wpAny_bind (wpAny_bind (wpAny_seqItems r rfl (wpAny_pure ?_)))
  show wpAny _ _ (Builtin.Tuple.tupleItemsOf (.ref e)>>=_) _ _ c
  refine wpAny_bind (wpAny_bind (wpAny_seqItems y rfl (wpAny_pure ?_)))
  show wpAny _ _ (forIn [(Value.int a.1 B,Value.int b.1 G),(Value.int a.2.1 D,Value.int b.2.1 H),(Value.int a.2.2 E,Value.int b.2.2 K)] _ _>>=_) _ _ c
  rw[List.forIn_cons]
  refine wpAny_bind (wpAny_bind ?_)
  dsimp only
  refine wpAny_bind (wpAny_eqBool_int ?_)
  by_cases l:a.1=b.1
  ·simp only[beq_iff_eq.mpr l,Bool.not_true,Bool.false_eq_true,if_false]
   refine wpAny_pure ?_
   dsimp only
   rw[List.forIn_cons]
   refine wpAny_bind (wpAny_bind (wpAny_eqBool_int ?_))
   by_cases q:a.2.1=b.2.1
   ·simp only[beq_iff_eq.mpr q,Bool.not_true,Bool.false_eq_true,if_false]
    refine wpAny_pure ?_
    dsimp only
    rw[List.forIn_cons]
    refine wpAny_bind (wpAny_bind (wpAny_eqBool_int ?_))
    by_cases t:a.2.2=b.2.2
    ·simp only[beq_iff_eq.mpr t,Bool.not_true,Bool.false_eq_true,if_false]
     refine wpAny_pure ?_
     dsimp only
     rw[List.forIn_nil]
     have k:DG a b=false:=by unfold DG; rw[if_pos l,if_pos q,if_pos t]
     rw[k] at h
     exact wpAny_pure (wpAny_pure h)
    ·simp only[beq_eq_false_iff_ne.mpr t,Bool.not_false,if_true]
     have k:DG a b=decide (a.2.2<b.2.2):=by unfold DG; rw[if_pos l,if_pos q,if_neg t]
     rw[k] at h
     refine wpAny_bind (wpAny_rule (wpAny_bind (HK ?_)))
     exact wpAny_bind (wpAny_pure (wpAny_pure (wpAny_pure (wpAny_pure h))))
   ·simp only[beq_eq_false_iff_ne.mpr q,Bool.not_false,if_true]
    have k:DG a b=decide (a.2.1<b.2.1):=by unfold DG; rw[if_pos l,if_neg q]
    rw[k] at h
    refine wpAny_bind (wpAny_rule (wpAny_bind (HK ?_)))
    exact wpAny_bind (wpAny_pure (wpAny_pure (wpAny_pure (wpAny_pure h))))
  ·simp only[beq_eq_false_iff_ne.mpr l,Bool.not_false,if_true]
   have k:DG a b=decide (a.1<b.1):=by unfold DG; rw[if_neg l]
   rw[k] at h
   refine wpAny_bind (wpAny_rule (wpAny_bind (HK ?_)))
   exact wpAny_bind (wpAny_pure (wpAny_pure (wpAny_pure (wpAny_pure h))))
 have Q:=PySem.F.args_tuple_lt_2 (.ref d) (.ref e)
 cases a8:Manifest.signature? "tuple.__lt__" with
 |none=>exact wpAny_pure M
 |some S=>
  simp only[argsOk,a8] at Q
  have a5:Bind.checkArgs "tuple.__lt__" S ⟨[.ref d,.ref e],[]⟩=pure ():=Q
  show wpAny _ _ (Bind.checkArgs "tuple.__lt__" S ⟨[.ref d,.ref e],[]⟩) _ _ _
  rw[a5]; exact wpAny_pure M
theorem NN(a9:A.units<cLine)(r:c.heap.get? d=some (Aj N a.1 a.2.1 a.2.2 B D E))(y:c.heap.get? e=some (Aj P b.1 b.2.1 b.2.2 G H K))(s:(KM w.params).In c.heap){g:Bool->Shared->Prop}(h:g (DG a b) c) :
  wpAny (model pw w) A (keyLt' oneType' (.ref d) (.ref e)) g i c:=by
 rw[keyLt'_oneType,oneLt'_eq]
 simp only[if_true]
 refine wpAny_bind (wpAny_cRoomFor a9 ?_)
 have z:Looks (model pw w) c.heap (typeOf (.ref d)) (.ref 135):=(Looks.ld r).andThen .now
 have a4:findIn (KM w.params) (.ref 135) "__lt__" = some (some (.builtin "tuple.__lt__")):=by kernel_rfl
 refine wpAny_bind ?_
 simp only[callSpecialIfBound?,bindSpecialIfBound?]
 refine wpAny_holding (wpAny_bind (wpAny_bind (wpAny_bind (z.here ((looks_findIn s a4).here ?_)))))
 simp only[PySem.F.slot_tuple_lt.bind]
 refine wpAny_bind (wpAny_askSetting (wpAny_ite ?_))
 have x:wpAny (model pw w) A (call (.builtin "tuple.__lt__") ([.ref d]++[.ref e])>>=λb2=>pure (some b2)) (λb1 m=>wpAny (model pw w) A (match b1 with
    |some Value.notImplemented=>do
     rule "list.sort.lt-declined"
     let n <-richCompare CmpOp.Lt (Value.ref d) (Value.ref e)
     truthOfDropped n
    |none=>do
     rule "list.sort.lt-declined"
     let n <-richCompare CmpOp.Lt (Value.ref d) (Value.ref e)
     truthOfDropped n
    |some n=>truthOfDropped n) g i m) i c:=
  wpAny_bind (Q9 r y s (wpAny_pure (wpAny_truthy_bool h)))
 split
 ·exact wpAny_bind (wpAny_pure (wpAny_pure x))
 ·exact wpAny_tryCatch (wpAny_bind (wpAny_pure (wpAny_pure x)))
end
end
section
noncomputable def IQ(b:B3):List B3->List B3
 |[]=>[b]
 |c::h=>if b.1<c.1 then b::c::h else c::IQ b h
noncomputable def Bh:List B3->List B3
 |[]=>[]
 |b::h=>IQ b (Bh h)
theorem FF(b:B3):∀h,(IQ b h).Perm (b::h)
 |[]=>List.Perm.refl _
 |c::h=>by
  unfold IQ
  split
  ·exact List.Perm.refl _
  ·exact((FF b h).cons c).trans (List.Perm.swap ..)
theorem CJ:∀h,(Bh h).Perm h
 |[]=>List.Perm.refl _
 |b::h=>(FF b _).trans ((CJ h).cons b)
noncomputable abbrev Ea(h:List B3):Prop:=h.Pairwise λb c=>b.1<c.1
theorem Ge(b:B3):∀{h:List B3},Ea h->(∀c∈h,c.1≠b.1)->Ea (IQ b h)
 |[],_,_=>List.pairwise_singleton _ _
 |c::h,m,d9=>by
  unfold IQ
  obtain⟨s,p⟩:=List.pairwise_cons.mp m
  have d8:=d9 c (.head _)
  split
  ·rename_i g2
   refine List.pairwise_cons.mpr ⟨λL hd=>?_,m⟩
   rcases List.mem_cons.mp hd with rfl |hd
   ·exact g2
   ·have:=s L hd; lia
  ·refine List.pairwise_cons.mpr ⟨λL hd=>?_,Ge b p λL hd=>d9 L (.tail _ hd)⟩
   rcases List.mem_cons.mp ((FF b h).mem_iff.mp hd) with rfl |hd
   ·lia
   ·exact s L hd
theorem E4:∀{h:List B3},(h.map (·.1)).Nodup->Ea (Bh h)
 |[],_=>List.Pairwise.nil
 |b::h,m=>by
  obtain⟨s,p⟩:=List.nodup_cons.mp m
  refine Ge b (E4 p) λc d8 i=>s ?_
  exact List.mem_map.mpr ⟨c,(CJ h).mem_iff.mp d8,i⟩
theorem Gb:∀{h M:List B3},h.Perm M->Ea h->Ea M->h=M
 |[],M,m,_,_=>m.nil_eq
 |b::h,[],m,_,_=>absurd m.length_eq (by simp)
 |b::h,c::M,m,a8,c0=>by
  obtain⟨N,P⟩:=List.pairwise_cons.mp a8
  obtain⟨d1,d2⟩:=List.pairwise_cons.mp c0
  have i:b=c:=by
   have s:b∈c::M:=m.mem_iff.mp (.head _)
   have p:c∈b::h:=m.mem_iff.mpr (.head _)
   rcases List.mem_cons.mp s with i |s
   ·exact i
   ·rcases List.mem_cons.mp p with i |p
    ·exact i.symm
    ·have:=N c p; have:=d1 b s; lia
  subst i
  rw[Gb m.cons_inv P d2]
theorem OA{b c:B3}(m:b.1≠c.1):DG b c=decide (b.1<c.1):=if_neg m
noncomputable def Jz(B a1:Nat)(a:List B3)(e:Nat):Spec:=
 {code:=.call (.builtin "list.sort") ⟨[.ref B],[]⟩,nf:=2,d:=30,fp:=[(B,I (A4 (A8 a e)) a1)],upd:=λa3=>[I (A4 (A8 (Bh a) (W 0 a3 0))) (W 0 a3 1)],res:=λ_=>.ok (.ret .none),
  pool:=true,pre:=mP (A8 a e),post:=λa3=>mP (A8 (Bh a) (W 0 a3 0))}
theorem Fu(a:List B3)(c3:Nat):(A8 a c3).length=a.length:=by
 have:=congrArg List.length (Em a c3)
 simpa using this
section
include O
theorem Sj{e8:An}{e6:Gs}{t:Shared}(b0:RepF (V w j o u) e8 e6 F t):(KM w.params).In t.heap:=by
 intro a6 h7 i
 have s:(V w j o u).kt.get 135=some (Ii w.params):=by kernel_rfl
 have p:(V w j o u).kt.get 134=some (HG w.params):=by kernel_rfl
 unfold KM at i
 rw[List.lookup_cons] at i
 by_cases d3:a6=135
 ·subst d3
  simp at i
  subst i
  exact Rep.top O b0 s
 ·have:(a6==135)=false:=by simpa using d3
  rw[this] at i
  dsimp only at i
  rw[List.lookup_cons] at i
  by_cases d4:a6=134
  ·subst d4
   simp at i
   subst i
   exact Rep.top O b0 p
  ·have:(a6==134)=false:=by simpa using d4
   rw[this] at i
   cases i
omit O in
theorem W5{a:List B3}(m:a.length<2):a=Bh a:=by
 cases a with
 |nil=>rfl
 |cons b h=>cases h with
  |nil=>rfl
  |cons c h=>exact absurd m (Nat.not_lt.mpr (Nat.le_add_left 2 _))
theorem Hw{B a1 e:Nat}{a:List B3}(e2:(a.map (·.1)).Nodup)(h6:a.length<64):(Jz B a1 a e).Ok (V w j o u):=Spec.of_call rfl (λ_=>rfl) (λ_=>rfl) λA f5 b3 t d0 b0 a7=>by
 have b9:=Fu a e
 have b7:=Em a e
 have d6:∀(x:Shared) (a0:List BX) (r:Nat),a0.map (·.2.2.1)=Bh a->a0.Perm (A8 a e)->RepF (V w j o u) ([(B,I (A4 a0) r)]++mP (A8 a e)) [] b3 x->d0 .none x:=λx a0 r c0 z c2=>by
  obtain⟨c4,en⟩:=EZ a0
  rw[c0] at en
  refine a7 [c4,r] x _ rfl rfl ?_
  show RepF (V w j o u) ([(B,I (A4 (A8 (Bh a) c4)) r)]++[]++mP (A8 (Bh a) c4)) [] b3 x
  rw[en,List.append_nil]
  exact RepF.perm c2 (List.Perm.append_left _ (z.map _))
 have e1:RepF (V w j o u) ((B,I (A4 (A8 a e)) a1)::mP (A8 a e)) [] b3 t:=b0
 have c1:=RepF.get0 e1
 have D:(A4 (A8 a e)).length=a.length:=by rw[D5,b9]
 refine wpAny_call_entry slot_list_sort ⟨_,c1,rfl⟩ entry_list_sort ?_ (args_list_sort _)
 rw[list_sort_plain]
 refine wpAny_bind (listItems_at c1 rfl ?_)
 have c9:=RepF.upd0 O e1 (x:=Obj.mapSeq λ_=>(#[]:Array Value)) rfl
 obtain⟨G,g0⟩:∃G,Obj.mapSeq (λ_=>(#[]:Array Value)) (I (A4 (A8 a e)) a1)=I [] G:=⟨_,rfl⟩
 rw[g0] at c9
 refine wpAny_bind (listUpdate_at c1 rfl ?_ (by show(A4 (A8 a e)).length<=_; rw[D,sizeLine_eq]; lia) (Nat.zero_le _))
 refine wpAny_bind (seqEpoch_at (RepF.get0 c9) rfl ?_)
 refine wpAny_bind (wpAny_newTuple ?_ (by show(A4 (A8 a e)).length<=_; rw[D,sizeLine_eq]; lia))
 refine wpAny_bind (wpAny_newList ?_ (Nat.zero_le _))
 refine wpAny_holding ?_
 have h3:=RepF.push c9 (o:=Aa (A4 (A8 a e))) rfl
 have h4:=RepF.push h3 (o:=I [] 0) rfl
 have a4:=RepF.keep _ (RepF.keep _ h4)
 show wpAny (model pw w) A.in1 _ _ _ {t with heap:=((t.heap.update B (Obj.mapSeq λ_=>(#[]:Array Value))).push (Aa (A4 (A8 a e)))).push (I [] 0)}
 have a9:=RepF.get0 a4
 dsimp only
 by_cases p:a.length<2
 ·have Q:(A4 (A8 a e)).toArray.size<2:=by rw[List.size_toArray,D]; exact p
  rw[if_pos Q,if_pos Q]
  refine wpAny_bind (wpAny_pure ?_)
  rw[StateT.run_pure]
  refine wpAny_bind (wpAny_pure ?_)
  dsimp only
  refine wpAny_bind (seqEpoch_at a9 rfl ?_)
  have d5:(arrOf (SortSt.mk' general' ((A4 (A8 a e)).toArray.zip (A4 (A8 a e)).toArray) #[] 7 none)).map (·.2)=(A4 (A8 a e)).toArray:=by
   apply Array.toList_inj.mp
   show(((A4 (A8 a e)).toArray.zip (A4 (A8 a e)).toArray).map (·.2)).toList=_
   simp[List.map_snd_zip]
  refine wpAny_bind (listUpdate_at a9 rfl ?_ (Nat.zero_le _) (by rw[d5,List.size_toArray,D,sizeLine_eq]; lia))
  simp only[bne_self_eq_false,Bool.false_eq_true,if_false]
  refine wpAny_pure ⟨_,rfl,?_⟩
  have a5:=RepF.upd0 O a4 (x:=Obj.mapSeq λ_=>(arrOf (SortSt.mk' general' ((A4 (A8 a e)).toArray.zip (A4 (A8 a e)).toArray) #[] 7 none)).map (·.2)) rfl
  obtain⟨r,b8⟩:∃r,Obj.mapSeq (λ_=>(arrOf (SortSt.mk' general' ((A4 (A8 a e)).toArray.zip (A4 (A8 a e)).toArray) #[] 7 none)).map (·.2)) (I [] G)=I (A4 (A8 a e)) r:=⟨_,by rw[d5]; rfl⟩
  rw[b8] at a5
  refine d6 _ (A8 a e) r ?_ (List.Perm.refl _) a5
  rw[b7]
  exact W5 p
 ·have Q:¬ (A4 (A8 a e)).toArray.size<2:=by rw[List.size_toArray,D]; exact p
  rw[if_neg Q,if_neg Q]
  have K:∀d,d<a.length->∃l:BX,(A8 a e)[d]?=some l/\a[d]?=some l.2.2.1/\(A4 (A8 a e)).getD d Value.none = .ref l.1:=λd k=>by
   have S:d<(A8 a e).length:=by rw[b9]; exact k
   refine⟨(A8 a e)[d],by simp[S],?_,by simp[A4,S]⟩
   have:=congrArg (λh=>h[d]?) b7
   simp only[List.getElem?_map] at this
   rw[<-this]
   simp[S]
  have g9:∀{d:Nat} {l:BX},(A8 a e)[d]?=some l->(l.1,Aj l.2.1 l.2.2.1.1 l.2.2.1.2.1 l.2.2.1.2.2 l.2.2.2.1 l.2.2.2.2.1 l.2.2.2.2.2)∈mP (A8 a e):=λm=>List.mem_map.mpr ⟨_,List.mem_of_getElem? m,rfl⟩
  have b6:∀{d:Nat} {l:BX},(A8 a e)[d]?=some l->(((t.heap.update B (Obj.mapSeq λ_=>(#[]:Array Value))).push (Aa (A4 (A8 a e)))).push (I [] 0)).get? l.1=some (Aj l.2.1 l.2.2.1.1 l.2.2.1.2.1 l.2.2.1.2.2 l.2.2.2.1 l.2.2.2.2.1 l.2.2.2.2.2):=λm=>
   Rep.get a4 _ (List.mem_append_left _ (List.mem_cons_of_mem _ (g9 m)))
  refine wpAny_bind (kas_kind (T:=.ref 135) (by rw[D]; lia) (λa3 g8=>?_) (by decide) (by decide) ?_)
  ·obtain⟨l,c2,rfl⟩:=List.mem_map.mp g8
   obtain⟨d,k,f2⟩:=List.mem_iff_getElem.mp c2
   have:(A8 a e)[d]?=some l:=by rw[List.getElem?_eq_getElem k,f2]
   exact(Looks.ld (b6 this)).andThen .now
  ·let lt:Nat->Nat->Bool:=λd g=>DG (a.getD d (0,0,0)) (a.getD g (0,0,0))
   have e3:∀d g,d<a.length->g<a.length->d≠g->(a.getD d (0,0,0)).1≠(a.getD g (0,0,0)).1:=λd g k n y i=>y (by
    have G:(a.map (·.1))[d]'(by simpa using k)=(a.getD d (0,0,0)).1:=by simp[k]
    have b5:(a.map (·.1))[g]'(by simpa using n)=(a.getD g (0,0,0)).1:=by simp[n]
    exact(List.getElem_inj e2).mp (G.trans (i.trans b5.symm)))
   have h0:∀d,lt d d=false:=λd=>by show DG _ _=false; unfold DG; rw[if_pos rfl,if_pos rfl,if_pos rfl]
   have X:∀d g,d<a.length->g<a.length->d≠g->lt d g=decide ((a.getD d (0,0,0)).1<(a.getD g (0,0,0)).1):=λd g k n y=>OA (e3 d g k n y)
   have b1:∀d g,d<a.length->g<a.length->lt d g=true->d≠g/\(a.getD d (0,0,0)).1<(a.getD g (0,0,0)).1:=λd g k n m=>by
    have y:d≠g:=λi=>by subst i; rw[h0] at m; cases m
    rw[X d g k n y] at m
    exact⟨y,of_decide_eq_true m⟩
   have e9:Rl a.length lt:=by
    refine⟨by lia,λd g k n m=>?_,λd g r k n a7 s p=>?_,λd g k n y m=>?_⟩
    ·obtain⟨N,P⟩:=b1 d g k n m
     rw[X g d n k (Ne.symm N)]
     exact decide_eq_false (by lia)
    ·obtain⟨N,P⟩:=b1 d g k n s
     obtain⟨d1,d2⟩:=b1 g r n a7 p
     have:d≠r:=λi=>by subst i; lia
     rw[X d r k a7 this]
     exact decide_eq_true (by lia)
    ·rw[X d g k n y] at m
     have:=of_decide_eq_false m
     have:=e3 d g k n y
     rw[X g d n k (Ne.symm y)]
     exact decide_eq_true (by lia)
   have g7:A.in1.units<cLine:=by
    have:A.units+2*30<=9890:=f5.units
    have h5:A.in1.units<=A.units+10:=by
     show A.units+_<=_
     simp
    show A.in1.units<9900
    lia
   have f4:SortSt.mk' oneType' ((A4 (A8 a e)).toArray.zip (A4 (A8 a e)).toArray) #[] 7 none=kas_st oneType' (pairsOf (A4 (A8 a e))) (List.toArray (List.range (A4 (A8 a e)).length)):=by
    have i:=kas_range (pairsOf (A4 (A8 a e)))
    rw[pairsOf_size] at i
    show SortSt.mk' oneType' (pairsOf (A4 (A8 a e))) #[] 7 none=SortSt.mk' oneType' ((List.toArray (List.range (A4 (A8 a e)).length)).map (kas_item (pairsOf (A4 (A8 a e))))) #[] 7 none
    rw[i]
   have e7:=Sj O a4
   have f1:(kas_sort (A4 (A8 a e)).length).kasWp (kas_cmp pw w A.in1 oneType' (pairsOf (A4 (A8 a e)))) (λq x=>Ct a.length q/\It lt q a.length/\x={t with heap:=((t.heap.update B (Obj.mapSeq λ_=>(#[]:Array Value))).push (Aa (A4 (A8 a e)))).push (I [] 0)}) {t with heap:=((t.heap.update B (Obj.mapSeq λ_=>(#[]:Array Value))).push (Aa (A4 (A8 a e)))).push (I [] 0)}:=by
    rw[D]
    refine IC (d:=a.length) (lt:=lt) (λd g e5 k n f6=>?_) _ (P5 e9 λc5 g6 f7=>⟨g6,f7,rfl⟩)
    obtain⟨l,H,b2,c8⟩:=K d k
    obtain⟨c5,c6,c7,h2⟩:=K g n
    unfold kas_cmp
    rw[kas_item_eq,kas_item_eq,c8,h2]
    refine NN g7 (b6 H) (b6 c6) e7 ?_
    have G:a.getD d (0,0,0)=l.2.2.1:=by rw[List.getD_eq_getElem?_getD,b2]; rfl
    have b5:a.getD g (0,0,0)=c5.2.2.1:=by rw[List.getD_eq_getElem?_getD,c7]; rfl
    have d7:e5 (DG (a.getD d (0,0,0)) (a.getD g (0,0,0))) _:=f6
    rw[G,b5] at d7
    exact d7
   have e4:=kas_runs (E:=λi x=>(λ_ _=>False:VP) i x) (Q:=λ_ a2 x=>∃q:Array Nat,arrOf a2=q.map (kas_item (pairsOf (A4 (A8 a e))))/\failedOf a2=none/\Ct a.length q/\It lt q a.length/\x={t with heap:=((t.heap.update B (Obj.mapSeq λ_=>(#[]:Array Value))).push (Aa (A4 (A8 a e)))).push (I [] 0)})
    (by rw[D]; lia) (by rw[D]; omega) (λh1 a2 x N P f0 b4=>⟨h1,P,f0,b4.1,b4.2.1,b4.2.2⟩) f1
   rw[<-f4] at e4
   refine wpAny_bind (wpAny_mono e4 ?_ λ_ _ i=>i)
   rintro ⟨⟨⟩,a2⟩ x ⟨q,f8,g1,z,f9,rfl⟩
   dsimp only
   have g3:(arrOf a2).map (·.2)=(A4 (q.toList.map λd=>(A8 a e).getD d (0,0,(0,0,0),0,0,0))).toArray:=by
    apply Array.toList_inj.mp
    rw[f8,Array.map_map,Array.toList_map]
    show _=A4 _
    unfold A4
    rw[List.map_map]
    refine List.map_congr_left λd k=>?_
    have S:d<a.length:=List.mem_range.mp (z.perm.mem_iff.mp k)
    obtain⟨l,H,b2,c8⟩:=K d S
    show(kas_item (pairsOf (A4 (A8 a e))) d).2=_
    rw[kas_item_eq]
    show(A4 (A8 a e)).getD d Value.none=Value.ref ((A8 a e).getD d _).1
    rw[c8,List.getD_eq_getElem?_getD,H]
    rfl
   rw[g3]
   refine wpAny_bind (seqEpoch_at a9 rfl ?_)
   refine wpAny_bind (listUpdate_at a9 rfl ?_ (Nat.zero_le _) (by rw[List.size_toArray,D5,List.length_map,Array.length_toList,z.size,sizeLine_eq]; lia))
   rw[g1]
   simp only[bne_self_eq_false,Bool.false_eq_true,if_false]
   refine wpAny_pure ⟨_,rfl,?_⟩
   have a5:=RepF.upd0 O a4 (x:=Obj.mapSeq λ_=>(A4 (q.toList.map λd=>(A8 a e).getD d (0,0,(0,0,0),0,0,0))).toArray) rfl
   obtain⟨r,b8⟩:∃r,Obj.mapSeq (λ_=>(A4 (q.toList.map λd=>(A8 a e).getD d (0,0,(0,0,0),0,0,0))).toArray) (I [] G)=I (A4 (q.toList.map λd=>(A8 a e).getD d (0,0,(0,0,0),0,0,0))) r:=⟨_,rfl⟩
   rw[b8] at a5
   have f3:(List.range a.length).map (λd=>(A8 a e).getD d (0,0,(0,0,0),0,0,0))=A8 a e:=by
    apply List.ext_getElem?
    intro d
    rw[List.getElem?_map]
    by_cases k:d<a.length
    ·obtain⟨l,H,_,_⟩:=K d k
     rw[List.getElem?_range k,H]
     show some ((A8 a e).getD d _)=_
     rw[List.getD_eq_getElem?_getD,H]; rfl
    ·rw[List.getElem?_eq_none (by rw[List.length_range]; lia),List.getElem?_eq_none (by rw[b9]; lia)]; rfl
   have e0:(q.toList.map λd=>(A8 a e).getD d (0,0,(0,0,0),0,0,0)).Perm (A8 a e):=by
    have:=z.perm.map (λd=>(A8 a e).getD d (0,0,(0,0,0),0,0,0))
    rw[f3] at this
    exact this
   refine d6 _ _ r ?_ e0 a5
   refine Gb ?_ ?_ (E4 e2)
   ·have:=e0.map (λl:BX=>l.2.2.1)
    rw[b7] at this
    exact this.trans (CJ a).symm
   ·rw[List.map_map]
    refine List.pairwise_iff_getElem.mpr λd g k n y=>?_
    simp only[List.length_map,Array.length_toList] at k n
    rw[z.size] at k n
    have g4:q.toList[d]'(by simp; rw[z.size]; exact k)=kp q d:=by simp[kp,z.size,k]
    have g5:q.toList[g]'(by simp; rw[z.size]; exact n)=kp q g:=by simp[kp,z.size,n]
    rw[List.getElem_map,List.getElem_map,g4,g5]
    have s:=z.lt (by lia) d
    have p:=z.lt (by lia) g
    obtain⟨l,H,b2,_⟩:=K _ s
    obtain⟨c5,c6,c7,_⟩:=K _ p
    have a8:=(b1 _ _ s p (f9 d g y n)).2
    show((A8 a e).getD (kp q d) _).2.2.1.1<((A8 a e).getD (kp q g) _).2.2.1.1
    rw[List.getD_eq_getElem?_getD,List.getD_eq_getElem?_getD,H,c6]
    rw[List.getD_eq_getElem?_getD,List.getD_eq_getElem?_getD,b2,c7] at a8
    exact a8
end
end
section
noncomputable def SY:Str:=S [105,49]
noncomputable def U6:Str:=S [106,49]
noncomputable def VL:Str:=S [107,49]
noncomputable def T0:Str:=S [105,50]
noncomputable def TL:Str:=S [106,50]
noncomputable def Vq:Str:=S [107,50]
noncomputable def VR:Str:=S [110,111,110,95,97,100,106,97,99,101,110,116]
noncomputable def gy(a:Params)(c d e f g h i k:Nat)(L M N P Q T X a0:Value)(b:List DictEntry):List DictEntry:=
 en a O1 c L::en a Pk d M::en a NX e N::en a P3 f P::en a nI g Q::en a nJ h T::en a nK i X::en a nX k a0::b
noncomputable def gz(a:Params)(l m g2 g3:Nat)(r t y:Int)(D E G B:Nat)(b:List DictEntry):List DictEntry:=
 en a SY l (.int r D)::en a U6 m (.int t E)::en a VL g2 (.int y G)::en a VR g3 (.ref B)::b
noncomputable def ga(a:Params)(n p q:Nat)(s x z:Int)(H t5 K:Nat):List DictEntry:=
 [en a T0 n (.int s H),en a TL p (.int x t5),en a Vq q (.int z K)]
end
section
inductive CW(e6:Params):List DictEntry->Prop
 |s0:CW e6 []
 |s1 (c5 c6 c7:Nat) (d9 e0 e1:Int) (e2 t5 e3:Nat):CW e6 (ga e6 c5 c6 c7 d9 e0 e1 e2 t5 e3)
section
variable{p l z B D Y E a4:Nat}{a2 a1:Int}{a6 a5 a3 a b7:Nat}{G H K L M N P Q:Nat}{a7 a8 a9 b0 b1 b2 b3 b4:Value}{T X g2 g3:Nat}{y a0 m:Int}{c3 c4 b8 i b6 t:Nat}{s e x:List Value}{d S:Nat}{b c f:Int}{h k n:Nat}{c8:List DictEntry}
include O
theorem TN(d2:CW w.params c8)(d8:s.length<=sizeLine)(d0:y+m=b)(e4:a0+m=c)(d1:Room 400 A)(c1:RepF (V w j o u) [(p,AL w.params z B D Y E a4 a2 a1 a6 a5 a3 a (gy w.params G H K L M N P Q a7 a8 a9 b0 b1 b2 b3 b4 (gz w.params T X g2 g3 y a0 m c3 c4 b8 i c8)) b7),(l,A6 a e.length),(a,I (e ++ .ref d::x) t),(i,I s b6),(d,Aj S b c f h k n)] [] F v)(c0:∀q c2 (c9 d4 d5 d6 d3:Nat),CW w.params c2->RepF (V w j o u) [(p,AL w.params z B D Y E a4 a2 a1 a6 a5 a3 a (gy w.params G H K L M N P Q a7 a8 a9 b0 b1 b2 b3 b4 (gz w.params T X g2 g3 y a0 (m+f) d4 d5 d6 i c2)) c9),(l,A6 a (e.length+1)),(a,I (e ++ .ref d::x) t),(i,I s d3),(d,Aj S b c f h k n)] [] F q->codeAny (model pw w) A (Ee p l) R q):codeAny (model pw w) A (Ee p l) R v:=by
 have b9:=CQ O d1 (Ee p l) 197 0x42042140000140000140000040140186006186146186006186146186006186146186006186146188001040041001041040041041040041041040001041 [(λr=>AX l a e (Value.ref d) x t,[1,2],[]),(λr=>CM (y+m) b (C r 6) h true,[],[]),(λr=>CM (a0+m) c (C r 7) k true,[],[])] [0,1,2,3,4] (GH (Av O) (B7 O (beq_iff_eq.mpr d0)) (B7 O (beq_iff_eq.mpr e4)))
 cases d2 with
 |s0=>
  exact b9.1 (λg=>[(p,AL w.params z B D Y E a4 a2 a1 a6 a5 a3 a (gy w.params G H K L M N P Q a7 a8 a9 b0 b1 b2 b3 b4 (gz w.params T X g2 g3 y a0 (m+f) c3 c4 (g 8) i (ga w.params (g 3) (g 4) (g 5) b c f h k n))) ((((b7+1)+1)+1))),(l,A6 a (e.length+1)),(a,I (e ++ .ref d::x) t),(i,I s b6),(d,Aj S b c f h k n)]) c1 λg q b5=>c0 q _ _ _ _ _ _ (CW.s1 _ _ _ _ _ _ _ _ _) b5
 |s1 c5 c6 c7 d9 e0 e1 e2 t5 e3=>
  exact b9.1 (λg=>[(p,AL w.params z B D Y E a4 a2 a1 a6 a5 a3 a (gy w.params G H K L M N P Q a7 a8 a9 b0 b1 b2 b3 b4 (gz w.params T X g2 g3 y a0 (m+f) c3 c4 (g 8) i (ga w.params c5 c6 c7 b c f h k n))) (b7)),(l,A6 a (e.length+1)),(a,I (e ++ .ref d::x) t),(i,I s b6),(d,Aj S b c f h k n)]) c1 λg q b5=>c0 q _ _ _ _ _ _ (CW.s1 _ _ _ _ _ _ _ _ _) b5
theorem Um(d2:CW w.params c8)(d8:s.length<=sizeLine)(d0:y+m≠b)(d7:m≠0)(d1:Room 400 A)(c1:RepF (V w j o u) [(p,AL w.params z B D Y E a4 a2 a1 a6 a5 a3 a (gy w.params G H K L M N P Q a7 a8 a9 b0 b1 b2 b3 b4 (gz w.params T X g2 g3 y a0 m c3 c4 b8 i c8)) b7),(l,A6 a e.length),(a,I (e ++ .ref d::x) t),(i,I s b6),(d,Aj S b c f h k n)] [] F v)(c0:∀q c2 (c9 d4 d5 d6 e5 d3:Nat),CW w.params c2->RepF (V w j o u) [(p,AL w.params z B D Y E a4 a2 a1 a6 a5 a3 a (gy w.params G H K L M N P Q a7 a8 a9 b0 b1 b2 b3 b4 (gz w.params T X g2 g3 b c f d4 d5 d6 i c2)) c9),(l,A6 a (e.length+1)),(a,I (e ++ .ref d::x) t),(i,I (s++[.ref e5]) d3),(d,Aj S b c f h k n),(e5,Aa [.int y c3,.int a0 c4,.int m b8])] [] F q->codeAny (model pw w) A (Ee p l) R q):codeAny (model pw w) A (Ee p l) R v:=by
 have b9:=CQ O d1 (Ee p l) 275 0x108108500000500000500000100500618018618518618018618518618018618518618018618518620004100104004104100104104104410410104104104128a28100a2cb00b2cb28b2cb00b2cb28b2cb00b2cb28b2cb00b2cb28b2cd001040041001041 [(λr=>AX l a e (Value.ref d) x t,[1,2],[]),(λr=>CM (y+m) b (C r 6) h false,[],[]),(λr=>Bc m b8 true,[],[]),(λr=>AJ i s b6 (Value.ref (C r 7)),[3],[])] [0,1,2,3,4,8] (Mf (Av O) (B7 O (beq_eq_false_iff_ne.mpr d0)) (Ay O (bne_iff_ne.mpr d7)) (Ag O d8))
 cases d2 with
 |s0=>
  exact b9.1 (λg=>[(p,AL w.params z B D Y E a4 a2 a1 a6 a5 a3 a (gy w.params G H K L M N P Q a7 a8 a9 b0 b1 b2 b3 b4 (gz w.params T X g2 g3 b c f h k n i (ga w.params (g 3) (g 4) (g 5) b c f h k n))) ((((b7+1)+1)+1))),(l,A6 a (e.length+1)),(a,I (e ++ .ref d::x) t),(i,I (s++[.ref (g 7)]) (b6+1)),(d,Aj S b c f h k n),(g 7,Aa [.int y c3,.int a0 c4,.int m b8])]) c1 λg q b5=>c0 q _ _ _ _ _ _ _ (CW.s1 _ _ _ _ _ _ _ _ _) b5
 |s1 c5 c6 c7 d9 e0 e1 e2 t5 e3=>
  exact b9.1 (λg=>[(p,AL w.params z B D Y E a4 a2 a1 a6 a5 a3 a (gy w.params G H K L M N P Q a7 a8 a9 b0 b1 b2 b3 b4 (gz w.params T X g2 g3 b c f h k n i (ga w.params c5 c6 c7 b c f h k n))) (b7)),(l,A6 a (e.length+1)),(a,I (e ++ .ref d::x) t),(i,I (s++[.ref (g 7)]) (b6+1)),(d,Aj S b c f h k n),(g 7,Aa [.int y c3,.int a0 c4,.int m b8])]) c1 λg q b5=>c0 q _ _ _ _ _ _ _ (CW.s1 _ _ _ _ _ _ _ _ _) b5
theorem SZ(d2:CW w.params c8)(d8:s.length<=sizeLine)(d0:y+m≠b)(d7:m=0)(d1:Room 400 A)(c1:RepF (V w j o u) [(p,AL w.params z B D Y E a4 a2 a1 a6 a5 a3 a (gy w.params G H K L M N P Q a7 a8 a9 b0 b1 b2 b3 b4 (gz w.params T X g2 g3 y a0 m c3 c4 b8 i c8)) b7),(l,A6 a e.length),(a,I (e ++ .ref d::x) t),(i,I s b6),(d,Aj S b c f h k n)] [] F v)(c0:∀q c2 (c9 d4 d5 d6 d3:Nat),CW w.params c2->RepF (V w j o u) [(p,AL w.params z B D Y E a4 a2 a1 a6 a5 a3 a (gy w.params G H K L M N P Q a7 a8 a9 b0 b1 b2 b3 b4 (gz w.params T X g2 g3 b c f d4 d5 d6 i c2)) c9),(l,A6 a (e.length+1)),(a,I (e ++ .ref d::x) t),(i,I s d3),(d,Aj S b c f h k n)] [] F q->codeAny (model pw w) A (Ee p l) R q):codeAny (model pw w) A (Ee p l) R v:=by
 have b9:=CQ O d1 (Ee p l) 255 0x4204214000014000014000004014018600618614618600618614618600618614618600618614618800104004100104104004104104104124924100928a00a28a24a28a00a28a24a28a00a28a24a28a00a28a24a28c001040041001041 [(λr=>AX l a e (Value.ref d) x t,[1,2],[]),(λr=>CM (y+m) b (C r 6) h false,[],[]),(λr=>Bc m b8 false,[],[])] [0,1,2,3,4] (GH (Av O) (B7 O (beq_eq_false_iff_ne.mpr d0)) (Ay O (by rw[d7]; rfl)))
 cases d2 with
 |s0=>
  exact b9.1 (λg=>[(p,AL w.params z B D Y E a4 a2 a1 a6 a5 a3 a (gy w.params G H K L M N P Q a7 a8 a9 b0 b1 b2 b3 b4 (gz w.params T X g2 g3 b c f h k n i (ga w.params (g 3) (g 4) (g 5) b c f h k n))) ((((b7+1)+1)+1))),(l,A6 a (e.length+1)),(a,I (e ++ .ref d::x) t),(i,I s b6),(d,Aj S b c f h k n)]) c1 λg q b5=>c0 q _ _ _ _ _ _ (CW.s1 _ _ _ _ _ _ _ _ _) b5
 |s1 c5 c6 c7 d9 e0 e1 e2 t5 e3=>
  exact b9.1 (λg=>[(p,AL w.params z B D Y E a4 a2 a1 a6 a5 a3 a (gy w.params G H K L M N P Q a7 a8 a9 b0 b1 b2 b3 b4 (gz w.params T X g2 g3 b c f h k n i (ga w.params c5 c6 c7 b c f h k n))) (b7)),(l,A6 a (e.length+1)),(a,I (e ++ .ref d::x) t),(i,I s b6),(d,Aj S b c f h k n)]) c1 λg q b5=>c0 q _ _ _ _ _ _ (CW.s1 _ _ _ _ _ _ _ _ _) b5
theorem SF(d2:CW w.params c8)(d8:s.length<=sizeLine)(d0:y+m=b)(e4:a0+m≠c)(d7:m≠0)(d1:Room 400 A)(c1:RepF (V w j o u) [(p,AL w.params z B D Y E a4 a2 a1 a6 a5 a3 a (gy w.params G H K L M N P Q a7 a8 a9 b0 b1 b2 b3 b4 (gz w.params T X g2 g3 y a0 m c3 c4 b8 i c8)) b7),(l,A6 a e.length),(a,I (e ++ .ref d::x) t),(i,I s b6),(d,Aj S b c f h k n)] [] F v)(c0:∀q c2 (c9 d4 d5 d6 e5 d3:Nat),CW w.params c2->RepF (V w j o u) [(p,AL w.params z B D Y E a4 a2 a1 a6 a5 a3 a (gy w.params G H K L M N P Q a7 a8 a9 b0 b1 b2 b3 b4 (gz w.params T X g2 g3 b c f d4 d5 d6 i c2)) c9),(l,A6 a (e.length+1)),(a,I (e ++ .ref d::x) t),(i,I (s++[.ref e5]) d3),(d,Aj S b c f h k n),(e5,Aa [.int y c3,.int a0 c4,.int m b8])] [] F q->codeAny (model pw w) A (Ee p l) R q):codeAny (model pw w) A (Ee p l) R v:=by
 have b9:=CQ O d1 (Ee p l) 289 0x108108500000500000500000100500618018618518618018618518618018618518618018618518620004100104004104100104104100104104104410410104104104128a28100a2cb00b2cb28b2cb00b2cb28b2cb00b2cb28b2cb00b2cb28b2cd001040041001041 [(λr=>AX l a e (Value.ref d) x t,[1,2],[]),(λr=>CM (y+m) b (C r 6) h true,[],[]),(λr=>CM (a0+m) c (C r 7) k false,[],[]),(λr=>Bc m b8 true,[],[]),(λr=>AJ i s b6 (Value.ref (C r 8)),[3],[])] [0,1,2,3,4,8] (Ir (Av O) (B7 O (beq_iff_eq.mpr d0)) (B7 O (beq_eq_false_iff_ne.mpr e4)) (Ay O (bne_iff_ne.mpr d7)) (Ag O d8))
 cases d2 with
 |s0=>
  exact b9.1 (λg=>[(p,AL w.params z B D Y E a4 a2 a1 a6 a5 a3 a (gy w.params G H K L M N P Q a7 a8 a9 b0 b1 b2 b3 b4 (gz w.params T X g2 g3 b c f h k n i (ga w.params (g 3) (g 4) (g 5) b c f h k n))) ((((b7+1)+1)+1))),(l,A6 a (e.length+1)),(a,I (e ++ .ref d::x) t),(i,I (s++[.ref (g 8)]) (b6+1)),(d,Aj S b c f h k n),(g 8,Aa [.int y c3,.int a0 c4,.int m b8])]) c1 λg q b5=>c0 q _ _ _ _ _ _ _ (CW.s1 _ _ _ _ _ _ _ _ _) b5
 |s1 c5 c6 c7 d9 e0 e1 e2 t5 e3=>
  exact b9.1 (λg=>[(p,AL w.params z B D Y E a4 a2 a1 a6 a5 a3 a (gy w.params G H K L M N P Q a7 a8 a9 b0 b1 b2 b3 b4 (gz w.params T X g2 g3 b c f h k n i (ga w.params c5 c6 c7 b c f h k n))) (b7)),(l,A6 a (e.length+1)),(a,I (e ++ .ref d::x) t),(i,I (s++[.ref (g 8)]) (b6+1)),(d,Aj S b c f h k n),(g 8,Aa [.int y c3,.int a0 c4,.int m b8])]) c1 λg q b5=>c0 q _ _ _ _ _ _ _ (CW.s1 _ _ _ _ _ _ _ _ _) b5
theorem S5(d2:CW w.params c8)(d8:s.length<=sizeLine)(d0:y+m=b)(e4:a0+m≠c)(d7:m=0)(d1:Room 400 A)(c1:RepF (V w j o u) [(p,AL w.params z B D Y E a4 a2 a1 a6 a5 a3 a (gy w.params G H K L M N P Q a7 a8 a9 b0 b1 b2 b3 b4 (gz w.params T X g2 g3 y a0 m c3 c4 b8 i c8)) b7),(l,A6 a e.length),(a,I (e ++ .ref d::x) t),(i,I s b6),(d,Aj S b c f h k n)] [] F v)(c0:∀q c2 (c9 d4 d5 d6 d3:Nat),CW w.params c2->RepF (V w j o u) [(p,AL w.params z B D Y E a4 a2 a1 a6 a5 a3 a (gy w.params G H K L M N P Q a7 a8 a9 b0 b1 b2 b3 b4 (gz w.params T X g2 g3 b c f d4 d5 d6 i c2)) c9),(l,A6 a (e.length+1)),(a,I (e ++ .ref d::x) t),(i,I s d3),(d,Aj S b c f h k n)] [] F q->codeAny (model pw w) A (Ee p l) R q):codeAny (model pw w) A (Ee p l) R v:=by
 have b9:=CQ O d1 (Ee p l) 269 0x4204214000014000014000004014018600618614618600618614618600618614618600618614618800104004100104104004104104004104104104124924100928a00a28a24a28a00a28a24a28a00a28a24a28a00a28a24a28c001040041001041 [(λr=>AX l a e (Value.ref d) x t,[1,2],[]),(λr=>CM (y+m) b (C r 6) h true,[],[]),(λr=>CM (a0+m) c (C r 7) k false,[],[]),(λr=>Bc m b8 false,[],[])] [0,1,2,3,4] (Mf (Av O) (B7 O (beq_iff_eq.mpr d0)) (B7 O (beq_eq_false_iff_ne.mpr e4)) (Ay O (by rw[d7]; rfl)))
 cases d2 with
 |s0=>
  exact b9.1 (λg=>[(p,AL w.params z B D Y E a4 a2 a1 a6 a5 a3 a (gy w.params G H K L M N P Q a7 a8 a9 b0 b1 b2 b3 b4 (gz w.params T X g2 g3 b c f h k n i (ga w.params (g 3) (g 4) (g 5) b c f h k n))) ((((b7+1)+1)+1))),(l,A6 a (e.length+1)),(a,I (e ++ .ref d::x) t),(i,I s b6),(d,Aj S b c f h k n)]) c1 λg q b5=>c0 q _ _ _ _ _ _ (CW.s1 _ _ _ _ _ _ _ _ _) b5
 |s1 c5 c6 c7 d9 e0 e1 e2 t5 e3=>
  exact b9.1 (λg=>[(p,AL w.params z B D Y E a4 a2 a1 a6 a5 a3 a (gy w.params G H K L M N P Q a7 a8 a9 b0 b1 b2 b3 b4 (gz w.params T X g2 g3 b c f h k n i (ga w.params c5 c6 c7 b c f h k n))) (b7)),(l,A6 a (e.length+1)),(a,I (e ++ .ref d::x) t),(i,I s b6),(d,Aj S b c f h k n)]) c1 λg q b5=>c0 q _ _ _ _ _ _ (CW.s1 _ _ _ _ _ _ _ _ _) b5
end
end
section
noncomputable def Co(G:B3×List B3)(b:B3):B3×List B3:=
 if G.1.1+G.1.2.2=b.1/\G.1.2.1+G.1.2.2=b.2.1 then((G.1.1,G.1.2.1,G.1.2.2+b.2.2),G.2) else(b,if G.1.2.2≠0 then G.2++[G.1] else G.2)
noncomputable def CA(G:B3×List B3)(X:List B3):B3×List B3:=X.foldl Co G
noncomputable abbrev DC:=Nat×B3×Nat×Nat×Nat
noncomputable def Ah(a:List DC):List Value:=a.map λr=>Value.ref r.1
noncomputable def nP(a:List DC):An:=a.map λr=>(r.1,Aa [.int r.2.1.1 r.2.2.1,.int r.2.1.2.1 r.2.2.2.1,.int r.2.1.2.2 r.2.2.2.2])
noncomputable def EQ:List B3->List Nat->List DC
 |[],_=>[]
 |b::e,X=>(X.headD 0,b,X.tail.headD 0,X.tail.tail.headD 0,X.tail.tail.tail.headD 0)::EQ e X.tail.tail.tail.tail
noncomputable def J9:List DC->List Nat
 |[]=>[]
 |r::d3=>r.1::r.2.2.1::r.2.2.2.1::r.2.2.2.2::J9 d3
theorem FZ:∀d3:List DC,EQ (d3.map (·.2.1)) (J9 d3)=d3
 |[]=>rfl
 |r::d3=>by
  show(r.1,r.2.1,r.2.2.1,r.2.2.2.1,r.2.2.2.2)::EQ (d3.map (·.2.1)) (J9 d3)=_
  rw[FZ d3]
noncomputable def AU(e:List B3)(e1:Nat):List DC:=EQ e (GG e1)
theorem NE(d3:List DC):∃e1,AU (d3.map (·.2.1)) e1=d3:=⟨Di (J9 d3),by unfold AU; rw[C6]; exact FZ d3⟩
theorem GT:∀(e:List B3) (X:List Nat),(EQ e X).map (·.2.1)=e
 |[],_=>rfl
 |b::e,X=>by
  show b::(EQ e X.tail.tail.tail.tail).map (·.2.1)=_
  rw[GT e]
theorem Fw(e:List B3)(e1:Nat):(AU e e1).map (·.2.1)=e:=GT _ _
theorem JM(a:List DC)(r:DC):Ah (a++[r])=Ah a++[.ref r.1]:=by simp[Ah]
theorem Eh(a:List DC):(Ah a).length=a.length:=by simp[Ah]
theorem PD(a:List DC)(r:DC):nP (a++[r])=nP a++nP [r]:=by simp[nP]
noncomputable def Ua(a0:Params):List Nat->List DictEntry
 |[f6,f7,f8,g5,g6,g7,h1,t5,h2]=>ga a0 f6 f7 f8 (B8 g5) (B8 g6) (B8 g7) h1 t5 h2
 |_=>[]
noncomputable def RS(a0:Params)(e1:Nat):List DictEntry:=Ua a0 (GG e1)
theorem Qh{a0:Params}{x:List DictEntry}(N:CW a0 x):∃e1,RS a0 e1=x:=by
 have:∃X,Ua a0 X=x:=by
  cases N with
  |s0=>exact⟨[],rfl⟩
  |s1 f6 f7 f8 g5 g6 g7 h1 t5 h2=>
   obtain⟨i1,rfl⟩:=B9 g5
   obtain⟨b,rfl⟩:=B9 g6
   obtain⟨f,rfl⟩:=B9 g7
   exact⟨[f6,f7,f8,i1,b,f,h1,t5,h2],rfl⟩
 obtain⟨X,T⟩:=this
 exact⟨Di X,by unfold RS; rw[C6]; exact T⟩
section
variable{z n a1 a2 y Y a3 b9:Nat}{b7 b6:Int}{c4 c3 b8 c:Nat}{a4 a5 a6 a7 a8 a9 b0 b1:Nat}{c5 c6 c7 c8 c9 d0 d1 d2:Value}{b3 b4 g2 g3:Nat}{i t:Nat}
include O
theorem Sx{x:List Value}{f2:An}(d5:Room 400 A)(d8:RepF (V w j o u) ([(n,A6 c x.length),(c,I x t)]++f2) [] F v)(e4:∀k,RepF (V w j o u) ([(n,B1 x.length),(c,I x t)]++f2) [] F k->R (.ok .next) k):codeAny (model pw w) A (Ee z n) R v:=by
 have d8:=RepF.out d8 (List.Perm.refl _)
 exact Ck O d5 _ 60 0x10410c0 [(λX=>Cm n c x t,[0,1],[])] [0,1] (Bo (Bw O)) (λ_=>[(n,B1 x.length),(c,I x t)]) d8
  λj0 k s=>e4 k (RepF.into s)
theorem JB:∀(l h:List BX) {f:B3} {a:List DC} {H K L T d4:Nat} {x:List DictEntry},CW w.params x->a.length+l.length<1000->∀{A:Around},Room 400 A->∀{F:AK} {v:Shared} {R:RP},
  RepF (V w j o u) ([(z,AL w.params a1 a2 y Y a3 b9 b7 b6 c4 c3 b8 c (gy w.params a4 a5 a6 a7 a8 a9 b0 b1 c5 c6 c7 c8 c9 d0 d1 d2 (gz w.params b3 b4 g2 g3 f.1 f.2.1 f.2.2 H K L i x)) T),(n,A6 c (A4 h).length),(c,I (A4 h++A4 l) t),(i,I (Ah a) d4)]++(mP l++nP a)) [] F v ->
  (∀k (i6 i7 i8 D E:Nat) M (e7:List DC) (g:B3),(g,e7.map (·.2.1))=CA (f,a.map (·.2.1)) (l.map (·.2.2.1))->CW w.params M ->
   RepF (V w j o u) ([(z,AL w.params a1 a2 y Y a3 b9 b7 b6 c4 c3 b8 c (gy w.params a4 a5 a6 a7 a8 a9 b0 b1 c5 c6 c7 c8 c9 d0 d1 d2 (gz w.params b3 b4 g2 g3 g.1 g.2.1 g.2.2 i6 i7 i8 i M)) D),(n,B1 (A4 (h++l)).length),(c,I (A4 (h++l)) t),(i,I (Ah e7) E)]++nP e7) [] F k->R (.ok .next) k) ->
  codeAny (model pw w) A (Ee z n) R v:=by
 intro j4
 induction j4 with
 |nil=>
  intro h f a H K L T d4 x e5 h9 A d5 F v R d8 e4
  have i2:A4 h++A4 []=A4 h:=List.append_nil _
  rw[i2] at d8
  refine Sx O d5 (F:=F) (x:=A4 h) (c:=c) (t:=t) (f2:=[(z,AL w.params a1 a2 y Y a3 b9 b7 b6 c4 c3 b8 c (gy w.params a4 a5 a6 a7 a8 a9 b0 b1 c5 c6 c7 c8 c9 d0 d1 d2 (gz w.params b3 b4 g2 g3 f.1 f.2.1 f.2.2 H K L i x)) T),(i,I (Ah a) d4)]++nP a) ?_ λk s=>e4 k H K L T d4 x a f rfl e5 ?_
  ·exact RepF.ord [1,1] d8 rfl
  ·rw[List.append_nil]
   exact RepF.ord [2,0,0,0] s rfl
 |cons r l j3=>
  intro h f a H K L T d4 x e5 h9 A d5 F v R d8 e4
  have j2:sizeLine=16777216:=sizeLine_eq
  simp only[List.length_cons] at h9
  have f0:(Ah a).length<=sizeLine:=by rw[Eh]; lia
  obtain⟨B,b2,⟨p,q,m⟩,c0,c1,c2⟩:=r
  have g0:RepF (V w j o u) ([(z,AL w.params a1 a2 y Y a3 b9 b7 b6 c4 c3 b8 c (gy w.params a4 a5 a6 a7 a8 a9 b0 b1 c5 c6 c7 c8 c9 d0 d1 d2 (gz w.params b3 b4 g2 g3 f.1 f.2.1 f.2.2 H K L i x)) T),(n,A6 c (A4 h).length),(c,I (A4 h ++ .ref B::A4 l) t),(i,I (Ah a) d4),(B,Aj b2 p q m c0 c1 c2)]++(mP l++nP a)) [] F v:=d8
  have d7:=RepF.out g0 (List.Perm.refl _)
  have h7:A4 h ++ .ref B::A4 l=A4 (h++[(B,b2,(p,q,m),c0,c1,c2)])++A4 l:=by simp[A4]
  have h6:((A4 h).length:Int)+1=((A4 (h++[(B,b2,(p,q,m),c0,c1,c2)])).length:Int):=by simp[A4]
  have h5:h++[(B,b2,(p,q,m),c0,c1,c2)]++l=h++(B,b2,(p,q,m),c0,c1,c2)::l:=by simp
  have f9:∀{k:Shared} {g:B3} {M:List DictEntry} {D P Q S E:Nat},CW w.params M->Co (f,a.map (·.2.1)) (p,q,m)=(g,a.map (·.2.1)) ->
    RepF (V w j o u) [(z,AL w.params a1 a2 y Y a3 b9 b7 b6 c4 c3 b8 c (gy w.params a4 a5 a6 a7 a8 a9 b0 b1 c5 c6 c7 c8 c9 d0 d1 d2 (gz w.params b3 b4 g2 g3 g.1 g.2.1 g.2.2 P Q S i M)) D),(n,A6 c ((A4 h).length+1)),(c,I (A4 h ++ .ref B::A4 l) t),(i,I (Ah a) E),(B,Aj b2 p q m c0 c1 c2)] [] (mP l++nP a++F.1,F.2) k->codeAny (model pw w) A (Ee z n) R k:=λ{k g M D P Q S E} b5 g4 s=>by
   have f1:=RepF.into s
   rw[h6,h7] at f1
   refine j3 (h++[(B,b2,(p,q,m),c0,c1,c2)]) (f:=g) (a:=a) (H:=P) (K:=Q) (L:=S) (T:=D) (d4:=E) b5 (by exact Nat.le_of_lt ‹_›) d5 (F:=F) ?_ λh0 f3 f4 f5 e8 g8 Cs g9 y d7 g1 e9=>e4 h0 f3 f4 f5 e8 g8 Cs g9 y ?_ g1 ?_
   ·have h3:=RepF.ord [0,0,0,0] f1 rfl
    refine RepF.sub h3 ?_
    exact List.Sublist.append_left (List.sublist_cons_self _ _) [_,_,_,_]
   ·rw[d7,<-g4]; rfl
   ·rw[h5] at e9; exact e9
  have h8:∀{k:Shared} {g:B3} {M:List DictEntry} {D P Q S E d9:Nat},CW w.params M->Co (f,a.map (·.2.1)) (p,q,m)=(g,a.map (·.2.1)++[f]) ->
    RepF (V w j o u) [(z,AL w.params a1 a2 y Y a3 b9 b7 b6 c4 c3 b8 c (gy w.params a4 a5 a6 a7 a8 a9 b0 b1 c5 c6 c7 c8 c9 d0 d1 d2 (gz w.params b3 b4 g2 g3 g.1 g.2.1 g.2.2 P Q S i M)) D),(n,A6 c ((A4 h).length+1)),(c,I (A4 h ++ .ref B::A4 l) t),(i,I (Ah a++[.ref d9]) E),(B,Aj b2 p q m c0 c1 c2),(d9,Aa [.int f.1 H,.int f.2.1 K,.int f.2.2 L])] [] (mP l++nP a++F.1,F.2) k->codeAny (model pw w) A (Ee z n) R k:=λ{k g M D P Q S E d9} b5 g4 s=>by
   have f1:=RepF.into s
   rw[h6,h7] at f1
   refine j3 (h++[(B,b2,(p,q,m),c0,c1,c2)]) (f:=g) (a:=a++[(d9,f,H,K,L)]) (H:=P) (K:=Q) (L:=S) (T:=D) (d4:=E) b5 (by simp; lia) d5 (F:=F) ?_ λh0 f3 f4 f5 e8 g8 Cs g9 y d7 g1 e9=>e4 h0 f3 f4 f5 e8 g8 Cs g9 y ?_ g1 ?_
   ·rw[JM,PD]
    have h3:RepF (V w j o u) ([(z,AL w.params a1 a2 y Y a3 b9 b7 b6 c4 c3 b8 c (gy w.params a4 a5 a6 a7 a8 a9 b0 b1 c5 c6 c7 c8 c9 d0 d1 d2 (gz w.params b3 b4 g2 g3 g.1 g.2.1 g.2.2 P Q S i M)) D),(n,A6 c ((A4 (h++[(B,b2,(p,q,m),c0,c1,c2)])).length)),(c,I (A4 (h++[(B,b2,(p,q,m),c0,c1,c2)])++A4 l) t),(i,I (Ah a++[.ref d9]) E)]++(mP l++(nP a++nP [(d9,f,H,K,L)]))++[(B,Aj b2 p q m c0 c1 c2)]) [] F k:=
     RepF.segs [[(z,AL w.params a1 a2 y Y a3 b9 b7 b6 c4 c3 b8 c (gy w.params a4 a5 a6 a7 a8 a9 b0 b1 c5 c6 c7 c8 c9 d0 d1 d2 (gz w.params b3 b4 g2 g3 g.1 g.2.1 g.2.2 P Q S i M)) D),(n,A6 c ((A4 (h++[(B,b2,(p,q,m),c0,c1,c2)])).length)),(c,I (A4 (h++[(B,b2,(p,q,m),c0,c1,c2)])++A4 l) t),(i,I (Ah a++[.ref d9]) E)],[(B,Aj b2 p q m c0 c1 c2)],nP [(d9,f,H,K,L)],mP l,nP a] [0,2,2,1,0] f1 rfl (by simp[nP]) (by simp)
    exact RepF.keep _ h3
   ·rw[d7,List.map_append]
    show CA (g,a.map (·.2.1)++[f]) _=_
    rw[<-g4]; rfl
   ·rw[h5] at e9; exact e9
  by_cases e3:f.1+f.2.2=p
  ·by_cases e6:f.2.1+f.2.2=q
   ·refine TN O e5 f0 e3 e6 d5 d7 λk M D P Q S E b5 s=>f9 (g:=(f.1,f.2.1,f.2.2+m)) b5 ?_ s
    exact if_pos ⟨e3,e6⟩
   ·by_cases e0:f.2.2=0
    ·refine S5 O e5 f0 e3 e6 e0 d5 d7 λk M D P Q S E b5 s=>f9 (g:=(p,q,m)) b5 ?_ s
     exact(if_neg λN=>e6 N.2).trans (by rw[if_neg (λN=>N e0)])
    ·refine SF O e5 f0 e3 e6 e0 d5 d7 λk M D P Q S d9 E b5 s=>h8 (g:=(p,q,m)) b5 ?_ s
     exact(if_neg λN=>e6 N.2).trans (by rw[if_pos e0])
  ·by_cases e0:f.2.2=0
   ·refine SZ O e5 f0 e3 e0 d5 d7 λk M D P Q S E b5 s=>f9 (g:=(p,q,m)) b5 ?_ s
    exact(if_neg λN=>e3 N.1).trans (by rw[if_neg (λN=>N e0)])
   ·refine Um O e5 f0 e3 e0 d5 d7 λk M D P Q S d9 E b5 s=>h8 (g:=(p,q,m)) b5 ?_ s
    exact(if_neg λN=>e3 N.1).trans (by rw[if_pos e0])
end
noncomputable def S6(a0:Params)(z n a1 a2 y Y a3 b9:Nat)(b7 b6:Int)(c4 c3 b8 c T:Nat)(a4 a5 a6 a7 a8 a9 b0 b1:Nat)(c5 c6 c7 c8 c9 d0 d1 d2:Value)(b3 b4 g2 g3:Nat)(H K L i d4 t d6:Nat)(e:List B3):Spec:=
 {code:=Ee z n,nf:=7,d:=400,pool:=true,pre:=mP (A8 e d6),post:=λe2=>nP (AU (CA ((0,0,0),[]) e).2 (W 0 e2 6)),res:=λ_=>.ok .next,
  fp:=[(z,AL a0 a1 a2 y Y a3 b9 b7 b6 c4 c3 b8 c (gy a0 a4 a5 a6 a7 a8 a9 b0 b1 c5 c6 c7 c8 c9 d0 d1 d2 (gz a0 b3 b4 g2 g3 0 0 0 H K L i [])) T),(n,A6 c 0),(c,I (A4 (A8 e d6)) t),(i,I [] d4)],
  upd:=λe2=>[AL a0 a1 a2 y Y a3 b9 b7 b6 c4 c3 b8 c (gy a0 a4 a5 a6 a7 a8 a9 b0 b1 c5 c6 c7 c8 c9 d0 d1 d2 (gz a0 b3 b4 g2 g3 (CA ((0,0,0),[]) e).1.1 (CA ((0,0,0),[]) e).1.2.1 (CA ((0,0,0),[]) e).1.2.2 (W 0 e2 0) (W 0 e2 1) (W 0 e2 2) i (RS a0 (W 0 e2 3)))) (W 0 e2 4),B1 (e.length:Nat),I (A4 (A8 e d6)) t,I (Ah (AU (CA ((0,0,0),[]) e).2 (W 0 e2 6))) (W 0 e2 5)]}
section
variable{z n a1 a2 y Y a3 b9:Nat}{b7 b6:Int}{c4 c3 b8 c T:Nat}{a4 a5 a6 a7 a8 a9 b0 b1:Nat}{c5 c6 c7 c8 c9 d0 d1 d2:Value}{b3 b4 g2 g3:Nat}{H K L i d4 t d6:Nat}{e:List B3}
include O
theorem MA(j1:e.length<64):(S6 w.params z n a1 a2 y Y a3 b9 b7 b6 c4 c3 b8 c T a4 a5 a6 a7 a8 a9 b0 b1 c5 c6 c7 c8 c9 d0 d1 d2 b3 b4 g2 g3 H K L i d4 t d6 e).Ok (V w j o u):=Spec.of_code (λ_=>rfl) (λ_=>rfl) λA d5 F G R d8 e4=>by
 have i0:=Fu e d6
 have m:RepF (V w j o u) ([(z,AL w.params a1 a2 y Y a3 b9 b7 b6 c4 c3 b8 c (gy w.params a4 a5 a6 a7 a8 a9 b0 b1 c5 c6 c7 c8 c9 d0 d1 d2 (gz w.params b3 b4 g2 g3 0 0 0 H K L i [])) T),(n,A6 c 0),(c,I (A4 (A8 e d6)) t),(i,I [] d4)]++mP (A8 e d6)) [] F G:=d8
 have i9:RepF (V w j o u) ([(z,AL w.params a1 a2 y Y a3 b9 b7 b6 c4 c3 b8 c (gy w.params a4 a5 a6 a7 a8 a9 b0 b1 c5 c6 c7 c8 c9 d0 d1 d2 (gz w.params b3 b4 g2 g3 ((0,0,0):B3).1 ((0,0,0):B3).2.1 ((0,0,0):B3).2.2 H K L i [])) T),(n,A6 c (A4 []).length),(c,I (A4 []++A4 (A8 e d6)) t),(i,I (Ah []) d4)]++(mP (A8 e d6)++nP [])) [] F G:=by
  show RepF (V w j o u) (_++(mP (A8 e d6)++[])) [] F G
  rw[List.append_nil]
  exact m
 refine JB O (A8 e d6) [] .s0 (by simp[i0]; lia) d5 i9 λk P Q S D E M e7 g N b5 s=>?_
 ·rw[Em] at N
  obtain⟨i4,h4⟩:=NE e7
  obtain⟨i5,e8⟩:=Qh b5
  have g0:g=(CA ((0,0,0),[]) e).1:=congrArg Prod.fst N
  have d7:e7.map (·.2.1)=(CA ((0,0,0),[]) e).2:=congrArg Prod.snd N
  rw[d7] at h4
  refine e4 [P,Q,S,i5,D,E,i4] k rfl ?_
  rw[<-h4,<-e8,g0] at s
  have i3:(A4 ([]++A8 e d6)).length=e.length:=by rw[List.nil_append,D5,i0]
  rw[i3] at s
  exact s
end
end
section
theorem HZ:Slot "map" "__iter__" "map.__iter__":=
 .of (owner:= "map") (n:= "__iter__") (by rw[typeLookup_type,builtinLookup_eq_fast]; kernel_rfl) (by decide +kernel) (by decide +kernel) (by decide +kernel)
  (by first |exact .inl (by decide +kernel) |exact .inr (by decide +kernel)) (by rw[isSubtype_type]; kernel_rfl)
theorem Dw:Slot "map" "__next__" "map.__next__":=
 .of (owner:= "map") (n:= "__next__") (by rw[typeLookup_type,builtinLookup_eq_fast]; kernel_rfl) (by decide +kernel) (by decide +kernel) (by decide +kernel)
  (by first |exact .inl (by decide +kernel) |exact .inr (by decide +kernel)) (by rw[isSubtype_type]; kernel_rfl)
theorem H6:entryFor table "map.__iter__" = some Builtin.«dict_keyiterator.__iter__»:=
 entryFor_alias (id':= "dict_keyiterator.__iter__") (by kernel_rfl) (by first |rfl |decide +kernel |(unfold String.splitOn; simp +decide [String.splitOnAux])) (by decide +kernel) (by kernel_rfl)
theorem Il(a3:Value):argsOk "map.__iter__" ⟨[a3],[]⟩:=by unfold argsOk; kernel_rfl
structure Ld(g:String):Prop where
 n1:(Value.type g==Value.type "list")=false
 n2:(Value.type g==Value.type "tuple")=false
 noLen:typeLookup (.type g) "__len__" = pure none
 noHint:typeLookup (.type g) "__length_hint__" = pure none
 next:∃id,Slot g "__next__" id
 iter:∃id,Slot g "__iter__" id/\entryFor table id=some Builtin.«dict_keyiterator.__iter__» /\ ∀a3,argsOk id ⟨[a3],[]⟩
noncomputable def CI(h c:Nat):Code:=.builtin "list.extend.loop" ⟨[.ref h,.ref c,.none],[]⟩
theorem IL:Ld "map":=⟨by decide,by decide,by rw[typeLookup_type,builtinLookup_eq_fast]; kernel_rfl,by rw[typeLookup_type,builtinLookup_eq_fast]; kernel_rfl,
 ⟨_,Dw⟩,⟨_,HZ,H6,Il⟩⟩
theorem Spec.call_ofE{f:Cx}{S:Spec}(a4:S.Ok f){s:Value}{b1:List Value}(y:S.code = .call s ⟨b1,[]⟩)(L:Room S.d A){d:Shared}{G B:VP}(x:RepF f (S.fp++S.ins) S.gfp F d)(z:∀a e,a.length=S.nf->RepF f (Am S.fp (S.upd a)++S.new a++S.outs a) (Am S.gfp (S.gupd a)++S.gnew a) F e->match S.res a with |.ok (.ret q)=>G q e |.ok _=>False |.error r=>B r e) :
  wpAny (model pw f.w) A (call s b1) G B d:=by
 have X:=a4.run A L F d (λq e=>match q with |.ok (.ret q)=>G q e |.ok _=>False |.error r=>B r e) x (λa e N H=>z a e N H) false []
 intro Γ c7 a4Γ
 have b4:=X Γ c7 a4Γ
 rw[call,Sem.wp_runValue]
 rw[y] at b4
 refine wpCode_mono (λq e a8=>?_) b4
 cases q with
 |error r=>exact a8
 |ok s=>cases s <;> first |exact a8 |exact a8.elim
section
variable{f:Cx}(E:f.Ok)
include E
theorem FE{g:String}(D:Ld g){c:Nat}{p:Obj}(y:p.cls = .type g){a2:An}{a1:Gs}{d:Shared}{G B:VP}(x:RepF f ((c,p)::a2) a1 F d)(z:∀h l e,RepF f ((h,I [] l)::(c,p)::a2) a1 F e->codeAny (model pw f.w) A.in1 (CI h c) (wants (λq c8=>q = .none/\G (.ref h) c8) B) e):wpAny (model pw f.w) A (call (.type "list") [.ref c]) G B d:=by
 refine callType_codes (Q₁:=λb0 b2=>b0 = .ref d.heap.objs.size/\b2={d with heap:=d.heap.push (I [] 0)}) PySem.F.called_list (PySem.F.typeCall_list_1 _) PySem.F.entry_list_init
  (code_list_new _ ⟨rfl,rfl⟩) λb0 b2 c4=>?_
 obtain⟨rfl,rfl⟩:=c4
 have c0:c<d.heap.objs.size:=Heap.lt_size (RepF.get0 x)
 have c9:=RepF.push x (o:=I [] 0) rfl
 have a0:RepF f ((d.heap.objs.size,I [] 0)::(c,p)::a2) a1 F {d with heap:=d.heap.push (I [] 0)}:=RepF.perm c9 (List.perm_append_comm (l₁:=[_]) (l₂:=_))
 generalize d.heap.objs.size=S at a0 c0
 have c1:S≠c:=by lia
 have t:=RepF.get0 a0
 refine⟨⟨_,t,rfl⟩,PySem.F.args_list_init_2 _ _,?_⟩
 generalize ({d with heap:=d.heap.push (I [] 0)}:Shared)=s0 at a0 t
 show wpAny _ A.in1.in1 (do let c6 <-Builtin.List.listItems (.ref S); Builtin.List.listUpdate (.ref S) (λ_=> #[]); letGo c6.toList.reverse; Builtin.List.listExtendWith (.ref S) (.ref c) .none) _ _ s0
 refine wpAny_bind (listItems_at t rfl ?_)
 refine wpAny_bind (listUpdate_at t rfl ?_ (Nat.zero_le _) (Nat.zero_le _))
 refine wpAny_bind (wpAny_letGo ?_)
 have Q:=RepF.upd0 E a0 (x:=Obj.mapSeq λ_=>(#[]:Array Value)) rfl
 rw[show Obj.mapSeq (λ_=>(#[]:Array Value)) (I [] 0)=I [] 0 from rfl] at Q
 generalize ({s0 with heap:=s0.heap.update S (Obj.mapSeq λ_=>(#[]:Array Value))}:Shared)=s2 at Q
 have m:s2.TypeIs (.ref c) g:=⟨_,RepF.get1 Q,y⟩
 unfold Builtin.List.listExtendWith
 refine wpAny_bind (wpAny_typeOf m ?_)
 have b8:Builtin.List.listSameRef (.ref S) (.ref c)=false:=by simp[Builtin.List.listSameRef,c1]
 simp only[b8,D.n1,D.n2,Bool.or_false,Bool.false_eq_true,if_false]
 obtain⟨id,K,b7,b6⟩:=D.iter
 refine wpAny_bind (wpAny_pyIter_slot m K (wpAny_call_entry K m b7 ?_ (b6 _)))
 show wpAny _ _ (ret (.ref c)) _ _ s2
 obtain⟨d0,c5⟩:=D.next
 refine wpAny_pure ⟨_,rfl,g,_,m,c5.lookup,?_⟩
 refine wpAny_bind (wpAny_holding ?_)
 unfold Builtin.List.listLengthHint
 refine wpAny_bind (wpAny_specialOf m D.noLen ?_)
 show wpAny _ _ (specialOf (Value.ref c) (Str.ofString "__length_hint__")>>=_) _ _ _
 refine wpAny_bind (wpAny_specialOf m D.noHint ?_)
 refine wpAny_pure ?_
 show wpAny _ _ (rule "list.extend.makes-room" >>= λ_=>Builtin.List.listTouch (.ref S)>>=λ_=>again (CI S c)) _ _ _
 refine wpAny_bind (wpAny_rule ?_)
 refine wpAny_bind ?_
 show wpAny _ _ (updateSeq S (·.push .none)>>=λ_=>updateSeq S (·.pop)) _ _ _
 refine wpAny_bind (wpAny_updateSeq (RepF.get0 Q) rfl ?_)
 have a9:=RepF.upd0 E Q (x:=Obj.mapSeq (·.push Value.none)) rfl
 rw[Cu [] 0 _ [Value.none] rfl (by simp)] at a9
 refine wpAny_updateSeq (hz:=by decide) (RepF.get0 a9) rfl ?_
 have b5:=RepF.upd0 E a9 (x:=Obj.mapSeq (·.pop)) rfl
 rw[Cu [Value.none] 1 _ [] rfl (by simp)] at b5
 exact wpAny_pure ⟨plainId_quiet PySem.F.plain_extend_loop _,z S 2 _ b5⟩
theorem ND{g id:String}(K:Slot g "__next__" id){S:Spec}(t:S.Ok f){c h l:Nat}{p:Obj}{i:List Value}{P:List Nat->Value}(y:S.code = .call (.builtin id) ⟨[.ref c],[]⟩)(a6:∀a,S.res a = .ok (.ret (P a)))(L:Room S.d A.in1){d:Shared}(a5:(c,p)∈S.fp)(m:p.cls = .type g)(b9:i.length<sizeLine)(x:RepF f ((h,I i l)::(S.fp++S.ins)) S.gfp F d)(z:∀a e,a.length=S.nf->RepF f ((h,I (i++[P a]) (l+1))::(Am S.fp (S.upd a)++S.new a++S.outs a)) (Am S.gfp (S.gupd a)++S.gnew a) F e->codeAny (model pw f.w) A (CI h c) R e):codeAny (model pw f.w) A (CI h c) R d:=by
 refine codeAny_builtin PySem.F.entry_extend_loop ?_
 rw[Around.under_plainId PySem.F.plain_extend_loop _]
 show wpAny _ _ (pyNext (.ref c)>>=_) _ _ d
 refine wpAny_bind ?_
 unfold pyNext
 have M:RepF f (S.fp++S.ins) S.gfp ([(h,I i l)]++F.1,F.2) d:=RepF.out x (List.perm_append_comm (l₁:=[_]) (l₂:=_))
 have a7:d.TypeIs (.ref c) g:=⟨_,Rep.get M _ (List.mem_append_left _ (List.mem_append_left _ a5)),m⟩
 refine wpAny_bind (wpAny_attempt (wpAny_callSpecial?_slot a7 K (Spec.call_of t y L M λa e N H=>⟨_,a6 a,?_⟩)))
 refine wpAny_pure ?_
 have T:RepF f ((h,I i l)::(Am S.fp (S.upd a)++S.new a++S.outs a)) (Am S.gfp (S.gupd a)++S.gnew a) F e:=RepF.perm (RepF.into H) (List.perm_append_comm (l₁:=[_]) (l₂:=_))
 show wpAny _ _ (Builtin.List.listUpdate (.ref h) (·.push (P a))>>=λ_=>again (CI h c)) _ _ e
 refine wpAny_bind (listUpdate_at (RepF.get0 T) rfl ?_ (Nat.le_of_lt b9) (by simp; exact Nat.le_of_lt ‹_›))
 refine wpAny_pure ⟨plainId_quiet PySem.F.plain_extend_loop _,z a _ N ?_⟩
 have X:=RepF.upd0 E T (x:=Obj.mapSeq (·.push (P a))) rfl
 rw[Cu i l _ (i++[P a]) (by simp) (by simp)] at X
 exact X
omit E in
theorem OK{g id:String}(K:Slot g "__next__" id){S:Spec}(t:S.Ok f){c h l:Nat}{p:Obj}{i:List Value}{r b3:List Nat->Nat}(y:S.code = .call (.builtin id) ⟨[.ref c],[]⟩)(a6:∀a,S.res a = .error (.ref (r a)))(c2:∀a,(r a,Bp (b3 a))∈S.new a)(L:Room S.d A.in1){d:Shared}(a5:(c,p)∈S.fp)(m:p.cls = .type g)(x:RepF f ((h,I i l)::(S.fp++S.ins)) S.gfp F d)(z:∀a e,a.length=S.nf->RepF f ((h,I i l)::(Am S.fp (S.upd a)++S.new a++S.outs a)) (Am S.gfp (S.gupd a)++S.gnew a) F e->R (.ok (.ret .none)) e):codeAny (model pw f.w) A (CI h c) R d:=by
 refine codeAny_builtin PySem.F.entry_extend_loop ?_
 rw[Around.under_plainId PySem.F.plain_extend_loop _]
 show wpAny _ _ (pyNext (.ref c)>>=_) _ _ d
 refine wpAny_bind ?_
 unfold pyNext
 have M:RepF f (S.fp++S.ins) S.gfp ([(h,I i l)]++F.1,F.2) d:=RepF.out x (List.perm_append_comm (l₁:=[_]) (l₂:=_))
 have a7:d.TypeIs (.ref c) g:=⟨_,Rep.get M _ (List.mem_append_left _ (List.mem_append_left _ a5)),m⟩
 refine wpAny_bind (wpAny_attempt (wpAny_callSpecial?_slot a7 K ?_))
 refine Spec.call_ofE t y L M λa e N H=>?_
 rw[a6 a]
 have c3:e.heap.get? (r a)=some (Bp (b3 a)):=Rep.get H _ (List.mem_append_left _ (List.mem_append_left _ (List.mem_append_right _ (c2 a))))
 have T:RepF f ((h,I i l)::(Am S.fp (S.upd a)++S.new a++S.outs a)) (Am S.gfp (S.gupd a)++S.gnew a) F e:=RepF.perm (RepF.into H) (List.perm_append_comm (l₁:=[_]) (l₂:=_))
 refine wpAny_bind (wpAny_isInstance (T:= "StopIteration") (b:=true) ⟨_,c3,rfl⟩ isSubtype_stop ?_)
 exact wpAny_pure (wpAny_pure (z a e N T))
end
end
section
noncomputable def Cr(i g:Nat):Obj:=⟨.type "map",none,.fields ⟨[.ref i,.ref g]⟩,⟨[]⟩⟩
noncomputable def BW(a4 M:Nat):Obj:=⟨.type "method",none,.fields ⟨[.ref a4,.ref M]⟩,⟨[]⟩⟩
noncomputable def Oe(t i g h q y c:Nat)(a b:List Value)(k p f:Int)(l m n:Nat):Spec:=
 {code:=.call (.builtin "map.__next__") ⟨[.ref t],[]⟩,nf:=2,d:=150,fp:=[(t,Cr i g),(i,Aa [.ref h]),(g,BW 89 135),(h,A6 q a.length),(q,I (a ++ .ref c::b) y),(c,Aa [.int k l,.int p m,.int f n])],
  upd:=λ_=>[Cr i g,Aa [.ref h],BW 89 135,A6 q (a.length+1),I (a ++ .ref c::b) y,Aa [.int k l,.int p m,.int f n]],new:=λs=>[(W 0 s 0,Aj (W 0 s 1) k p f l m n)],res:=λs=>.ok (.ret (.ref (W 0 s 0)))}
noncomputable def Sc(t i g h q y:Nat)(D:List Value):Spec:=
 {code:=.call (.builtin "map.__next__") ⟨[.ref t],[]⟩,nf:=2,d:=150,fp:=[(t,Cr i g),(i,Aa [.ref h]),(g,BW 89 135),(h,A6 q D.length),(q,I D y)],
  upd:=λ_=>[Cr i g,Aa [.ref h],BW 89 135,B1 D.length,I D y],new:=λs=>[(W 0 s 1,Bp (W 0 s 0))],res:=λs=>.error (.ref (W 0 s 1))}
section
variable{t i g h q y:Nat}
include O
theorem Ns{c:Nat}{a b:List Value}{k p f:Int}{l m n:Nat}:(Oe t i g h q y c a b k p f l m n).Ok (V w j o u):=
 Spec.of_run O 200 (hd 0x410010840410030000071c01c70000071c00000000000000000000000012000071c000700a000000280281007) [(λz=>AX h q a (.ref c) b y,[3,4],[]),(λz=>Lu c (.int k l) [.int p m,.int f n],[5],[])] [0,1,2,3,4,5,9] [] (λE=>[E 7,E 6]) (λ_=>rfl) (λ_=>rfl) (λ_=>rfl)
  (BI (Av O) (IE O (show 2<sizeLine from by decide))) (by kernel_rfl)
theorem NC{D:List Value}:(Sc t i g h q y D).Ok (V w j o u):=
 Spec.of_run O 60 (hd 0x1040042101) [(λz=>Cm h q D y,[3,4],[])] [0,1,2,3,4,5] [] (λE=>[E 0,E 1]) (λ_=>rfl) (λ_=>rfl) (λ_=>rfl) (Bo (Bw O)) (by kernel_rfl)
theorem HF{z:Nat}:∀(b a:List DC) {x:List BX} {B:Nat},x.length+b.length<1000->∀{A:Around},Room 160 A->∀{F:AK} {v:Shared} {R:RP},
  RepF (V w j o u) ([(z,I (A4 x) B),(t,Cr i g),(i,Aa [.ref h]),(g,BW 89 135),(h,A6 q (Ah a).length),(q,I (Ah a++Ah b) y)]++(nP a++nP b++mP x)) [] F v ->
  (∀G a8 Q,Q.map (·.2.2.1)=x.map (·.2.2.1)++b.map (·.2.1) ->
   RepF (V w j o u) ([(z,I (A4 Q) a8),(t,Cr i g),(i,Aa [.ref h]),(g,BW 89 135),(h,B1 (Ah a++Ah b).length),(q,I (Ah a++Ah b) y)]++(nP a++nP b++mP Q)) [] F G->R (.ok (.ret .none)) G) ->
  codeAny (model pw w) A (CI z t) R v:=by
 intro b5
 induction b5 with
 |nil=>
  intro a x B S A H F v R L K
  have T:Ah a++Ah []=Ah a:=List.append_nil _
  rw[T] at L K
  have N:RepF (V w j o u) (((z,I (A4 x) B)::([(t,Cr i g),(i,Aa [.ref h]),(g,BW 89 135),(h,A6 q (Ah a).length),(q,I (Ah a) y)]++[]))++(nP a++nP []++mP x)) [] F v:=L
  refine OK Dw (NC O (D:=Ah a)) (r:=λs=>W 0 s 1) (b3:=λs=>W 0 s 0) rfl (λ_=>rfl) (λ_=>List.mem_singleton.mpr rfl) (H.under (c:=CI z t) rfl (by decide) |>.mono (show 150<=155 from by decide)) (.head _) rfl (RepF.out N (List.Perm.refl _)) λs G a7 P=>K G B x (by simp) ?_
  have f:=RepF.into P
  have b2:=RepF.ord [0,0,0,0,0,0] f rfl
  refine RepF.sub b2 ?_
  exact List.Sublist.append_left (List.sublist_cons_self _ _) [_,_,_,_,_,_]
 |cons b6 b r=>
  intro a x B S A H F v R L K
  have b4:sizeLine=16777216:=sizeLine_eq
  simp only[List.length_cons] at S
  obtain⟨c,⟨k,p,f⟩,l,m,n⟩:=b6
  have N:RepF (V w j o u) (((z,I (A4 x) B)::([(t,Cr i g),(i,Aa [.ref h]),(g,BW 89 135),(h,A6 q (Ah a).length),(q,I (Ah a ++ .ref c::Ah b) y),(c,Aa [.int k l,.int p m,.int f n])]++[]))++(nP a++nP b++mP x)) [] F v:=
   RepF.segs [[(z,I (A4 x) B),(t,Cr i g),(i,Aa [.ref h]),(g,BW 89 135),(h,A6 q (Ah a).length),(q,I (Ah a ++ .ref c::Ah b) y)],nP a,[(c,Aa [.int k l,.int p m,.int f n])],nP b,mP x] [0,1,0,0,0] L rfl (by simp[nP,Ah]) (by simp)
  refine ND O Dw (Ns O (c:=c) (a:=Ah a) (b:=Ah b) (k:=k) (p:=p) (f:=f) (l:=l) (m:=m) (n:=n)) (P:=λs=>.ref (W 0 s 0)) rfl (λ_=>rfl) (H.under (c:=CI z t) rfl (by decide) |>.mono (show 150<=155 from by decide)) (.head _) rfl (by rw[D5]; lia) (RepF.out N (List.Perm.refl _)) λs G a7 P=>?_
  have b3:=RepF.into P
  have a3:Ah a ++ .ref c::Ah b=Ah (a++[(c,(k,p,f),l,m,n)])++Ah b:=by simp[Ah]
  have a2:((Ah a).length:Int)+1=((Ah (a++[(c,(k,p,f),l,m,n)])).length:Int):=by simp[Ah]
  have X:nP (a++[(c,(k,p,f),l,m,n)])=nP a++[(c,Aa [.int k l,.int p m,.int f n])]:=by simp[nP]
  have a0:nP a++nP ((c,(k,p,f),l,m,n)::b)=nP (a++[(c,(k,p,f),l,m,n)])++nP b:=by simp[nP]
  have a1:Ah a++Ah ((c,(k,p,f),l,m,n)::b)=Ah (a++[(c,(k,p,f),l,m,n)])++Ah b:=by simp[Ah]
  refine r (a++[(c,(k,p,f),l,m,n)]) (x:=x++[(W 0 s 0,W 0 s 1,(k,p,f),l,m,n)]) (B:=B+1) (by simp; lia) H (F:=F) ?_ λb1 a9 b0 a5 a6=>K b1 a9 b0 ?_ ?_
  ·rw[BA,Kg,X,<-a2,<-a3]
   refine RepF.segs [[(z,I (A4 x++[.ref (W 0 s 0)]) (B+1)),(t,Cr i g),(i,Aa [.ref h]),(g,BW 89 135),(h,A6 q ((Ah a).length+1)),(q,I (Ah a ++ .ref c::Ah b) y)],[(c,Aa [.int k l,.int p m,.int f n])],mP [(W 0 s 0,W 0 s 1,(k,p,f),l,m,n)],nP a,nP b,mP x] [0,2,0,1,1,0] b3 rfl ?_ ?_
   ·simp[mP,Oe,Am,Spec.outs]
   ·simp
  ·rw[a5,List.map_append]; simp
  ·rw[a0,a1]; exact a6
end
end
section
noncomputable def Po(m l i k n s t e b:Nat)(a:List B3)(x y Y f g h:Int)(E G H p q r:Nat):Spec:=
 {code:=.call (.type "list") ⟨[.ref m],[]⟩,nf:=3,d:=180,pool:=true,pre:=nP (AU a b),post:=λB=>mP (A8 (a++[(x,y,Y)]++[(f,g,h)]) (W 0 B 0)),
  fp:=[(m,Cr l i),(l,Aa [.ref k]),(i,BW 89 135),(k,A6 n 0),(n,I (Ah (AU a b)++[.ref t]++[.ref e]) s),(t,Aa [.int x E,.int y G,.int Y H]),(e,Aa [.int f p,.int g q,.int h r])],
  upd:=λ_=>[Cr l i,Aa [.ref k],BW 89 135,B1 ((Ah (AU a b)++[Value.ref t]++[Value.ref e]).length:Nat),I (Ah (AU a b)++[.ref t]++[.ref e]) s,Aa [.int x E,.int y G,.int Y H],Aa [.int f p,.int g q,.int h r]],
  new:=λB=>[(W 0 B 2,I (A4 (A8 (a++[(x,y,Y)]++[(f,g,h)]) (W 0 B 0))) (W 0 B 1))],res:=λB=>.ok (.ret (.ref (W 0 B 2)))}
noncomputable def PP(m l i k n s e b:Nat)(a:List B3)(f g h:Int)(p q r:Nat):Spec:=
 {code:=.call (.type "list") ⟨[.ref m],[]⟩,nf:=3,d:=180,pool:=true,pre:=nP (AU a b),post:=λB=>mP (A8 (a++[(f,g,h)]) (W 0 B 0)),
  fp:=[(m,Cr l i),(l,Aa [.ref k]),(i,BW 89 135),(k,A6 n 0),(n,I (Ah (AU a b)++[.ref e]) s),(e,Aa [.int f p,.int g q,.int h r])],
  upd:=λ_=>[Cr l i,Aa [.ref k],BW 89 135,B1 ((Ah (AU a b)++[Value.ref e]).length:Nat),I (Ah (AU a b)++[.ref e]) s,Aa [.int f p,.int g q,.int h r]],
  new:=λB=>[(W 0 B 2,I (A4 (A8 (a++[(f,g,h)]) (W 0 B 0))) (W 0 B 1))],res:=λB=>.ok (.ret (.ref (W 0 B 2)))}
section
variable{m l i k n s t e b:Nat}{a:List B3}{x y Y f g h:Int}{E G H p q r:Nat}
include O
theorem DH(a:List B3)(a6:Nat):(AU a a6).length=a.length:=by
 have:=congrArg List.length (Fw a a6)
 simpa using this
theorem PA(a8:a.length<100):(Po m l i k n s t e b a x y Y f g h E G H p q r).Ok (V w j o u):=Spec.of_call rfl (λ_=>rfl) (λ_=>rfl) λA X M a9 a7 a2 a1=>by
 refine FE O IL (c:=m) (p:=Cr l i) rfl a2 λz K b0 a3=>?_
 have a0:Room 160 A.in1:=(X.under (c:=CI z m) rfl (show 5<=180 from by decide)).mono (show 160<=175 from by decide)
 have N:Ah []++Ah (AU a b++[(t,(x,y,Y),E,G,H)]++[(e,(f,g,h),p,q,r)])=Ah (AU a b)++[.ref t]++[.ref e]:=by simp[Ah]
 refine HF O (AU a b++[(t,(x,y,Y),E,G,H)]++[(e,(f,g,h),p,q,r)]) [] (x:=[]) (t:=m) (i:=l) (g:=i) (h:=k) (q:=n) (y:=s) (z:=z) (B:=K) (by simp[DH O]; lia) a0 (F:=M) ?_ λQ L a4 T P=>⟨rfl,?_⟩
 ·rw[N]
  refine RepF.segs [[(z,I [] K)],[(m,Cr l i),(l,Aa [.ref k]),(i,BW 89 135),(k,A6 n 0),(n,I (Ah (AU a b)++[.ref t]++[.ref e]) s)],[(t,Aa [.int x E,.int y G,.int Y H])],[(e,Aa [.int f p,.int g q,.int h r])],nP (AU a b)] [0,0,2,0,0] a3 rfl ?_ ?_
  ·simp[Po,Spec.ins]
  ·simp[nP,mP,A4,Ah]
 ·obtain⟨D,en⟩:=EZ a4
  rw[T] at en
  have S:([]:List BX).map (·.2.2.1)++(AU a b++[(t,(x,y,Y),E,G,H)]++[(e,(f,g,h),p,q,r)]).map (·.2.1)=a++[(x,y,Y)]++[(f,g,h)]:=by
   simp[Fw]
  rw[S] at en
  rw[N,<-en] at P
  refine a1 [D,L,z] Q _ rfl rfl ?_
  have a5:RepF (V w j o u) (([(m,Cr l i),(l,Aa [.ref k]),(i,BW 89 135),(k,B1 ((Ah (AU a b)++[Value.ref t]++[Value.ref e]).length:Nat)),(n,I (Ah (AU a b)++[.ref t]++[.ref e]) s),(t,Aa [.int x E,.int y G,.int Y H]),(e,Aa [.int f p,.int g q,.int h r])]++[(z,I (A4 (A8 (a++[(x,y,Y)]++[(f,g,h)]) D)) L)]++mP (A8 (a++[(x,y,Y)]++[(f,g,h)]) D))++nP (AU a b)) [] M Q:=
   RepF.segs [[(z,I (A4 (A8 (a++[(x,y,Y)]++[(f,g,h)]) D)) L)],[(m,Cr l i),(l,Aa [.ref k]),(i,BW 89 135),(k,B1 ((Ah (AU a b)++[Value.ref t]++[Value.ref e]).length:Nat)),(n,I (Ah (AU a b)++[.ref t]++[.ref e]) s)],nP (AU a b),[(t,Aa [.int x E,.int y G,.int Y H]),(e,Aa [.int f p,.int g q,.int h r])],mP (A8 (a++[(x,y,Y)]++[(f,g,h)]) D)] [1,2,0,1] P rfl (by simp[nP]) (by simp)
  exact RepF.keep _ a5
theorem Oi(a8:a.length<100):(PP m l i k n s e b a f g h p q r).Ok (V w j o u):=Spec.of_call rfl (λ_=>rfl) (λ_=>rfl) λA X M a9 a7 a2 a1=>by
 refine FE O IL (c:=m) (p:=Cr l i) rfl a2 λz K b0 a3=>?_
 have a0:Room 160 A.in1:=(X.under (c:=CI z m) rfl (show 5<=180 from by decide)).mono (show 160<=175 from by decide)
 have N:Ah []++Ah (AU a b++[(e,(f,g,h),p,q,r)])=Ah (AU a b)++[.ref e]:=by simp[Ah]
 refine HF O (AU a b++[(e,(f,g,h),p,q,r)]) [] (x:=[]) (t:=m) (i:=l) (g:=i) (h:=k) (q:=n) (y:=s) (z:=z) (B:=K) (by simp[DH O]; lia) a0 (F:=M) ?_ λQ L a4 T P=>⟨rfl,?_⟩
 ·rw[N]
  refine RepF.segs [[(z,I [] K)],[(m,Cr l i),(l,Aa [.ref k]),(i,BW 89 135),(k,A6 n 0),(n,I (Ah (AU a b)++[.ref e]) s)],[(e,Aa [.int f p,.int g q,.int h r])],nP (AU a b)] [0,0,1,0] a3 rfl ?_ ?_
  ·simp[PP,Spec.ins]
  ·simp[nP,mP,A4,Ah]
 ·obtain⟨D,en⟩:=EZ a4
  rw[T] at en
  have S:([]:List BX).map (·.2.2.1)++(AU a b++[(e,(f,g,h),p,q,r)]).map (·.2.1)=a++[(f,g,h)]:=by
   simp[Fw]
  rw[S] at en
  rw[N,<-en] at P
  refine a1 [D,L,z] Q _ rfl rfl ?_
  have a5:RepF (V w j o u) (([(m,Cr l i),(l,Aa [.ref k]),(i,BW 89 135),(k,B1 ((Ah (AU a b)++[Value.ref e]).length:Nat)),(n,I (Ah (AU a b)++[.ref e]) s),(e,Aa [.int f p,.int g q,.int h r])]++[(z,I (A4 (A8 (a++[(f,g,h)]) D)) L)]++mP (A8 (a++[(f,g,h)]) D))++nP (AU a b)) [] M Q:=
   RepF.segs [[(z,I (A4 (A8 (a++[(f,g,h)]) D)) L)],[(m,Cr l i),(l,Aa [.ref k]),(i,BW 89 135),(k,B1 ((Ah (AU a b)++[Value.ref e]).length:Nat)),(n,I (Ah (AU a b)++[.ref e]) s)],nP (AU a b),[(e,Aa [.int f p,.int g q,.int h r])],mP (A8 (a++[(f,g,h)]) D)] [1,2,0,1] P rfl (by simp[nP]) (by simp)
  exact RepF.keep _ a5
end
end
section
noncomputable abbrev Dg(c k:List (Str×Nat)):B3×List B3:=CA ((0,0,0),[]) (Bh (BK c k))
noncomputable def Dm(c k:List (Str×Nat)):List B3:=if(Dg c k).1.2.2≠0 then(Dg c k).2++[((Dg c k).1.1,(Dg c k).1.2.1,(Dg c k).1.2.2)]++[((((J c).length:Nat):Int),(((J k).length:Nat):Int),(0:Int))] else(Dg c k).2++[((((J c).length:Nat):Int),(((J k).length:Nat):Int),(0:Int))]
theorem Ht:∀(a:List B3) (q:B3×List B3),(CA q a).2.length<=q.2.length+a.length
 |[],q=>Nat.le_refl _
 |b::a,q=>by
  have a0:=Ht a (Co q b)
  have a7:(Co q b).2.length<=q.2.length+1:=by
   unfold Co
   split
   ·simp
   ·dsimp only; split <;> simp
  show(CA (Co q b) a).2.length<=q.2.length+(a.length+1)
  lia
noncomputable def UQ(t:Params)(l r f g h i n p x:Nat)(y:Nat->Nat)(N:Nat)(c:List (Str×Nat))(e:List Bt)(P:Value)(X:List B3):Spec:=
 {code:=.call (.ref 203) ⟨[.ref l],[]⟩,nf:=3,d:=500,pool:=true,pre:=bP 0 e,post:=λs=>mP (A8 X (W 0 s 0)),
  fp:=[(l,Ba r),(r,Bb t y f g n p x .none P),(f,I (J c) h),(g,I (J (U e)) i),(n,A5 (bE t e) N),(p,Ad t)],
  upd:=λs=>[Ba r,Bb t y f g n p x (.ref (W 0 s 2)) P,I (J c) h,I (J (U e)) i,A5 (bE t e) N,Ad t],
  new:=λs=>[(W 0 s 2,I (A4 (A8 X (W 0 s 0))) (W 0 s 1))],res:=λs=>.ok (.ret (.ref (W 0 s 2)))}
noncomputable def SE(t:Params)(l r f g h i n p x:Nat)(y:Nat->Nat)(N:Nat)(c:List (Str×Nat))(e:List Bt)(P:Value):Spec:=UQ t l r f g h i n p x y N c e P (Dm c (U e))
section
variable{l r f g h i n p x:Nat}{y:Nat->Nat}{N:Nat}{c:List (Str×Nat)}{e:List Bt}{P:Value}
include O
theorem PU(a5:((U e).map (·.1)).Nodup)(a3:c.length<=100)(a4:e.length<=100)(a2:((BK c (U e)).map (·.1)).Nodup)(T:(BK c (U e)).length<64):(SE w.params l r f g h i n p x y N c e P).Ok (V w j o u):=by
 have a8:sizeLine=16777216:=sizeLine_eq
 have a1:(Bh (BK c (U e))).length<64:=by rw[(CJ _).length_eq]; exact T
 have a6:=Ht (Bh (BK c (U e))) ((0,0,0),[])
 dsimp only[List.length_nil] at a6
 unfold SE
 by_cases Q:(Dg c (U e)).1.2.2=0
 ·have S:Dm c (U e)=(Dg c (U e)).2++[((((J c).length:Nat):Int),(((J (U e)).length:Nat):Int),(0:Int))]:=if_neg (λa0=>a0 Q)
  rw[S]
  exact Spec.of_run O 425 (hd 0x10000071c01c10000000400000410020001c100000004000004100204000704000000100000104008120820100824900924920924900924920924900924920924b0071c01c71c70071c01c704738e38e0401c70071c01c70071c738e0403900470473cf3cf1c70400000000000000000000000000070003cf0403d35550155411c10000000400400400000400020821c1000000040000041002) [(λa=>BU f (J c) h,[2],[]),(λa=>BU g (J (U e)) i,[3],[]),(λa=>Pj w.params (C a 0) (C a 1) (C a 12) (C a 13) (C a 18) (C a 20) l (C a 7) (C a 5) (C a 17) (C a 19) 5 (C a 16) 0 0 (C a 14) (C a 5) (C a 15) (C a 7) r f g h i n p x y N c e P,[6,12,11,13,0,1,2,3,4,5],[]),(λa=>Jz (C a 19) (C a 46) (BK c (U e)) ((C a 47)),[13],[]),(λa=>S6 w.params (C a 0) (C a 56) (C a 1) (C a 12) (C a 13) (C a 18) (C a 20) l (↑(J (U e)).length) (↑(J c).length) (C a 7) (C a 5) (C a 17) (C a 19) (C a 44).succ.succ.succ.succ (C a 21) (C a 22) (C a 23) (C a 24) (C a 25) (C a 26) (C a 27) (C a 28) (Value.int (B8 ((C a 29))) (C a 36)) (Value.int (B8 ((C a 30))) (C a 37)) (Value.int (B8 ((C a 31))) (C a 38)) (Value.int (B8 ((C a 32))) (C a 39)) (Value.int (B8 ((C a 33))) (C a 40)) (Value.int (B8 ((C a 34))) (C a 41)) (Value.int (B8 ((C a 35))) (C a 42)) (Value.ref (C a 43)) (C a 51) (C a 52) (C a 53) (C a 55) (C a 50) (C a 50) (C a 50) (C a 54) 0 (C a 49) ((C a 48)) (Bh (BK c (U e))),[6,15,13,14],[]),(λa=>Bc (CA ((0,0,0),[]) (Bh (BK c (U e)))).fst.snd.snd (C a 59) false,[],[]),(λa=>AJ (C a 54) (Ah (AU (CA ((0,0,0),[]) (Bh (BK c (U e)))).snd ((C a 63)))) (C a 62) (Value.ref (C a 65)),[14],[]),(λa=>PP (C a 70) (C a 69) (C a 67) (C a 68) (C a 54) (C a 62).succ (C a 65) ((C a 63)) (CA ((0,0,0),[]) (Bh (BK c (U e)))).snd (↑(J c).length) (↑(J (U e)).length) 0 (C a 5) (C a 7) (C a 64),[20,19,17,18,14,16],[])] [0,1,2,3,4,5,21] [] (λm=>[m 71,m 72,m 73]) (λ_=>rfl) (λ_=>rfl) (λ_=>rfl) (G7 (AS (by simp[J,U]; lia)) (AS (by simp[J,U]; lia)) (MH O a5 a3 a4) (Hw O a2 T) (MA O a1) (Ay O (by rw[Q]; rfl)) (Ag O (by simp[Eh,DH O]; lia)) (Oi O (by lia))) (by kernel_rfl)
 ·have S:Dm c (U e)=(Dg c (U e)).2++[((Dg c (U e)).1.1,(Dg c (U e)).1.2.1,(Dg c (U e)).1.2.2)]++[((((J c).length:Nat):Int),(((J (U e)).length:Nat):Int),(0:Int))]:=if_pos Q
  rw[S]
  exact Spec.of_run O 445 (hd 0x400001c70070400000010000010400800070400000010000010400810001c10000000400000410020482080402092402492482492402492482492402492482492c01c70071c71c01c70071c11ce38e3810071c01c70071c01c71ce38100e4011c11cf3cf3c71c70473cf3cf1c70400000000000000000000000000070003cf0403d45960165811c10000000400400400000400020821c1000000040000041002) [(λa=>BU f (J c) h,[2],[]),(λa=>BU g (J (U e)) i,[3],[]),(λa=>Pj w.params (C a 0) (C a 1) (C a 12) (C a 13) (C a 18) (C a 20) l (C a 7) (C a 5) (C a 17) (C a 19) 5 (C a 16) 0 0 (C a 14) (C a 5) (C a 15) (C a 7) r f g h i n p x y N c e P,[6,12,11,13,0,1,2,3,4,5],[]),(λa=>Jz (C a 19) (C a 46) (BK c (U e)) ((C a 47)),[13],[]),(λa=>S6 w.params (C a 0) (C a 56) (C a 1) (C a 12) (C a 13) (C a 18) (C a 20) l (↑(J (U e)).length) (↑(J c).length) (C a 7) (C a 5) (C a 17) (C a 19) (C a 44).succ.succ.succ.succ (C a 21) (C a 22) (C a 23) (C a 24) (C a 25) (C a 26) (C a 27) (C a 28) (Value.int (B8 ((C a 29))) (C a 36)) (Value.int (B8 ((C a 30))) (C a 37)) (Value.int (B8 ((C a 31))) (C a 38)) (Value.int (B8 ((C a 32))) (C a 39)) (Value.int (B8 ((C a 33))) (C a 40)) (Value.int (B8 ((C a 34))) (C a 41)) (Value.int (B8 ((C a 35))) (C a 42)) (Value.ref (C a 43)) (C a 51) (C a 52) (C a 53) (C a 55) (C a 50) (C a 50) (C a 50) (C a 54) 0 (C a 49) ((C a 48)) (Bh (BK c (U e))),[6,15,13,14],[]),(λa=>Bc (CA ((0,0,0),[]) (Bh (BK c (U e)))).fst.snd.snd (C a 59) true,[],[]),(λa=>AJ (C a 54) (Ah (AU (CA ((0,0,0),[]) (Bh (BK c (U e)))).snd ((C a 63)))) (C a 62) (Value.ref (C a 64)),[14],[]),(λa=>AJ (C a 54) (Ah (AU (CA ((0,0,0),[]) (Bh (BK c (U e)))).snd ((C a 63)))++[Value.ref (C a 64)]) (C a 62).succ (Value.ref (C a 66)),[14],[]),(λa=>Po (C a 71) (C a 70) (C a 68) (C a 69) (C a 54) (C a 62).succ.succ (C a 64) (C a 66) ((C a 63)) (CA ((0,0,0),[]) (Bh (BK c (U e)))).snd (CA ((0,0,0),[]) (Bh (BK c (U e)))).fst.fst (CA ((0,0,0),[]) (Bh (BK c (U e)))).fst.snd.fst (CA ((0,0,0),[]) (Bh (BK c (U e)))).fst.snd.snd (↑(J c).length) (↑(J (U e)).length) 0 (C a 57) (C a 58) (C a 59) (C a 5) (C a 7) (C a 65),[21,20,18,19,14,16,17],[])] [0,1,2,3,4,5,22] [] (λm=>[m 72,m 73,m 74]) (λ_=>rfl) (λ_=>rfl) (λ_=>rfl) (HY (AS (by simp[J,U]; lia)) (AS (by simp[J,U]; lia)) (MH O a5 a3 a4) (Hw O a2 T) (MA O a1) (Ay O (bne_iff_ne.mpr Q)) (Ag O (by simp[Eh,DH O]; omega)) (Ag O (by simp[Eh,DH O]; omega)) (PA O (by omega))) (by kernel_rfl)
end
end
section
noncomputable def RZ(b:Nat):Env:=Gq (AQ 5 8) 210 209 (S [83,101,113,117,101,110,99,101,77,97,116,99,104,101,114,46,103,101,116,95,111,112,99,111,100,101,115,46,60,108,111,99,97,108,115,62,46]) b
noncomputable def Tv(c:Nat):Stmt:=W B6 (B2 (AQ 5 8)) c
noncomputable def CT(b q:Nat):Code:=Ff (Tv 4) q (RZ b)
noncomputable def U4:Str:=S [97,110,115,119,101,114]
noncomputable def VK:Str:=S [97,105]
noncomputable def T8:Str:=S [98,106]
noncomputable def St:Str:=S [115,105,122,101]
noncomputable def Hs:Str:=S [116,97,103]
inductive Tg where
 |rep |del |ins |eql
noncomputable def AC:Tg->Str
 |.rep=>Oa
 |.del=>Pd
 |.ins=>OP
 |.eql=>S [101,113,117,97,108]
noncomputable def BR(a:Params)(g h i Y s:Nat)(c r:Int)(D E e:Nat)(H:List DictEntry)(p:Nat):Obj:=
 Bl (en a Fy g (.ref s)::en a nI h (.int c D)::en a nJ i (.int r E)::en a U4 Y (.ref e)::H) p
noncomputable def ox(a:Params)(k l m n:Nat)(d f t:Int)(x y z:Nat)(B:Str)(G:Nat):List DictEntry:=
 [en a VK k (.int d x),en a T8 l (.int f y),en a St m (.int t z),en a Hs n (.str B G)]
end
section
inductive Gx(d5:Params):List DictEntry->Prop
 |s0:Gx d5 []
 |s1 (a1 a2 a3 a4:Nat) (c1 c2 c3:Int) (c4 c5 c6:Nat) (c7:Str) (c8:Nat):Gx d5 (ox d5 a1 a2 a3 a4 c1 c2 c3 c4 c5 c6 c7 c8)
section
variable{n l D E G Y K:Nat}{s t:Int}{B M g N i x z:Nat}{k y r:List Value}{h H:Nat}{b d c:Int}{e f p:Nat}{a6:List DictEntry}
include O
theorem T4(b1:Gx w.params a6)(d4:r.length<sizeLine-5)(a0:s<b)(a8:t<d)(a9:c≠0)(b0:Room 400 A)(T:RepF (V w j o u) [(n,BR w.params D E G Y K s t B M g a6 N),(l,A6 i k.length),(i,I (k ++ .ref h::y) x),(g,I r z),(h,Aj H b d c e f p)] [] F v)(Q:∀q X (a7 b3 b4 b2 a5 b5 b6 b7 b8 b9 c0 c9 d0 d1 d2 d3:Nat),Gx w.params X->RepF (V w j o u) [(n,BR w.params D E G Y K (b+c) (d+c) b3 b4 g X a7),(l,A6 i (k.length+1)),(i,I (k ++ .ref h::y) x),(g,I (r++[.ref a5]++[.ref c0]) b2),(h,Aj H b d c e f p),(a5,Aa [.str (AC .rep) b5,.int s b6,.int b b7,.int t b8,.int d b9]),(c0,Aa [.str (AC .eql) c9,.int b d0,.int (b+c) d1,.int d d2,.int (d+c) d3])] [] F q->codeAny (model pw w) A (CT n l) R q):codeAny (model pw w) A (CT n l) R v:=by
 have P:=CQ O b0 (CT n l) 328 0x4204214000014000014000004014018600618614618600618614618600618614618600618614618800104004100104004104104104104100104100004410410104104104104004100a28a04028b2c02cb2ca2cb2c02cb2ca2cb2c02cb2ca2cb340041001041041104104041041041 [(λm=>AX l i k (Value.ref h) y x,[1,2],[]),(λm=>AT s b B e true,[],[]),(λm=>AT t d M f true,[],[]),(λm=>AJ g r z (Value.ref (C m 12)),[3],[]),(λm=>Bc c p true,[],[]),(λm=>AJ g (r++[Value.ref (C m 12)]) z.succ (Value.ref (C m 22)),[3],[])] [0,1,2,3,4,8,13] (FW (Av O) (A9 O (decide_eq_true a0)) (A9 O (decide_eq_true a8)) (Ag O (by first |omega |(simp; omega))) (Ay O (bne_iff_ne.mpr a9)) (Ag O (by first |omega |(simp; omega))))
 cases b1 with
 |s0=>
  exact P.1 (λa=>[(n,BR w.params D E G Y K (b+c) (d+c) (a 13) (a 14) g (ox w.params (a 3) (a 4) (a 5) (a 7) b d c e f p Oa (a 8)) (((((N+1)+1)+1)+1))),(l,A6 i (k.length+1)),(i,I (k ++ .ref h::y) x),(g,I (r++[.ref (a 12)]++[.ref (a 22)]) (z+1+1)),(h,Aj H b d c e f p),(a 12,Aa [.str (AC .rep) (a 8),.int s B,.int b e,.int t M,.int d f]),(a 22,Aa [.str (AC .eql) (a 21),.int b e,.int (b+c) (a 13),.int d f,.int (d+c) (a 14)])]) T λa q L=>Q q _ _ _ _ _ _ _ _ _ _ _ _ _ _ _ _ _ (Gx.s1 _ _ _ _ _ _ _ _ _ _ _ _) L
 |s1 a1 a2 a3 a4 c1 c2 c3 c4 c5 c6 c7 c8=>
  exact P.1 (λa=>[(n,BR w.params D E G Y K (b+c) (d+c) (a 13) (a 14) g (ox w.params a1 a2 a3 a4 b d c e f p Oa (a 8)) (N)),(l,A6 i (k.length+1)),(i,I (k ++ .ref h::y) x),(g,I (r++[.ref (a 12)]++[.ref (a 22)]) (z+1+1)),(h,Aj H b d c e f p),(a 12,Aa [.str (AC .rep) (a 8),.int s B,.int b e,.int t M,.int d f]),(a 22,Aa [.str (AC .eql) (a 21),.int b e,.int (b+c) (a 13),.int d f,.int (d+c) (a 14)])]) T λa q L=>Q q _ _ _ _ _ _ _ _ _ _ _ _ _ _ _ _ _ (Gx.s1 _ _ _ _ _ _ _ _ _ _ _ _) L
theorem V7(b1:Gx w.params a6)(d4:r.length<sizeLine-5)(a0:s<b)(a8:t<d)(a9:c=0)(b0:Room 400 A)(T:RepF (V w j o u) [(n,BR w.params D E G Y K s t B M g a6 N),(l,A6 i k.length),(i,I (k ++ .ref h::y) x),(g,I r z),(h,Aj H b d c e f p)] [] F v)(Q:∀q X (a7 b3 b4 b2 a5 b5 b6 b7 b8 b9:Nat),Gx w.params X->RepF (V w j o u) [(n,BR w.params D E G Y K (b+c) (d+c) b3 b4 g X a7),(l,A6 i (k.length+1)),(i,I (k ++ .ref h::y) x),(g,I (r++[.ref a5]) b2),(h,Aj H b d c e f p),(a5,Aa [.str (AC .rep) b5,.int s b6,.int b b7,.int t b8,.int d b9])] [] F q->codeAny (model pw w) A (CT n l) R q):codeAny (model pw w) A (CT n l) R v:=by
 have P:=CQ O b0 (CT n l) 305 0x4204214000014000014000004014018600618614618600618614618600618614618600618614618800104004100104004104104104104100104100004410410104104104104004100a28a04028b2c02cb2ca2cb2c02cb2ca2cb2c02cb2ca2cb340041001041041 [(λm=>AX l i k (Value.ref h) y x,[1,2],[]),(λm=>AT s b B e true,[],[]),(λm=>AT t d M f true,[],[]),(λm=>AJ g r z (Value.ref (C m 12)),[3],[]),(λm=>Bc c p false,[],[])] [0,1,2,3,4,8] (Ir (Av O) (A9 O (decide_eq_true a0)) (A9 O (decide_eq_true a8)) (Ag O (by first |omega |(simp; omega))) (Ay O (by rw[a9]; rfl)))
 cases b1 with
 |s0=>
  exact P.1 (λa=>[(n,BR w.params D E G Y K (b+c) (d+c) (a 13) (a 14) g (ox w.params (a 3) (a 4) (a 5) (a 7) b d c e f p Oa (a 8)) (((((N+1)+1)+1)+1))),(l,A6 i (k.length+1)),(i,I (k ++ .ref h::y) x),(g,I (r++[.ref (a 12)]) (z+1)),(h,Aj H b d c e f p),(a 12,Aa [.str (AC .rep) (a 8),.int s B,.int b e,.int t M,.int d f])]) T λa q L=>Q q _ _ _ _ _ _ _ _ _ _ _ (Gx.s1 _ _ _ _ _ _ _ _ _ _ _ _) L
 |s1 a1 a2 a3 a4 c1 c2 c3 c4 c5 c6 c7 c8=>
  exact P.1 (λa=>[(n,BR w.params D E G Y K (b+c) (d+c) (a 13) (a 14) g (ox w.params a1 a2 a3 a4 b d c e f p Oa (a 8)) (N)),(l,A6 i (k.length+1)),(i,I (k ++ .ref h::y) x),(g,I (r++[.ref (a 12)]) (z+1)),(h,Aj H b d c e f p),(a 12,Aa [.str (AC .rep) (a 8),.int s B,.int b e,.int t M,.int d f])]) T λa q L=>Q q _ _ _ _ _ _ _ _ _ _ _ (Gx.s1 _ _ _ _ _ _ _ _ _ _ _ _) L
theorem Uq(b1:Gx w.params a6)(d4:r.length<sizeLine-5)(a0:s<b)(a8:¬ t<d)(a9:c≠0)(b0:Room 400 A)(T:RepF (V w j o u) [(n,BR w.params D E G Y K s t B M g a6 N),(l,A6 i k.length),(i,I (k ++ .ref h::y) x),(g,I r z),(h,Aj H b d c e f p)] [] F v)(Q:∀q X (a7 b3 b4 b2 a5 b5 b6 b7 b8 b9 c0 c9 d0 d1 d2 d3:Nat),Gx w.params X->RepF (V w j o u) [(n,BR w.params D E G Y K (b+c) (d+c) b3 b4 g X a7),(l,A6 i (k.length+1)),(i,I (k ++ .ref h::y) x),(g,I (r++[.ref a5]++[.ref c0]) b2),(h,Aj H b d c e f p),(a5,Aa [.str (AC .del) b5,.int s b6,.int b b7,.int t b8,.int d b9]),(c0,Aa [.str (AC .eql) c9,.int b d0,.int (b+c) d1,.int d d2,.int (d+c) d3])] [] F q->codeAny (model pw w) A (CT n l) R q):codeAny (model pw w) A (CT n l) R v:=by
 have P:=CQ O b0 (CT n l) 336 0x4204214000014000014000004014018600618614618600618614618600618614618600618614618800104004100104004104104104104104104100104100004410410104104104104004100a28a04028b2c02cb2ca2cb2c02cb2ca2cb2c02cb2ca2cb340041001041041104104041041041 [(λm=>AX l i k (Value.ref h) y x,[1,2],[]),(λm=>AT s b B e true,[],[]),(λm=>AT t d M f false,[],[]),(λm=>AT s b B e true,[],[]),(λm=>AJ g r z (Value.ref (C m 12)),[3],[]),(λm=>Bc c p true,[],[]),(λm=>AJ g (r++[Value.ref (C m 12)]) z.succ (Value.ref (C m 22)),[3],[])] [0,1,2,3,4,8,13] (Fa (Av O) (A9 O (decide_eq_true a0)) (A9 O (decide_eq_false a8)) (A9 O (decide_eq_true a0)) (Ag O (by first |omega |(simp; omega))) (Ay O (bne_iff_ne.mpr a9)) (Ag O (by first |omega |(simp; omega))))
 cases b1 with
 |s0=>
  exact P.1 (λa=>[(n,BR w.params D E G Y K (b+c) (d+c) (a 13) (a 14) g (ox w.params (a 3) (a 4) (a 5) (a 7) b d c e f p Pd (a 8)) (((((N+1)+1)+1)+1))),(l,A6 i (k.length+1)),(i,I (k ++ .ref h::y) x),(g,I (r++[.ref (a 12)]++[.ref (a 22)]) (z+1+1)),(h,Aj H b d c e f p),(a 12,Aa [.str (AC .del) (a 8),.int s B,.int b e,.int t M,.int d f]),(a 22,Aa [.str (AC .eql) (a 21),.int b e,.int (b+c) (a 13),.int d f,.int (d+c) (a 14)])]) T λa q L=>Q q _ _ _ _ _ _ _ _ _ _ _ _ _ _ _ _ _ (Gx.s1 _ _ _ _ _ _ _ _ _ _ _ _) L
 |s1 a1 a2 a3 a4 c1 c2 c3 c4 c5 c6 c7 c8=>
  exact P.1 (λa=>[(n,BR w.params D E G Y K (b+c) (d+c) (a 13) (a 14) g (ox w.params a1 a2 a3 a4 b d c e f p Pd (a 8)) (N)),(l,A6 i (k.length+1)),(i,I (k ++ .ref h::y) x),(g,I (r++[.ref (a 12)]++[.ref (a 22)]) (z+1+1)),(h,Aj H b d c e f p),(a 12,Aa [.str (AC .del) (a 8),.int s B,.int b e,.int t M,.int d f]),(a 22,Aa [.str (AC .eql) (a 21),.int b e,.int (b+c) (a 13),.int d f,.int (d+c) (a 14)])]) T λa q L=>Q q _ _ _ _ _ _ _ _ _ _ _ _ _ _ _ _ _ (Gx.s1 _ _ _ _ _ _ _ _ _ _ _ _) L
theorem TH(b1:Gx w.params a6)(d4:r.length<sizeLine-5)(a0:s<b)(a8:¬ t<d)(a9:c=0)(b0:Room 400 A)(T:RepF (V w j o u) [(n,BR w.params D E G Y K s t B M g a6 N),(l,A6 i k.length),(i,I (k ++ .ref h::y) x),(g,I r z),(h,Aj H b d c e f p)] [] F v)(Q:∀q X (a7 b3 b4 b2 a5 b5 b6 b7 b8 b9:Nat),Gx w.params X->RepF (V w j o u) [(n,BR w.params D E G Y K (b+c) (d+c) b3 b4 g X a7),(l,A6 i (k.length+1)),(i,I (k ++ .ref h::y) x),(g,I (r++[.ref a5]) b2),(h,Aj H b d c e f p),(a5,Aa [.str (AC .del) b5,.int s b6,.int b b7,.int t b8,.int d b9])] [] F q->codeAny (model pw w) A (CT n l) R q):codeAny (model pw w) A (CT n l) R v:=by
 have P:=CQ O b0 (CT n l) 313 0x4204214000014000014000004014018600618614618600618614618600618614618600618614618800104004100104004104104104104104104100104100004410410104104104104004100a28a04028b2c02cb2ca2cb2c02cb2ca2cb2c02cb2ca2cb340041001041041 [(λm=>AX l i k (Value.ref h) y x,[1,2],[]),(λm=>AT s b B e true,[],[]),(λm=>AT t d M f false,[],[]),(λm=>AT s b B e true,[],[]),(λm=>AJ g r z (Value.ref (C m 12)),[3],[]),(λm=>Bc c p false,[],[])] [0,1,2,3,4,8] (FW (Av O) (A9 O (decide_eq_true a0)) (A9 O (decide_eq_false a8)) (A9 O (decide_eq_true a0)) (Ag O (by first |omega |(simp; omega))) (Ay O (by rw[a9]; rfl)))
 cases b1 with
 |s0=>
  exact P.1 (λa=>[(n,BR w.params D E G Y K (b+c) (d+c) (a 13) (a 14) g (ox w.params (a 3) (a 4) (a 5) (a 7) b d c e f p Pd (a 8)) (((((N+1)+1)+1)+1))),(l,A6 i (k.length+1)),(i,I (k ++ .ref h::y) x),(g,I (r++[.ref (a 12)]) (z+1)),(h,Aj H b d c e f p),(a 12,Aa [.str (AC .del) (a 8),.int s B,.int b e,.int t M,.int d f])]) T λa q L=>Q q _ _ _ _ _ _ _ _ _ _ _ (Gx.s1 _ _ _ _ _ _ _ _ _ _ _ _) L
 |s1 a1 a2 a3 a4 c1 c2 c3 c4 c5 c6 c7 c8=>
  exact P.1 (λa=>[(n,BR w.params D E G Y K (b+c) (d+c) (a 13) (a 14) g (ox w.params a1 a2 a3 a4 b d c e f p Pd (a 8)) (N)),(l,A6 i (k.length+1)),(i,I (k ++ .ref h::y) x),(g,I (r++[.ref (a 12)]) (z+1)),(h,Aj H b d c e f p),(a 12,Aa [.str (AC .del) (a 8),.int s B,.int b e,.int t M,.int d f])]) T λa q L=>Q q _ _ _ _ _ _ _ _ _ _ _ (Gx.s1 _ _ _ _ _ _ _ _ _ _ _ _) L
theorem U5(b1:Gx w.params a6)(d4:r.length<sizeLine-5)(a0:¬ s<b)(a8:t<d)(a9:c≠0)(b0:Room 400 A)(T:RepF (V w j o u) [(n,BR w.params D E G Y K s t B M g a6 N),(l,A6 i k.length),(i,I (k ++ .ref h::y) x),(g,I r z),(h,Aj H b d c e f p)] [] F v)(Q:∀q X (a7 b3 b4 b2 a5 b5 b6 b7 b8 b9 c0 c9 d0 d1 d2 d3:Nat),Gx w.params X->RepF (V w j o u) [(n,BR w.params D E G Y K (b+c) (d+c) b3 b4 g X a7),(l,A6 i (k.length+1)),(i,I (k ++ .ref h::y) x),(g,I (r++[.ref a5]++[.ref c0]) b2),(h,Aj H b d c e f p),(a5,Aa [.str (AC .ins) b5,.int s b6,.int b b7,.int t b8,.int d b9]),(c0,Aa [.str (AC .eql) c9,.int b d0,.int (b+c) d1,.int d d2,.int (d+c) d3])] [] F q->codeAny (model pw w) A (CT n l) R q):codeAny (model pw w) A (CT n l) R v:=by
 have P:=CQ O b0 (CT n l) 337 0x4204214000014000014000004014018600618614618600618614618600618614618600618614618800104004100104004104104104104104104100104100004410410104104104104004100a28a04028b2c02cb2ca2cb2c02cb2ca2cb2c02cb2ca2cb340041001041041104104041041041 [(λm=>AX l i k (Value.ref h) y x,[1,2],[]),(λm=>AT s b B e false,[],[]),(λm=>AT s b B e false,[],[]),(λm=>AT t d M f true,[],[]),(λm=>AJ g r z (Value.ref (C m 12)),[3],[]),(λm=>Bc c p true,[],[]),(λm=>AJ g (r++[Value.ref (C m 12)]) z.succ (Value.ref (C m 22)),[3],[])] [0,1,2,3,4,8,13] (Fa (Av O) (A9 O (decide_eq_false a0)) (A9 O (decide_eq_false a0)) (A9 O (decide_eq_true a8)) (Ag O (by first |omega |(simp; omega))) (Ay O (bne_iff_ne.mpr a9)) (Ag O (by first |omega |(simp; omega))))
 cases b1 with
 |s0=>
  exact P.1 (λa=>[(n,BR w.params D E G Y K (b+c) (d+c) (a 13) (a 14) g (ox w.params (a 3) (a 4) (a 5) (a 7) b d c e f p OP (a 8)) (((((N+1)+1)+1)+1))),(l,A6 i (k.length+1)),(i,I (k ++ .ref h::y) x),(g,I (r++[.ref (a 12)]++[.ref (a 22)]) (z+1+1)),(h,Aj H b d c e f p),(a 12,Aa [.str (AC .ins) (a 8),.int s B,.int b e,.int t M,.int d f]),(a 22,Aa [.str (AC .eql) (a 21),.int b e,.int (b+c) (a 13),.int d f,.int (d+c) (a 14)])]) T λa q L=>Q q _ _ _ _ _ _ _ _ _ _ _ _ _ _ _ _ _ (Gx.s1 _ _ _ _ _ _ _ _ _ _ _ _) L
 |s1 a1 a2 a3 a4 c1 c2 c3 c4 c5 c6 c7 c8=>
  exact P.1 (λa=>[(n,BR w.params D E G Y K (b+c) (d+c) (a 13) (a 14) g (ox w.params a1 a2 a3 a4 b d c e f p OP (a 8)) (N)),(l,A6 i (k.length+1)),(i,I (k ++ .ref h::y) x),(g,I (r++[.ref (a 12)]++[.ref (a 22)]) (z+1+1)),(h,Aj H b d c e f p),(a 12,Aa [.str (AC .ins) (a 8),.int s B,.int b e,.int t M,.int d f]),(a 22,Aa [.str (AC .eql) (a 21),.int b e,.int (b+c) (a 13),.int d f,.int (d+c) (a 14)])]) T λa q L=>Q q _ _ _ _ _ _ _ _ _ _ _ _ _ _ _ _ _ (Gx.s1 _ _ _ _ _ _ _ _ _ _ _ _) L
theorem Uo(b1:Gx w.params a6)(d4:r.length<sizeLine-5)(a0:¬ s<b)(a8:t<d)(a9:c=0)(b0:Room 400 A)(T:RepF (V w j o u) [(n,BR w.params D E G Y K s t B M g a6 N),(l,A6 i k.length),(i,I (k ++ .ref h::y) x),(g,I r z),(h,Aj H b d c e f p)] [] F v)(Q:∀q X (a7 b3 b4 b2 a5 b5 b6 b7 b8 b9:Nat),Gx w.params X->RepF (V w j o u) [(n,BR w.params D E G Y K (b+c) (d+c) b3 b4 g X a7),(l,A6 i (k.length+1)),(i,I (k ++ .ref h::y) x),(g,I (r++[.ref a5]) b2),(h,Aj H b d c e f p),(a5,Aa [.str (AC .ins) b5,.int s b6,.int b b7,.int t b8,.int d b9])] [] F q->codeAny (model pw w) A (CT n l) R q):codeAny (model pw w) A (CT n l) R v:=by
 have P:=CQ O b0 (CT n l) 314 0x4204214000014000014000004014018600618614618600618614618600618614618600618614618800104004100104004104104104104104104100104100004410410104104104104004100a28a04028b2c02cb2ca2cb2c02cb2ca2cb2c02cb2ca2cb340041001041041 [(λm=>AX l i k (Value.ref h) y x,[1,2],[]),(λm=>AT s b B e false,[],[]),(λm=>AT s b B e false,[],[]),(λm=>AT t d M f true,[],[]),(λm=>AJ g r z (Value.ref (C m 12)),[3],[]),(λm=>Bc c p false,[],[])] [0,1,2,3,4,8] (FW (Av O) (A9 O (decide_eq_false a0)) (A9 O (decide_eq_false a0)) (A9 O (decide_eq_true a8)) (Ag O (by first |omega |(simp; omega))) (Ay O (by rw[a9]; rfl)))
 cases b1 with
 |s0=>
  exact P.1 (λa=>[(n,BR w.params D E G Y K (b+c) (d+c) (a 13) (a 14) g (ox w.params (a 3) (a 4) (a 5) (a 7) b d c e f p OP (a 8)) (((((N+1)+1)+1)+1))),(l,A6 i (k.length+1)),(i,I (k ++ .ref h::y) x),(g,I (r++[.ref (a 12)]) (z+1)),(h,Aj H b d c e f p),(a 12,Aa [.str (AC .ins) (a 8),.int s B,.int b e,.int t M,.int d f])]) T λa q L=>Q q _ _ _ _ _ _ _ _ _ _ _ (Gx.s1 _ _ _ _ _ _ _ _ _ _ _ _) L
 |s1 a1 a2 a3 a4 c1 c2 c3 c4 c5 c6 c7 c8=>
  exact P.1 (λa=>[(n,BR w.params D E G Y K (b+c) (d+c) (a 13) (a 14) g (ox w.params a1 a2 a3 a4 b d c e f p OP (a 8)) (N)),(l,A6 i (k.length+1)),(i,I (k ++ .ref h::y) x),(g,I (r++[.ref (a 12)]) (z+1)),(h,Aj H b d c e f p),(a 12,Aa [.str (AC .ins) (a 8),.int s B,.int b e,.int t M,.int d f])]) T λa q L=>Q q _ _ _ _ _ _ _ _ _ _ _ (Gx.s1 _ _ _ _ _ _ _ _ _ _ _ _) L
theorem To(b1:Gx w.params a6)(d4:r.length<sizeLine-5)(a0:¬ s<b)(a8:¬ t<d)(a9:c≠0)(b0:Room 400 A)(T:RepF (V w j o u) [(n,BR w.params D E G Y K s t B M g a6 N),(l,A6 i k.length),(i,I (k ++ .ref h::y) x),(g,I r z),(h,Aj H b d c e f p)] [] F v)(Q:∀q X (a7 b3 b4 b2 c0 c9 d0 d1 d2 d3:Nat),Gx w.params X->RepF (V w j o u) [(n,BR w.params D E G Y K (b+c) (d+c) b3 b4 g X a7),(l,A6 i (k.length+1)),(i,I (k ++ .ref h::y) x),(g,I (r++[.ref c0]) b2),(h,Aj H b d c e f p),(c0,Aa [.str (AC .eql) c9,.int b d0,.int (b+c) d1,.int d d2,.int (d+c) d3])] [] F q->codeAny (model pw w) A (CT n l) R q):codeAny (model pw w) A (CT n l) R v:=by
 have P:=CQ O b0 (CT n l) 304 0x4204214000014000014000004014018600618614618600618614618600618614618600618614618800104004100104004104104104104104104104000104004100924904024a28028a28928a28028a28928a28028a28928a300041001041041104104041041041 [(λm=>AX l i k (Value.ref h) y x,[1,2],[]),(λm=>AT s b B e false,[],[]),(λm=>AT s b B e false,[],[]),(λm=>AT t d M f false,[],[]),(λm=>Bc c p true,[],[]),(λm=>AJ g r z (Value.ref (C m 19)),[3],[])] [0,1,2,3,4,12] (FW (Av O) (A9 O (decide_eq_false a0)) (A9 O (decide_eq_false a0)) (A9 O (decide_eq_false a8)) (Ay O (bne_iff_ne.mpr a9)) (Ag O (by first |omega |(simp; omega))))
 cases b1 with
 |s0=>
  exact P.1 (λa=>[(n,BR w.params D E G Y K (b+c) (d+c) (a 10) (a 11) g (ox w.params (a 3) (a 4) (a 5) (a 7) b d c e f p (S []) (a 6)) (((((N+1)+1)+1)+1))),(l,A6 i (k.length+1)),(i,I (k ++ .ref h::y) x),(g,I (r++[.ref (a 19)]) (z+1)),(h,Aj H b d c e f p),(a 19,Aa [.str (AC .eql) (a 18),.int b e,.int (b+c) (a 10),.int d f,.int (d+c) (a 11)])]) T λa q L=>Q q _ _ _ _ _ _ _ _ _ _ _ (Gx.s1 _ _ _ _ _ _ _ _ _ _ _ _) L
 |s1 a1 a2 a3 a4 c1 c2 c3 c4 c5 c6 c7 c8=>
  exact P.1 (λa=>[(n,BR w.params D E G Y K (b+c) (d+c) (a 10) (a 11) g (ox w.params a1 a2 a3 a4 b d c e f p (S []) (a 6)) (N)),(l,A6 i (k.length+1)),(i,I (k ++ .ref h::y) x),(g,I (r++[.ref (a 19)]) (z+1)),(h,Aj H b d c e f p),(a 19,Aa [.str (AC .eql) (a 18),.int b e,.int (b+c) (a 10),.int d f,.int (d+c) (a 11)])]) T λa q L=>Q q _ _ _ _ _ _ _ _ _ _ _ (Gx.s1 _ _ _ _ _ _ _ _ _ _ _ _) L
theorem T3(b1:Gx w.params a6)(d4:r.length<sizeLine-5)(a0:¬ s<b)(a8:¬ t<d)(a9:c=0)(b0:Room 400 A)(T:RepF (V w j o u) [(n,BR w.params D E G Y K s t B M g a6 N),(l,A6 i k.length),(i,I (k ++ .ref h::y) x),(g,I r z),(h,Aj H b d c e f p)] [] F v)(Q:∀q X (a7 b3 b4 b2:Nat),Gx w.params X->RepF (V w j o u) [(n,BR w.params D E G Y K (b+c) (d+c) b3 b4 g X a7),(l,A6 i (k.length+1)),(i,I (k ++ .ref h::y) x),(g,I (r) b2),(h,Aj H b d c e f p)] [] F q->codeAny (model pw w) A (CT n l) R q):codeAny (model pw w) A (CT n l) R v:=by
 have P:=CQ O b0 (CT n l) 281 0x4204214000014000014000004014018600618614618600618614618600618614618600618614618800104004100104004104104104104104104104000104004100924904024a28028a28928a28028a28928a28028a28928a300041001041041 [(λm=>AX l i k (Value.ref h) y x,[1,2],[]),(λm=>AT s b B e false,[],[]),(λm=>AT s b B e false,[],[]),(λm=>AT t d M f false,[],[]),(λm=>Bc c p false,[],[])] [0,1,2,3,4] (Ir (Av O) (A9 O (decide_eq_false a0)) (A9 O (decide_eq_false a0)) (A9 O (decide_eq_false a8)) (Ay O (by rw[a9]; rfl)))
 cases b1 with
 |s0=>
  exact P.1 (λa=>[(n,BR w.params D E G Y K (b+c) (d+c) (a 10) (a 11) g (ox w.params (a 3) (a 4) (a 5) (a 7) b d c e f p (S []) (a 6)) (((((N+1)+1)+1)+1))),(l,A6 i (k.length+1)),(i,I (k ++ .ref h::y) x),(g,I (r) (z)),(h,Aj H b d c e f p)]) T λa q L=>Q q _ _ _ _ _ (Gx.s1 _ _ _ _ _ _ _ _ _ _ _ _) L
 |s1 a1 a2 a3 a4 c1 c2 c3 c4 c5 c6 c7 c8=>
  exact P.1 (λa=>[(n,BR w.params D E G Y K (b+c) (d+c) (a 10) (a 11) g (ox w.params a1 a2 a3 a4 b d c e f p (S []) (a 6)) (N)),(l,A6 i (k.length+1)),(i,I (k ++ .ref h::y) x),(g,I (r) (z)),(h,Aj H b d c e f p)]) T λa q L=>Q q _ _ _ _ _ (Gx.s1 _ _ _ _ _ _ _ _ _ _ _ _) L
end
end
section
noncomputable abbrev Bd:=Tg×Int×Int×Int×Int
noncomputable def DS(p l:Int)(b:B3):List Bd:=if p<b.1 then(if l<b.2.1 then[(.rep,p,b.1,l,b.2.1)] else[(.del,p,b.1,l,b.2.1)]) else(if l<b.2.1 then[(.ins,p,b.1,l,b.2.1)] else[])
noncomputable def DR(b:B3):List Bd:=if b.2.2≠0 then[(.eql,b.1,b.1+b.2.2,b.2.1,b.2.1+b.2.2)] else[]
noncomputable def Gi(c9:(Int×Int)×List Bd)(b:B3):(Int×Int)×List Bd:=((b.1+b.2.2,b.2.1+b.2.2),c9.2++DS c9.1.1 c9.1.2 b++DR b)
noncomputable def CV(c9:(Int×Int)×List Bd)(x:List B3):(Int×Int)×List Bd:=x.foldl Gi c9
noncomputable abbrev Cy:=Nat×Bd×Nat×Nat×Nat×Nat×Nat
noncomputable def A3(d8:List Cy):List Value:=d8.map λr=>Value.ref r.1
noncomputable abbrev Ar(r:Cy):Obj:=Aa [.str (AC r.2.1.1) r.2.2.1,.int r.2.1.2.1 r.2.2.2.1,.int r.2.1.2.2.1 r.2.2.2.2.1,.int r.2.1.2.2.2.1 r.2.2.2.2.2.1,.int r.2.1.2.2.2.2 r.2.2.2.2.2.2]
noncomputable def oP(d8:List Cy):An:=d8.map λr=>(r.1,Ar r)
noncomputable def F2:List Bd->List Nat->List Cy
 |[],_=>[]
 |b::a0,x=>(x.headD 0,b,x.tail.headD 0,x.tail.tail.headD 0,x.tail.tail.tail.headD 0,x.tail.tail.tail.tail.headD 0,x.tail.tail.tail.tail.tail.headD 0)::F2 a0 x.tail.tail.tail.tail.tail.tail
noncomputable def Ji:List Cy->List Nat
 |[]=>[]
 |r::K=>r.1::r.2.2.1::r.2.2.2.1::r.2.2.2.2.1::r.2.2.2.2.2.1::r.2.2.2.2.2.2::Ji K
theorem FV:∀K:List Cy,F2 (K.map (·.2.1)) (Ji K)=K
 |[]=>rfl
 |r::K=>by
  show(r.1,r.2.1,r.2.2.1,r.2.2.2.1,r.2.2.2.2.1,r.2.2.2.2.2.1,r.2.2.2.2.2.2)::F2 (K.map (·.2.1)) (Ji K)=_
  rw[FV K]
noncomputable def Ac(a0:List Bd)(b1:Nat):List Cy:=F2 a0 (GG b1)
theorem GF(K:List Cy):∃b1,Ac (K.map (·.2.1)) b1=K:=⟨Di (Ji K),by unfold Ac; rw[C6]; exact FV K⟩
theorem HW:∀(a0:List Bd) (x:List Nat),(F2 a0 x).map (·.2.1)=a0
 |[],_=>rfl
 |b::a0,x=>by
  show b::(F2 a0 x.tail.tail.tail.tail.tail.tail).map (·.2.1)=_
  rw[HW a0]
theorem D6(a0:List Bd)(b1:Nat):(Ac a0 b1).map (·.2.1)=a0:=HW _ _
theorem Fk(b6 b:List Cy):A3 (b6++b)=A3 b6++A3 b:=by simp[A3]
theorem Fr(e9:List Cy):(A3 e9).length=e9.length:=by simp[A3]
theorem HN(b6 b:List Cy):oP (b6++b)=oP b6++oP b:=by simp[oP]
noncomputable def UG(b5:Params):List Nat->List DictEntry
 |[d3,d4,d5,d6,d1,d2,d9,e0,e1,e2,e3,e4]=>ox b5 d3 d4 d5 d6 (B8 d1) (B8 d2) (B8 d9) e0 e1 e2 (Gc e3) e4
 |_=>[]
noncomputable def RY(b5:Params)(b1:Nat):List DictEntry:=UG b5 (GG b1)
theorem Qz{b5:Params}{s:List DictEntry}(f8:Gx b5 s):∃b1,RY b5 b1=s:=by
 have:∃x,UG b5 x=s:=by
  cases f8 with
  |s0=>exact⟨[],rfl⟩
  |s1 d3 d4 d5 d6 d1 d2 d9 e0 e1 e2 e3 e4=>
   obtain⟨b6,rfl⟩:=B9 d1
   obtain⟨b,rfl⟩:=B9 d2
   obtain⟨f1,rfl⟩:=B9 d9
   obtain⟨f2,rfl⟩:=EK e3
   exact⟨[d3,d4,d5,d6,b6,b,f1,e0,e1,e2,f2,e4],rfl⟩
 obtain⟨x,b0⟩:=this
 exact⟨Di x,by unfold RY; rw[C6]; exact b0⟩
section
variable{a6 Q b7 b8 b9 Y c4 H y a1:Nat}
include O
theorem SC{s:List Value}{d0:An}(P:Room 400 A)(b3:RepF (V w j o u) ([(Q,A6 y s.length),(y,I s a1)]++d0) [] F v)(c8:∀n,RepF (V w j o u) ([(Q,B1 s.length),(y,I s a1)]++d0) [] F n->R (.ok .next) n):codeAny (model pw w) A (CT a6 Q) R v:=by
 have b3:=RepF.out b3 (List.Perm.refl _)
 exact Ck O P _ 60 0x10410c0 [(λx=>Cm Q y s a1,[0,1],[])] [0,1] (Bo (Bw O)) (λ_=>[(Q,B1 s.length),(y,I s a1)]) b3
  λh2 n i=>c8 n (RepF.into i)
theorem Mu:∀(q k:List BX) {p l:Int} {m:List Cy} {c6 c7 b0 c3:Nat} {s:List DictEntry},Gx w.params s->m.length+2*q.length<1000->∀{A:Around},Room 400 A->∀{F:AK} {v:Shared} {R:RP},
  RepF (V w j o u) ([(a6,BR w.params b7 b8 b9 Y c4 p l c6 c7 H s b0),(Q,A6 y (A4 k).length),(y,I (A4 k++A4 q) a1),(H,I (A3 m) c3)]++(mP q++oP m)) [] F v ->
  (∀n (e7 e8:Int) (g9 h0 e f:Nat) G (d7:List Cy),((e7,e8),d7.map (·.2.1))=CV ((p,l),m.map (·.2.1)) (q.map (·.2.2.1))->Gx w.params G ->
   RepF (V w j o u) ([(a6,BR w.params b7 b8 b9 Y c4 e7 e8 g9 h0 H G e),(Q,B1 (A4 (k++q)).length),(y,I (A4 (k++q)) a1),(H,I (A3 d7) f)]++oP d7) [] F n->R (.ok .next) n) ->
  codeAny (model pw w) A (CT a6 Q) R v:=by
 intro h6
 induction h6 with
 |nil=>
  intro k p l m c6 c7 b0 c3 s a8 e5 A P F v R b3 c8
  have f3:A4 k++A4 []=A4 k:=List.append_nil _
  rw[f3] at b3
  refine SC O P (F:=F) (s:=A4 k) (y:=y) (a1:=a1) (d0:=[(a6,BR w.params b7 b8 b9 Y c4 p l c6 c7 H s b0),(H,I (A3 m) c3)]++oP m) ?_ λn i=>c8 n p l c6 c7 b0 c3 s m rfl a8 ?_
  ·exact RepF.ord [1,1] b3 rfl
  ·rw[List.append_nil]
   exact RepF.ord [2,0,0,0] i rfl
 |cons r q h5=>
  intro k p l m c6 c7 b0 c3 s a8 e5 A P F v R b3 c8
  have h3:sizeLine=16777216:=sizeLine_eq
  simp only[List.length_cons] at e5
  have b4:(A3 m).length<sizeLine-5:=by rw[Fr]; omega
  obtain⟨E,N,⟨d,a,c⟩,S,T,X⟩:=r
  have f9:RepF (V w j o u) ([(a6,BR w.params b7 b8 b9 Y c4 p l c6 c7 H s b0),(Q,A6 y (A4 k).length),(y,I (A4 k ++ .ref E::A4 q) a1),(H,I (A3 m) c3),(E,Aj N d a c S T X)]++(mP q++oP m)) [] F v:=b3
  have a7:=RepF.out f9 (List.Perm.refl _)
  have f7:A4 k ++ .ref E::A4 q=A4 (k++[(E,N,(d,a,c),S,T,X)])++A4 q:=by simp[A4]
  have f6:((A4 k).length:Int)+1=((A4 (k++[(E,N,(d,a,c),S,T,X)])).length:Int):=by simp[A4]
  have f5:k++[(E,N,(d,a,c),S,T,X)]++q=k++(E,N,(d,a,c),S,T,X)::q:=by simp
  have b2:∀{n:Shared} {G:List DictEntry} {e g h f:Nat} (a9:List Cy),Gx w.params G->a9.map (·.2.1)=DS p l (d,a,c)++DR (d,a,c)->a9.length<=2 ->
    RepF (V w j o u) ([(a6,BR w.params b7 b8 b9 Y c4 (d+c) (a+c) g h H G e),(Q,A6 y ((A4 k).length+1)),(y,I (A4 k ++ .ref E::A4 q) a1),(H,I (A3 m++A3 a9) f),(E,Aj N d a c S T X)]++oP a9) [] (mP q++oP m++F.1,F.2) n->codeAny (model pw w) A (CT a6 Q) R n:=λ{n G e g h f} a9 B g0 h4 i=>by
   have f0:=RepF.into i
   rw[f6,f7] at f0
   refine h5 (k++[(E,N,(d,a,c),S,T,X)]) (p:=d+c) (l:=a+c) (m:=m++a9) (c6:=g) (c7:=h) (b0:=e) (c3:=f) B (by rw[List.length_append]; lia) P (F:=F) ?_ λg8 g4 g5 L M f4 g6 Cs g7 a7 g1 e6=>c8 g8 g4 g5 L M f4 g6 Cs g7 ?_ g1 ?_
   ·rw[Fk,HN]
    have h1:RepF (V w j o u) (([(a6,BR w.params b7 b8 b9 Y c4 (d+c) (a+c) g h H G e),(Q,A6 y ((A4 (k++[(E,N,(d,a,c),S,T,X)])).length)),(y,I (A4 (k++[(E,N,(d,a,c),S,T,X)])++A4 q) a1),(H,I (A3 m++A3 a9) f)]++(mP q++(oP m++oP a9)))++[(E,Aj N d a c S T X)]) [] F n:=
     RepF.segs [[(a6,BR w.params b7 b8 b9 Y c4 (d+c) (a+c) g h H G e),(Q,A6 y ((A4 (k++[(E,N,(d,a,c),S,T,X)])).length)),(y,I (A4 (k++[(E,N,(d,a,c),S,T,X)])++A4 q) a1),(H,I (A3 m++A3 a9) f)],[(E,Aj N d a c S T X)],oP a9,mP q,oP m] [0,2,2,1,0] f0 rfl (by simp) (by simp)
    exact RepF.keep _ h1
   ·rw[a7,List.map_append,g0,<-List.append_assoc]; rfl
   ·rw[f5] at e6; exact e6
  by_cases D:p<d
  ·by_cases z:l<a
   ·by_cases t:c=0
    ·refine V7 O a8 b4 D z t P a7 λn G e g h f a5 L M a2 a3 a4 B i=>b2 (e:=e) (g:=g) (h:=h) (f:=f) [(a5,(.rep,p,d,l,a),L,M,a2,a3,a4)] B ?_ (by simp) i
     simp[DS,DR,D,z,t]
    ·refine T4 O a8 b4 D z t P a7 λn G e g h f a5 L M a2 a3 a4 c5 c0 g2 g3 c1 c2 B i=>b2 (e:=e) (g:=g) (h:=h) (f:=f) [(a5,(.rep,p,d,l,a),L,M,a2,a3,a4),(c5,(.eql,d,d+c,a,a+c),c0,g2,g3,c1,c2)] B ?_ (by simp) ?_
     ·simp[DS,DR,D,z,t]
     ·rw[List.append_assoc] at i; exact i
   ·by_cases t:c=0
    ·refine TH O a8 b4 D z t P a7 λn G e g h f a5 L M a2 a3 a4 B i=>b2 (e:=e) (g:=g) (h:=h) (f:=f) [(a5,(.del,p,d,l,a),L,M,a2,a3,a4)] B ?_ (by simp) i
     simp[DS,DR,D,z,t]
    ·refine Uq O a8 b4 D z t P a7 λn G e g h f a5 L M a2 a3 a4 c5 c0 g2 g3 c1 c2 B i=>b2 (e:=e) (g:=g) (h:=h) (f:=f) [(a5,(.del,p,d,l,a),L,M,a2,a3,a4),(c5,(.eql,d,d+c,a,a+c),c0,g2,g3,c1,c2)] B ?_ (by simp) ?_
     ·simp[DS,DR,D,z,t]
     ·rw[List.append_assoc] at i; exact i
  ·by_cases z:l<a
   ·by_cases t:c=0
    ·refine Uo O a8 b4 D z t P a7 λn G e g h f a5 L M a2 a3 a4 B i=>b2 (e:=e) (g:=g) (h:=h) (f:=f) [(a5,(.ins,p,d,l,a),L,M,a2,a3,a4)] B ?_ (by simp) i
     simp[DS,DR,D,z,t]
    ·refine U5 O a8 b4 D z t P a7 λn G e g h f a5 L M a2 a3 a4 c5 c0 g2 g3 c1 c2 B i=>b2 (e:=e) (g:=g) (h:=h) (f:=f) [(a5,(.ins,p,d,l,a),L,M,a2,a3,a4),(c5,(.eql,d,d+c,a,a+c),c0,g2,g3,c1,c2)] B ?_ (by simp) ?_
     ·simp[DS,DR,D,z,t]
     ·rw[List.append_assoc] at i; exact i
   ·by_cases t:c=0
    ·refine T3 O a8 b4 D z t P a7 λn G e g h f B i=>b2 (e:=e) (g:=g) (h:=h) (f:=f) [] B ?_ (by simp) ?_
     ·simp[DS,DR,D,z,t]
     ·have:A3 m++A3 []=A3 m:=List.append_nil _
      rw[this]; exact i
    ·refine To O a8 b4 D z t P a7 λn G e g h f c5 c0 g2 g3 c1 c2 B i=>b2 (e:=e) (g:=g) (h:=h) (f:=f) [(c5,(.eql,d,d+c,a,a+c),c0,g2,g3,c1,c2)] B ?_ (by simp) i
     simp[DS,DR,D,z,t]
end
end
section
noncomputable def Rn(t:Params)(k l g h i Y n r s c e m q p b:Nat)(a:List B3):Spec:=
 {code:=CT k l,nf:=6,d:=400,pool:=true,pre:=mP (A8 a b),post:=λf=>oP (Ac (CV ((0,0),[]) a).2 (W 0 f 5)),res:=λ_=>.ok .next,
  fp:=[(k,BR t g h i Y n 0 0 r s c [] p),(l,A6 e 0),(e,I (A4 (A8 a b)) m),(c,I [] q)],
  upd:=λf=>[BR t g h i Y n (CV ((0,0),[]) a).1.1 (CV ((0,0),[]) a).1.2 (W 0 f 0) (W 0 f 1) c (RY t (W 0 f 2)) (W 0 f 3),B1 (a.length:Nat),I (A4 (A8 a b)) m,I (A3 (Ac (CV ((0,0),[]) a).2 (W 0 f 5))) (W 0 f 4)]}
section
variable{k l g h i Y n r s c e m q p b:Nat}{a:List B3}
include O
theorem PN(b0:a.length<200):(Rn w.params k l g h i Y n r s c e m q p b a).Ok (V w j o u):=Spec.of_code (λ_=>rfl) (λ_=>rfl) λA a0 F z R a2 a1=>by
 have E:=Fu a b
 have a8:RepF (V w j o u) ([(k,BR w.params g h i Y n 0 0 r s c [] p),(l,A6 e 0),(e,I (A4 (A8 a b)) m),(c,I [] q)]++mP (A8 a b)) [] F z:=a2
 have a9:RepF (V w j o u) ([(k,BR w.params g h i Y n 0 0 r s c [] p),(l,A6 e (A4 []).length),(e,I (A4 []++A4 (A8 a b)) m),(c,I (A3 []) q)]++(mP (A8 a b)++oP [])) [] F z:=by
  show RepF (V w j o u) (_++(mP (A8 a b)++[])) [] F z
  rw[List.append_nil]
  exact a8
 refine Mu O (A8 a b) [] .s0 (by simp[E]; lia) a0 a9 λa7 G H L M N a6 b1 K x a3 y=>?_
 rw[Em] at x
 obtain⟨a4,B⟩:=GF K
 obtain⟨a5,P⟩:=Qz a3
 have D:(G,H)=(CV ((0,0),[]) a).1:=congrArg Prod.fst x
 have S:K.map (·.2.1)=(CV ((0,0),[]) a).2:=congrArg Prod.snd x
 have T:G=(CV ((0,0),[]) a).1.1:=congrArg Prod.fst D
 have X:H=(CV ((0,0),[]) a).1.2:=congrArg Prod.snd D
 rw[S] at B
 refine a1 [L,M,a5,N,a6,a4] a7 rfl ?_
 rw[<-B,<-P,T,X] at y
 have Q:(A4 ([]++A8 a b)).length=a.length:=by rw[List.nil_append,D5,E]
 rw[Q] at y
 exact y
end
end
section
noncomputable def Bs(a f:List (Str×Nat)):List Bd:=(CV ((0,0),[]) (Dm a f)).2
theorem JH{a f:List (Str×Nat)}(P:(BK a f).length<64):(Dm a f).length<100:=by
 have a1:(Bh (BK a f)).length<64:=by rw[(CJ _).length_eq]; exact P
 have N:=Ht (Bh (BK a f)) ((0,0,0),[])
 dsimp only[List.length_nil] at N
 have a2:(Dg a f).2.length<=0+(Bh (BK a f)).length:=N
 unfold Dm
 split <;> simp <;> lia
noncomputable def Uk(g:Params)(n m k l H K h i q:Nat)(r:Nat->Nat)(L:Nat)(a:List (Str×Nat))(b:List Bt):Spec:=
 {code:=.call (.ref 210) ⟨[.ref n],[]⟩,nf:=4,d:=600,pool:=true,pre:=bP 0 b,post:=λe=>oP (Ac (Bs a (U b)) (W 0 e 2)),
  fp:=[(n,Ba m),(m,Bb g r k l h i q .none .none),(k,I (J a) H),(l,I (J (U b)) K),(h,A5 (bE g b) L),(i,Ad g)],
  upd:=λe=>[Ba m,Bb g r k l h i q (.ref (W 0 e 3)) (.ref (W 0 e 0)),I (J a) H,I (J (U b)) K,A5 (bE g b) L,Ad g],
  new:=λe=>[(W 0 e 0,I (A3 (Ac (Bs a (U b)) (W 0 e 2))) (W 0 e 1))],res:=λe=>.ok (.ret (.ref (W 0 e 0)))}
section
variable{n m k l H K h i q:Nat}{r:Nat->Nat}{L:Nat}{a:List (Str×Nat)}{b:List Bt}
include O
theorem Qo(a0:((U b).map (·.1)).Nodup)(T:a.length<=100)(X:b.length<=100)(Q:((BK a (U b)).map (·.1)).Nodup)(M:(BK a (U b)).length<64):(Uk w.params n m k l H K h i q r L a b).Ok (V w j o u):=by
 have S:(Dm a (U b)).length<200:=Nat.lt_trans (JH M) (by decide)
 exact Spec.of_run O 185 (hd 0x400001c70070400000010000010400801c70071c70400000010010010000010000820801c71c100000100000100000004200124904024a047) [(λc=>SE w.params n m k l H K h i q r L a b (Value.ref (C c 7)),[0,1,2,3,4,5],[]),(λc=>Rn w.params (C c 0) (C c 14) (C c 1) (C c 5) (C c 6) (C c 10) n (C c 4) (C c 4) (C c 7) (C c 13) (C c 12) 0 4 ((C c 11)) (Dm a (U b)),[6,9,8,7],[])] [0,1,2,3,4,5,7] [] (λp=>[p 7,p 19,p 20,p 13]) (λ_=>rfl) (λ_=>rfl) (λ_=>rfl) (BI (PU O a0 T X Q M) (PN O S)) (by kernel_rfl)
end
end
section
noncomputable def AN(c:Nat)(N P:Value):Obj:=⟨.type "generator",none,.fields ⟨[.int c 0,N,P]⟩,⟨[]⟩⟩
theorem SegX.monoQ{a9:Model}{q:Code}{b8:Sem Fin}{D:List Frame}{e:Shared}{p b0:End->Shared->Prop}(a7:SegX a9 A q b8 D e p)(d:∀b g,b.quiet=true->p b g->b0 b g):SegX a9 A q b8 D e b0:=fun Γ h hc dΓ=>by
 obtain⟨b,g,c9,K,s⟩:=a7 Γ h hc dΓ
 exact⟨b,g,c9,K,d b g K s⟩
theorem RepF.setGen{B:Cx}{z:An}{x:Gs}{e:Shared}{c:Nat}{b1 Q:Gp}{v:GenState}(d:RepF B z ((c,b1)::x) F e)(c2:v.bare=true)(s:Q v):RepF B z ((c,Q)::x) F (e.setGen c v):=by
 have d:Rep B (z++F.1) ((c,b1)::(x++F.2)) e:=d
 show Rep B (z++F.1) ((c,Q)::(x++F.2)) (e.setGen c v)
 obtain⟨E,l,_⟩:=d.gens _ (List.mem_cons_self ..)
 have d5:c<e.gens.size:=by
  rcases Nat.lt_or_ge c e.gens.size with a0 |a0
  ·exact a0
  ·rw[Array.getElem?_eq_none a0] at l; cases l
 have c5:=List.nodup_cons.mp d.gnd
 refine⟨d.get,d.nd,d.hi,d.old,d.size,λh H=>?_,d.gnd,?_,d.os⟩
 ·rcases List.mem_cons.mp H with rfl |H
  ·exact⟨v,setGen_self l,s⟩
  ·obtain⟨d3,d0,c8⟩:=d.gens h (List.mem_cons_of_mem _ H)
   refine⟨d3,?_,c8⟩
   have c6:h.1≠c:=λb=>c5.1 (b▸List.mem_map_of_mem (f:=(·.1)) H)
   rw[<-d0]
   exact(GenOnly.setGen e c v).2 h.1 c6
 ·refine AllBare.moved d.bare (g:=c) (GenOnlyQ.of (y:=v) (GenOnly.setGen e c v) (setGen_self l) c2)
theorem Ef{w:World}{T:Nat}(a3:Room (T+10) A){ga c:Nat}{N P:Value}{e:Shared}{E:GenState}(l:e.gens[c]?=some E)(c7:e.heap.get? ga=some (AN c N P))(b5:e.heap.NoLimit){n:Code}{t:Sem Fin}{r:List Frame}(b3:(E = .fresh n/\t=denote table n/\r=[])∨∃M a4 a5 S,E = .suspended M a4 n a5 r S/\t=M (.send .none)){p:End->Shared->Prop}(a7:∀a8,Room T a8->SegX (model pw w) a8 n t r (e.setGen c .running) p)(G:∀b i,b.quiet=true->p b i->match b with
   |.susp k ..=>R (.ok (.ret k)) (i.setGen c b.genState)
   |.ret a6=>a6 = .ok (.ret .none)/\R (.error (.ref (i.heap.objs.size+1))) {i.setGen c .finished with heap:=(i.heap.push (Aa [])).push (Bp i.heap.objs.size)}) :
  codeAny (model pw w) A (.call (.builtin "generator.__next__") ⟨[.ref ga],[]⟩) R e:=by
 have b2:e.heap.IsGen ga c:=⟨_,N,P,c7,rfl,rfl,rfl⟩
 have b6:A.depth<1000:=by have:=a3.depth; lia
 have c1:Room T A.in1:=(a3.under (c:=.builtin "generator.__next__" ⟨[.ref ga],[]⟩) rfl (by exact Nat.le_add_left ..)).mono (by exact Nat.le_add_right ..)
 refine codeAny_call_builtin slot_gen_next.plain entry_gen_next (slot_gen_next.check _ _ _ _ _ _ _ _ b2.typeIs (args_gen_next _) ?_)
 show wpAny _ _ (Builtin.Generator.genWake (.ref ga) (.send .none)) _ _ e
 unfold Builtin.Generator.genWake
 refine wpAny_bind (wpAny_holding (wpAny_genNumber b2 (wpAny_bind (wpAny_genState l ?_))))
 have b7:∀{L:GenResult->Sem Fin},(∀k,L (.yielded k)=ret k)->L (.returned .none)=(newExc (.type "StopIteration") []>>=λb=>raiseNew (α:=Unit) b>>=λ_=>(rule "generator.return-value" >>= λ_=>newExc (.type "StopIteration") [.none]>>=λb=>(throw b:Sem Fin))) ->
   wpAny (model pw w) A.in1 (.resume c (.send .none) [] L) (λX g=>match X with |.done f=>R (.ok f) g |.again c'=>c'.quiet=true/\codeAny (model pw w) A c' R g) (λb g=>R (.error b) g) e:=by
  intro L c3 c4
  refine fun Γ h dΓ=>wake_any _ pw w (r:=.send .none) (c₀:=n) (t₀:=t) (fs₀:=r) l (by
   rcases b3 with⟨a1,a2,c0⟩ |⟨M,a4,a5,S,a1,a2⟩
   ·exact .inl ⟨a1,rfl,a2,c0⟩
   ·exact .inr ⟨M,a4,a5,S,a1,a2⟩) (fun Γ=> Γ.In A.in1) (λ_ d=>d) (SegX.monoQ (a7 _ c1) λb i K s=>?_) Γ h dΓ
  have G:=G b i K s
  cases b with
  |susp k b9 d2 d1 q h D=>
   rw[show(End.susp k b9 d2 d1 q h D).result = .yielded k from rfl,c3]
   exact fun Γ h dΓ=>(wpAny_pure G:wpAny (model pw w) A.in1 (ret k) _ _ _) Γ h dΓ
  |ret a6=>
   obtain⟨rfl,b4⟩:=G
   have b:(i.heap.push (Aa [])).objs.size=i.heap.objs.size+1:=Heap.size_push ..
   rw[<-b] at b4
   rw[show(End.ret (.ok (.ret .none))).result = .returned .none from rfl,c4]
   have d4:wpAny (model pw w) A.in1 (newExc (.type "StopIteration") []>>=λb=>raiseNew (α:=Unit) b>>=λ_=>(rule "generator.return-value" >>= λ_=>newExc (.type "StopIteration") [.none]>>=λb=>(throw b:Sem Fin))) (λX g=>match X with |.done f=>R (.ok f) g |.again c'=>c'.quiet=true/\codeAny (model pw w) A c' R g) (λb g=>R (.error b) g) (i.setGen c .finished):=by
    refine wpAny_bind ?_
    simp only[newExc,newTuple]
    refine wpAny_bind (wpAny_newObj_type ?_ (by size_fits))
    refine wpAny_bind (m:=firstArgMember _ _) (wpAny_of_eq (a:=Value.none) (by first |rfl |(simp only[firstArgMember]; rfl)) ?_)
    refine wpAny_newObj_type ?_ (by size_fits)
    unfold raiseNew
    refine wpAny_bind (wpAny_bind (wpAny_handled ?_))
    rw[show A.in1.handled=none from a3.handled]
    refine wpAny_throw ?_
    exact b4
   exact d4
 rcases b3 with⟨rfl,_⟩ |⟨_,_,_,_,rfl,_⟩
 ·refine wpAny_bind (wpAny_roomToWake b5 b6 ?_)
  exact b7 (λ_=>rfl) rfl
 ·refine wpAny_bind (wpAny_roomToWake b5 b6 ?_)
  exact b7 (λ_=>rfl) rfl
end
section
noncomputable def Vh:Str:=S [83,101,113,117,101,110,99,101,77,97,116,99,104,101,114,46,103,101,116,95,103,114,111,117,112,101,100,95,111,112,99,111,100,101,115,46,60,108,111,99,97,108,115,62,46]
noncomputable def PL(g:Nat):Env:=Gq (AQ 5 9) 218 217 Vh g
noncomputable def Tm(z:Nat):Stmt:=W B6 (B2 (AQ 5 9)) z
noncomputable def DL(g E:Nat):Code:=Ff (Tm 7) E (PL g)
noncomputable def Sy(g:Nat):Code:=.func (B2 (AQ 5 9)) (PL g)
noncomputable def nN:Str:=S [110]
noncomputable def Qr:Str:=S [99,111,100,101,115]
noncomputable def Vo:Str:=S [110,110]
noncomputable def MD:Str:=S [103,114,111,117,112]
noncomputable def t5(a:Params)(r s t x y:Nat)(K:Str)(B D G H:Int)(L M N P Q:Nat):List DictEntry:=
 [en a Hs r (.str K L),en a SY s (.int B M),en a T0 t (.int D N),en a U6 x (.int G P),en a TL y (.int H Q)]
noncomputable def g3(a:Params)(b c d l:Nat)(i:Int)(m f:Nat):List DictEntry:=[en a Fy b (.ref l),en a nN c (.int i m),en a Qr d (.ref f)]
noncomputable def g2(a:Params)(Y e:Nat)(k:Int)(n h:Nat):List DictEntry:=[en a Vo Y (.int k n),en a MD e (.ref h)]
noncomputable def VX(a:Params)(b c d Y e l:Nat)(i:Int)(m f:Nat)(k:Int)(n h:Nat)(q:List DictEntry)(p:Nat):Obj:=Bl (g3 a b c d l i m f++(q++g2 a Y e k n h)) p
noncomputable def Vc(a:Params)(b c d Y e l:Nat)(i:Int)(m f:Nat)(k:Int)(n h:Nat)(q:List DictEntry)(p:Nat):Obj:=Bl (g3 a b c d l i m f++(g2 a Y e k n h++q)) p
end
section
noncomputable abbrev Bk:=Int×Int×Int
noncomputable def wd:List Q4->Nat
 |[]=>0
 |b::v=>(b.2.1-b.1).toNat+wd v
theorem Fs:∀(i b:List Q4),wd (i++b)=wd i+wd b
 |[],b=>by simp[wd]
 |x::i,b=>by
  show(x.2.1-x.1).toNat+wd (i++b)=(x.2.1-x.1).toNat+wd i+wd b
  rw[Fs i b]; lia
theorem PR{c a:List (Str×Nat)}{b:Q4}(l:(a.map (·.1)).Nodup)(q:GU c a b)(N:(Ak c a b).1≠0):wd (Bg c a b)+1<=(b.2.1-b.1).toNat:=by
 have p:=Ds l q
 have b5:0<=(Ak c a b).1:=p.s0
 have t:b.1<=(Ak c a b).2.2:=p.i0
 have a2:(Ak c a b).2.2+(Ak c a b).1<=b.2.1:=p.i1
 unfold Bg
 rw[Fs]
 have a8:wd (if(Ak c a b).2.2+(Ak c a b).1<b.2.1/\(Ak c a b).2.1+(Ak c a b).1<b.2.2.2 then[((Ak c a b).2.2+(Ak c a b).1,b.2.1,(Ak c a b).2.1+(Ak c a b).1,b.2.2.2)] else[])<=(b.2.1-((Ak c a b).2.2+(Ak c a b).1)).toNat:=by
  split <;> simp[wd]
 have c3:wd (if b.1<(Ak c a b).2.2/\b.2.2.1<(Ak c a b).2.1 then[(b.1,(Ak c a b).2.2,b.2.2.1,(Ak c a b).2.1)] else[])<=((Ak c a b).2.2-b.1).toNat:=by
  split <;> simp[wd]
 omega
theorem Jl{c a:List (Str×Nat)}(l:(a.map (·.1)).Nodup):∀(n:Nat) (v:List Q4) (g:List Bk),(∀b∈v,GU c a b)->(qF c a n v g).length<=g.length+wd v
 |0,v,g,_=>by show g.length<=_; exact Nat.le_add_right ..
 |n+1,[],g,_=>by show g.length<=_; exact Nat.le_add_right ..
 |n+1,b::v,g,S=>by
  show(if(Ak c a b).1=0 then qF c a n v g else qF c a n (Bg c a b++v) (g++[DW c a b])).length<=_
  by_cases k:(Ak c a b).1=0
  ·rw[if_pos k]
   have:=Jl l n v g λd e=>S d (.tail _ e)
   show _<=g.length+((b.2.1-b.1).toNat+wd v)
   lia
  ·rw[if_neg k]
   have s:=Jl l n (Bg c a b++v) (g++[DW c a b]) λd e=>by
    rcases List.mem_append.mp e with e |e
    ·exact F7 l (S b (.head _)) d e
    ·exact S d (.tail _ e)
   have t:=PR l (S b (.head _)) k
   rw[Fs,List.length_append] at s
   simp only[List.length_cons,List.length_nil] at s
   show _<=g.length+((b.2.1-b.1).toNat+wd v)
   lia
noncomputable def DO(b:Bk):Q4:=(b.1,b.1+b.2.2,b.2.1,b.2.1+b.2.2)
noncomputable def FY(G H:Q4):Prop:=(G.2.1<=H.1/\G.2.2.2<=H.2.2.1)∨(H.2.1<=G.1/\H.2.2.2<=G.2.2.1)
theorem FY.symm{G H:Q4}(k:FY G H):FY H G:=k.elim .inr .inl
noncomputable def S1(i b:Q4):Prop:=b.1<=i.1/\i.2.1<=b.2.1/\b.2.2.1<=i.2.2.1/\i.2.2.2<=b.2.2.2
theorem FY.ins{i b d:Q4}(k:FY b d)(a3:S1 i b):FY i d:=by
 obtain⟨s,t,a2,a9⟩:=a3
 rcases k with⟨a5,P⟩ |⟨a5,P⟩
 ·exact .inl ⟨by exact Int.le_trans ‹_› ‹_›,by exact Int.le_trans ‹_› ‹_›⟩
 ·exact .inr ⟨by exact Int.le_trans ‹_› ‹_›,by exact Int.le_trans ‹_› ‹_›⟩
structure L8(c a:List (Str×Nat))(b:Bk):Prop where
 pos:1<=b.2.2
 i0:0<=b.1
 i1:b.1+b.2.2<=c.length
 j0:0<=b.2.1
 j1:b.2.1+b.2.2<=a.length
 eq:∀X,0<=X->X<b.2.2->Ao c (b.1+X)=Ao a (b.2.1+X)
noncomputable def K4(c a:List (Str×Nat)):Prop:=∀f h a0 a1:Int,0<=f->f<c.length->0<=h->h<a.length->0<=a0->a0<c.length->0<=a1->a1<a.length->Ao c f=Ao a h->Ao c a0=Ao a a1->(f<a0↔h<a1)
noncomputable def NJ(b:Bk)(f h:Int):Prop:=b.1<=f/\f<b.1+b.2.2/\h=b.2.1+(f-b.1)
noncomputable def Vx(b:Q4)(f h:Int):Prop:=b.1<=f/\f<b.2.1/\b.2.2.1<=h/\h<b.2.2.2
structure QI(c a:List (Str×Nat))(v:List Q4)(g:List Bk):Prop where
 box:∀b∈v,GU c a b
 blk:∀b∈g,L8 c a b
 sep:(v++g.map DO).Pairwise FY
 cov:K4 c a->∀f h:Int,0<=f->f<c.length->0<=h->h<a.length->Ao c f=Ao a h->(∃b∈g,NJ b f h)∨∃b∈v,Vx b f h
theorem QI.step{c a:List (Str×Nat)}(l:(a.map (·.1)).Nodup){b:Q4}{v:List Q4}{g:List Bk}(m:QI c a (b::v) g) :
  QI c a (if(Ak c a b).1=0 then v else Bg c a b++v) (if(Ak c a b).1=0 then g else g++[DW c a b]):=by
 have q:=m.box b (.head _)
 have p:=Ds l q
 have s:b.1<=(Ak c a b).2.2:=p.i0
 have t:(Ak c a b).2.2+(Ak c a b).1<=b.2.1:=p.i1
 have a2:b.2.2.1<=(Ak c a b).2.1:=p.j0
 have a9:(Ak c a b).2.1+(Ak c a b).1<=b.2.2.2:=p.j1
 have b5:0<=(Ak c a b).1:=p.s0
 have c4:=q.a0; have c5:=q.a1; have c6:=q.a2; have c7:=q.b0; have c8:=q.b1; have c9:=q.b2
 obtain⟨b1,b2⟩:=List.pairwise_cons.mp m.sep
 by_cases N:(Ak c a b).1=0
 ·rw[if_pos N,if_pos N]
  refine⟨λd e=>m.box d (.tail _ e),m.blk,b2,λe f h K L B D r=>?_⟩
  rcases m.cov e f h K L B D r with k |⟨d,z,y⟩
  ·exact .inl k
  ·rcases List.mem_cons.mp z with rfl |z
   ·exact absurd r (p.no N f h y.1 y.2.1 y.2.2.1 y.2.2.2)
   ·exact .inr ⟨d,z,y⟩
 ·rw[if_neg N,if_neg N]
  have b7:1<=(Ak c a b).1:=by lia
  have b0:∀d∈Bg c a b,S1 d b/\FY d (DO (DW c a b)):=by
   intro d e
   unfold Bg at e
   rcases List.mem_append.mp e with e |e
   ·split at e
    ·rw[List.mem_singleton.mp e]
     exact⟨⟨by show b.1<=(Ak c a b).2.2+(Ak c a b).1; lia,Int.le_refl _,by show b.2.2.1<=(Ak c a b).2.1+(Ak c a b).1; lia,Int.le_refl _⟩,.inr ⟨Int.le_refl _,Int.le_refl _⟩⟩
    ·cases e
   ·split at e
    ·rw[List.mem_singleton.mp e]
     exact⟨⟨Int.le_refl _,by show(Ak c a b).2.2<=b.2.1; lia,Int.le_refl _,by show(Ak c a b).2.1<=b.2.2.2; lia⟩,.inl ⟨Int.le_refl _,Int.le_refl _⟩⟩
    ·cases e
  have b8:S1 (DO (DW c a b)) b:=⟨s,t,a2,a9⟩
  refine⟨λd e=>?_,λd e=>?_,?_,λe f h K L B D r=>?_⟩
  ·rcases List.mem_append.mp e with e |e
   ·exact F7 l q d e
   ·exact m.box d (.tail _ e)
  ·rcases List.mem_append.mp e with e |e
   ·exact m.blk d e
   ·rw[List.mem_singleton.mp e]
    exact⟨b7,by show 0<=(Ak c a b).2.2; lia,by show(Ak c a b).2.2+(Ak c a b).1<=c.length; exact Int.le_trans ‹_› ‹_›,by show 0<=(Ak c a b).2.1; exact Int.le_trans ‹_› ‹_›,by show(Ak c a b).2.1+(Ak c a b).1<=a.length; exact Int.le_trans ‹_› ‹_›,p.eq⟩
  ·rw[List.map_append,List.append_assoc]
   have b6:(Bg c a b++(v++(g.map DO++[DO (DW c a b)]))).Perm (DO (DW c a b)::(Bg c a b++(v++g.map DO))):=by
    rw[<-List.append_assoc,<-List.append_assoc,<-List.append_assoc]
    exact List.perm_append_comm (l₂:=[_])
   refine(b6.pairwise_iff (λk=>FY.symm k)).mpr ?_
   refine List.pairwise_cons.mpr ⟨λd e=>?_,?_⟩
   ·rcases List.mem_append.mp e with e |e
    ·exact(b0 d e).2.symm
    ·exact(b1 d e).ins b8
   ·refine List.pairwise_append.mpr ⟨?_,b2,λd e a7 hd=>(b1 a7 hd).ins (b0 d e).1⟩
    unfold Bg
    refine List.pairwise_append.mpr ⟨?_,?_,λd e a7 hd=>?_⟩
    ·split <;> simp
    ·split <;> simp
    ·split at e
     ·split at hd
      ·rw[List.mem_singleton.mp e,List.mem_singleton.mp hd]
       exact .inr ⟨by show(Ak c a b).2.2<=(Ak c a b).2.2+(Ak c a b).1; lia,by show(Ak c a b).2.1<=(Ak c a b).2.1+(Ak c a b).1; lia⟩
      ·cases hd
     ·cases e
  ·rcases m.cov e f h K L B D r with⟨d,z,y⟩ |⟨d,z,y⟩
   ·exact .inl ⟨d,List.mem_append_left _ z,y⟩
   ·rcases List.mem_cons.mp z with rfl |z
    ·obtain⟨b9,c0,c1,c2⟩:=y
     by_cases a6:f<(Ak c a d).2.2
     ·-- before the block
      have M:=p.eq 0 (Int.le_refl _) (by show 0<(Ak c a d).1; assumption)
      rw[Int.add_zero,Int.add_zero] at M
      have T:=(e f h (Ak c a d).2.2 (Ak c a d).2.1 K L B D (by lia) (by lia) (by exact Int.le_trans ‹_› ‹_›) (by lia) r M).mp a6
      refine .inr ⟨(d.1,(Ak c a d).2.2,d.2.2.1,(Ak c a d).2.1),List.mem_append_left _ ?_,⟨b9,a6,c1,T⟩⟩
      unfold Bg
      refine List.mem_append_right _ ?_
      rw[if_pos ⟨by lia,by lia⟩]
      exact List.mem_singleton.mpr rfl
     ·by_cases b4:f<(Ak c a d).2.2+(Ak c a d).1
      ·have M:=p.eq (f-(Ak c a d).2.2) (by lia) (by show f-(Ak c a d).2.2<(Ak c a d).1; lia)
       have a8:Ao c ((Ak c a d).2.2+(f-(Ak c a d).2.2))=Ao c f:=by rw[show(Ak c a d).2.2+(f-(Ak c a d).2.2)=f by lia]
       have T:h=(Ak c a d).2.1+(f-(Ak c a d).2.2):=JA l B D (by lia) (by lia) (r.symm.trans (a8.symm.trans M))
       exact .inl ⟨DW c a d,List.mem_append_right _ (List.mem_singleton.mpr rfl),⟨by show(Ak c a d).2.2<=f; lia,b4,T⟩⟩
      ·have M:=p.eq ((Ak c a d).1-1) (by lia) (by show(Ak c a d).1-1<(Ak c a d).1; lia)
       have T:=(e ((Ak c a d).2.2+((Ak c a d).1-1)) ((Ak c a d).2.1+((Ak c a d).1-1)) f h (by lia) (by lia) (by lia) (by lia) K L B D M r).mp (by lia)
       refine .inr ⟨((Ak c a d).2.2+(Ak c a d).1,d.2.1,(Ak c a d).2.1+(Ak c a d).1,d.2.2.2),List.mem_append_left _ ?_,⟨by show(Ak c a d).2.2+(Ak c a d).1<=f; lia,c0,by show(Ak c a d).2.1+(Ak c a d).1<=h; lia,c2⟩⟩
       unfold Bg
       refine List.mem_append_left _ ?_
       rw[if_pos ⟨by lia,by lia⟩]
       exact List.mem_singleton.mpr rfl
    ·exact .inr ⟨d,List.mem_append_right _ z,y⟩
theorem Jp{c a:List (Str×Nat)}(l:(a.map (·.1)).Nodup):∀(n:Nat) {v:List Q4} {g:List Bk},DZ v<=n->QI c a v g->QI c a [] (qF c a n v g)
 |0,v,g,a4,m=>by
  have:v=[]:=by
   cases v with
   |nil=>rfl
   |cons b v=>have:=G6 (b::v); simp only[List.length_cons] at this; lia
  subst this; exact m
 |n+1,[],g,a4,m=>m
 |n+1,b::v,g,a4,m=>by
  have Q:=m.step l
  have d1:2*(b.2.1-b.1).toNat+1+DZ v<=n+1:=a4
  show QI c a [] (if(Ak c a b).1=0 then qF c a n v g else qF c a n (Bg c a b++v) (g++[DW c a b]))
  by_cases k:(Ak c a b).1=0
  ·rw[if_pos k,if_pos k] at Q
   rw[if_pos k]
   exact Jp l n (by lia) Q
  ·rw[if_neg k,if_neg k] at Q
   rw[if_neg k]
   have d0:=GC l (m.box b (.head _)) k
   exact Jp l n (by rw[DX]; lia) Q
theorem JV{c a:List (Str×Nat)}(l:(a.map (·.1)).Nodup)(s:c.length<=100)(t:a.length<=100):QI c a [] (BK c a):=by
 have b3:QI c a [((0:Int),((c.length:Nat):Int),(0:Int),((a.length:Nat):Int))] []:=by
  refine⟨λb E=>?_,λb E=>(nomatch E),List.pairwise_singleton _ _,λ_ f h K L B D _=>.inr ⟨_,List.mem_singleton.mpr rfl,?_⟩⟩
  ·rw[List.mem_singleton.mp E]
   exact NU s t
  ·exact⟨K,L,B,D⟩
 exact Jp l _ (by simp[DZ]) b3
theorem Ib{c a:List (Str×Nat)}(l:(a.map (·.1)).Nodup)(s:c.length<=100)(t:a.length<=100):((BK c a).map (·.1)).Nodup:=by
 have m:=JV l s t
 have a5:(BK c a).Pairwise λi b=>FY (DO i) (DO b):=List.pairwise_map.mp m.sep
 refine List.pairwise_map.mpr (List.Pairwise.imp_of_mem (λ{i b} a3 E k r=>?_) a5)
 have d2:=(m.blk i a3).pos
 have d3:=(m.blk b E).pos
 rcases k with⟨P,_⟩ |⟨P,_⟩
 ·have:i.1+i.2.2<=b.1:=P
  lia
 ·have:b.1+b.2.2<=i.1:=P
  lia
theorem Kf{c a:List (Str×Nat)}(l:(a.map (·.1)).Nodup)(s:c.length<=63)(t:a.length<=100):(BK c a).length<64:=by
 have:=Jl l (2*c.length+1) [(0,(c.length:Nat),0,(a.length:Nat))] [] (λb E=>by
  rw[List.mem_singleton.mp E]
  exact NU (by lia) t)
 have r:wd [(0,((c.length:Nat):Int),0,((a.length:Nat):Int))]=c.length:=by simp[wd]
 rw[r] at this
 show(qF c a _ _ _).length<64
 simp only[List.length_nil] at this
 lia
end
section
noncomputable abbrev J2(H:Bd)(a:List Nat)(a7:Nat):Cy:=(W 0 a a7,H,W 0 a (a7+1),W 0 a (a7+2),W 0 a (a7+3),W 0 a (a7+4),W 0 a (a7+5))
noncomputable def r6(K:Cy):List Nat:=[K.1,K.2.2.1,K.2.2.2.1,K.2.2.2.2.1,K.2.2.2.2.2.1,K.2.2.2.2.2.2]
theorem ML{c1:List Cy}{H Q:Bd}{N:List Bd}(M:c1.map (·.2.1)=H::(N++[Q])):∃K P a9,c1=K::(P++[a9])/\K.2.1=H/\P.map (·.2.1)=N/\a9.2.1=Q:=by
 cases c1 with
 |nil=>simp at M
 |cons K c1=>
  rw[List.map_cons] at M
  injection M with h1 h2
  obtain⟨P,a8,b0,c8,c9⟩:=List.map_eq_append_iff.mp h2
  obtain⟨a9,d4,d0,d1,d2⟩:=List.map_eq_cons_iff.mp c9
  have:d4=[]:=List.map_eq_nil_iff.mp d2
  subst this
  exact⟨K,P,a9,by rw[b0,d0],h1,c8,d1⟩
section
variable(G:Params)(E i g h z B e f k:Nat)(l:Nat->Nat)(D:Nat)(c:List (Str×Nat))(b:List Bt)
noncomputable def K9(H Q:Bd)(N:List Bd):Spec:=
 {code:=.call (.ref 210) ⟨[.ref E],[]⟩,nf:=16,d:=600,pool:=true,pre:=bP 0 b,post:=λa=>oP (Ac N (W 0 a 2)),
  fp:=[(E,Ba i),(i,Bb G l g h e f k .none .none),(g,I (J c) z),(h,I (J (U b)) B),(e,A5 (bE G b) D),(f,Ad G)],
  upd:=λa=>[Ba i,Bb G l g h e f k (.ref (W 0 a 3)) (.ref (W 0 a 0)),I (J c) z,I (J (U b)) B,A5 (bE G b) D,Ad G],
  new:=λa=>[(W 0 a 0,I (.ref (W 0 a 4)::(A3 (Ac N (W 0 a 2))++[.ref (W 0 a 10)])) (W 0 a 1)),(W 0 a 4,Ar (J2 H a 4)),(W 0 a 10,Ar (J2 Q a 10))],res:=λa=>.ok (.ret (.ref (W 0 a 0)))}
noncomputable def PB(H:Bd):Spec:=
 {code:=.call (.ref 210) ⟨[.ref E],[]⟩,nf:=9,d:=600,pool:=true,pre:=bP 0 b,post:=λa=>[],
  fp:=[(E,Ba i),(i,Bb G l g h e f k .none .none),(g,I (J c) z),(h,I (J (U b)) B),(e,A5 (bE G b) D),(f,Ad G)],
  upd:=λa=>[Ba i,Bb G l g h e f k (.ref (W 0 a 2)) (.ref (W 0 a 0)),I (J c) z,I (J (U b)) B,A5 (bE G b) D,Ad G],
  new:=λa=>[(W 0 a 0,I [.ref (W 0 a 3)] (W 0 a 1)),(W 0 a 3,Ar (J2 H a 3))],res:=λa=>.ok (.ret (.ref (W 0 a 0)))}
noncomputable def Rm:Spec:=
 {code:=.call (.ref 210) ⟨[.ref E],[]⟩,nf:=3,d:=600,pool:=true,pre:=bP 0 b,post:=λa=>[],
  fp:=[(E,Ba i),(i,Bb G l g h e f k .none .none),(g,I (J c) z),(h,I (J (U b)) B),(e,A5 (bE G b) D),(f,Ad G)],
  upd:=λa=>[Ba i,Bb G l g h e f k (.ref (W 0 a 2)) (.ref (W 0 a 0)),I (J c) z,I (J (U b)) B,A5 (bE G b) D,Ad G],
  new:=λa=>[(W 0 a 0,I [] (W 0 a 1))],res:=λa=>.ok (.ret (.ref (W 0 a 0)))}
end
section
variable{E i g h z B e f k:Nat}{l:Nat->Nat}{D:Nat}{c:List (Str×Nat)}{b:List Bt}(a0:((U b).map (·.1)).Nodup)(b9:c.length<=63)(c0:b.length<=63)
include O a0 b9 c0
theorem HA:(Uk w.params E i g h z B e f k l D c b).Ok (V w j o u):=by
 have d8:(U b).length=b.length:=by simp[U]
 exact Qo O a0 (by lia) (by lia) (Ib a0 (by lia) (by lia)) (Kf a0 (by omega) (by lia))
theorem Gr{H Q:Bd}{N:List Bd}(M:Bs c (U b)=H::(N++[Q])):(K9 w.params E i g h z B e f k l D c b H Q N).Ok (V w j o u):=
 ⟨Spec.lenOk rfl λ_=>rfl,λ_=>rfl,λA b3 F b8 R b6 b4 b2 a8=>(HA O a0 b9 c0 (E:=E) (i:=i) (g:=g) (h:=h) (z:=z) (B:=B) (e:=e) (f:=f) (k:=k) (l:=l) (D:=D)).run A b3 F b8 R b6 (λa T d5 b7=>by
  obtain⟨K,P,a9,b0,b1,d7,d3⟩:=ML (H:=H) (Q:=Q) (N:=N) (by rw[D6 (Bs c (U b)) (W 0 a 2)]; exact M)
  obtain⟨d6,en⟩:=GF P
  rw[d7] at en
  obtain⟨L,a6,a1,a2,a3,a4,a5⟩:=K
  obtain⟨X,c7,c2,c3,c4,c5,c6⟩:=a9
  have b1:a6=H:=b1
  have d3:c7=Q:=d3
  subst b1 d3
  refine b4 [W 0 a 0,W 0 a 1,d6,W 0 a 3,L,a1,a2,a3,a4,a5,X,c2,c3,c4,c5,c6] T rfl ?_
  have S:RepF (V w j o u) ([(E,Ba i),(i,Bb w.params l g h e f k (.ref (W 0 a 3)) (.ref (W 0 a 0))),(g,I (J c) z),(h,I (J (U b)) B),(e,A5 (bE w.params b) D),(f,Ad w.params),(W 0 a 0,I (A3 (Ac (Bs c (U b)) (W 0 a 2))) (W 0 a 1))]++oP (Ac (Bs c (U b)) (W 0 a 2))) [] F T:=b7
  rw[b0] at S
  have c8:A3 ((L,a6,a1,a2,a3,a4,a5)::(P++[(X,c7,c2,c3,c4,c5,c6)])) = .ref L::(A3 P++[.ref X]):=by simp[A3]
  have c9:oP ((L,a6,a1,a2,a3,a4,a5)::(P++[(X,c7,c2,c3,c4,c5,c6)]))=(L,Ar (L,a6,a1,a2,a3,a4,a5))::(oP P++[(X,Ar (X,c7,c2,c3,c4,c5,c6))]):=by simp[oP]
  rw[c8,c9,<-en] at S
  refine RepF.perm S ?_
  refine List.Perm.append_left [(E,Ba i),(i,Bb w.params l g h e f k (.ref (W 0 a 3)) (.ref (W 0 a 0))),(g,I (J c) z),(h,I (J (U b)) B),(e,A5 (bE w.params b) D),(f,Ad w.params),(W 0 a 0,I (.ref L::(A3 (Ac N d6)++[.ref X])) (W 0 a 1)),(L,Ar (L,a6,a1,a2,a3,a4,a5))] ?_
  exact List.perm_append_comm (l₁:=[_])) b2 a8⟩
theorem JO{H:Bd}(M:Bs c (U b)=[H]):(PB w.params E i g h z B e f k l D c b H).Ok (V w j o u):=
 ⟨Spec.lenOk rfl λ_=>rfl,λ_=>rfl,λA b3 F b8 R b6 b4 b2 a8=>(HA O a0 b9 c0 (E:=E) (i:=i) (g:=g) (h:=h) (z:=z) (B:=B) (e:=e) (f:=f) (k:=k) (l:=l) (D:=D)).run A b3 F b8 R b6 (λa T d5 b7=>by
  have b5:=D6 (Bs c (U b)) (W 0 a 2)
  rw[M] at b5
  obtain⟨K,d4,d0,d1,d2⟩:=List.map_eq_cons_iff.mp b5
  have:d4=[]:=List.map_eq_nil_iff.mp d2
  subst this
  obtain⟨L,a6,a1,a2,a3,a4,a5⟩:=K
  have b1:a6=H:=d1
  subst b1
  refine b4 [W 0 a 0,W 0 a 1,W 0 a 3,L,a1,a2,a3,a4,a5] T rfl ?_
  have S:RepF (V w j o u) ([(E,Ba i),(i,Bb w.params l g h e f k (.ref (W 0 a 3)) (.ref (W 0 a 0))),(g,I (J c) z),(h,I (J (U b)) B),(e,A5 (bE w.params b) D),(f,Ad w.params),(W 0 a 0,I (A3 (Ac (Bs c (U b)) (W 0 a 2))) (W 0 a 1))]++oP (Ac (Bs c (U b)) (W 0 a 2))) [] F T:=b7
  rw[M,d0] at S
  exact S) b2 a8⟩
theorem OR(M:Bs c (U b)=[]):(Rm w.params E i g h z B e f k l D c b).Ok (V w j o u):=
 ⟨Spec.lenOk rfl λ_=>rfl,λ_=>rfl,λA b3 F b8 R b6 b4 b2 a8=>(HA O a0 b9 c0 (E:=E) (i:=i) (g:=g) (h:=h) (z:=z) (B:=B) (e:=e) (f:=f) (k:=k) (l:=l) (D:=D)).run A b3 F b8 R b6 (λa T d5 b7=>by
  have b5:=D6 (Bs c (U b)) (W 0 a 2)
  rw[M] at b5
  refine b4 [W 0 a 0,W 0 a 1,W 0 a 3] T rfl ?_
  have S:RepF (V w j o u) ([(E,Ba i),(i,Bb w.params l g h e f k (.ref (W 0 a 3)) (.ref (W 0 a 0))),(g,I (J c) z),(h,I (J (U b)) B),(e,A5 (bE w.params b) D),(f,Ad w.params),(W 0 a 0,I (A3 (Ac (Bs c (U b)) (W 0 a 2))) (W 0 a 1))]++oP (Ac (Bs c (U b)) (W 0 a 2))) [] F T:=b7
  have b0:Ac (Bs c (U b)) (W 0 a 2)=[]:=by rw[M]; exact List.map_eq_nil_iff.mp b5
  rw[b0] at S
  exact S) b2 a8⟩
end
end
section
noncomputable def EE(c g k:Nat)(b:Value)(a:List Value)(e:Value):Spec:={code:=.call (.builtin "list.__getitem__") ⟨[.ref c,.int (Int.negSucc 0) k],[]⟩,fp:=[(c,I (b::(a++[e])) g)],upd:=λ_=>[I (b::(a++[e])) g],res:=λ_=>.ok (.ret e),d:=10}
noncomputable def L4(c g k:Nat)(b:Value)(a:List Value)(e h:Value):Spec:={code:=.call (.builtin "list.__setitem__") ⟨[.ref c,.int (Int.negSucc 0) k,h],[]⟩,fp:=[(c,I (b::(a++[e])) g)],upd:=λ_=>[I (b::(a++[h])) g],res:=λ_=>.ok (.ret .none),d:=10}
noncomputable def Hr(c g k:Nat)(b:Value)(a:List Value)(h:Value):Spec:={code:=.call (.builtin "list.__setitem__") ⟨[.ref c,.int 0 k,h],[]⟩,fp:=[(c,I (b::a) g)],upd:=λ_=>[I (h::a) g],res:=λ_=>.ok (.ret .none),d:=10}
theorem FM(b:Value)(a:List Value)(e:Value):seqIndex? (Int.negSucc 0) (⟨b::(a++[e])⟩:Array Value).size=some (a.length+1):=by
 rw[PySem.seqIndex_neg (by decide) (by simp; lia)]
 simp
 lia
section
variable{t:Cx}(y:t.Ok){c g k:Nat}{a:List Value}{e b h:Value}
include y
theorem CZ:(EE c g k b a e).Ok t:=Spec.of_call rfl (λ_=>rfl) (λ_=>rfl) λA D B i z q p=>by
 have l:=RepF.get0 q
 have x:=p [] i e rfl rfl q
 clear p
 generalize m:Int.negSucc 0=k0
 have n:k0<0:=by rw[<-m]; decide
 refine wpAny_call_entry slot_list_getitem ⟨_,l,rfl⟩ entry_list_getitem ?_ (args_list_getitem _ _)
 show wpAny _ _ (Builtin.List.listSubscript? (.int k0 k)>>=_) _ _ i
 refine wpAny_bind (wpAny_listSubscript_int (fitsIndex_neg n (by rw[<-m]; decide)) ?_)
 clear n
 subst m
 show wpAny _ _ ((Builtin.List.listItems (.ref c)>>=λa=>pure ((seqIndex? (Int.negSucc 0) a.size).bind λs=>a[s]?.map (s,·)))>>=_) _ _ i
 refine wpAny_bind (wpAny_bind ?_)
 show wpAny _ _ (seqItems? (.ref c)>>=_) _ _ i
 refine wpAny_bind (wpAny_seqItems l rfl (wpAny_pure (wpAny_pure ?_)))
 rw[FM]
 have:(⟨b::(a++[e])⟩:Array Value)[a.length+1]?=some e:=by simp
 simp only[Option.bind_some,this,Option.map_some]
 exact wpAny_pure ⟨e,rfl,x⟩
theorem IJ:(L4 c g k b a e h).Ok t:=Spec.of_call rfl (λ_=>rfl) (λ_=>rfl) λA D B i z q p=>by
 have l:=RepF.get0 q
 generalize m:Int.negSucc 0=k0
 have n:k0<0:=by rw[<-m]; decide
 refine wpAny_call_entry slot_list_setitem ⟨_,l,rfl⟩ entry_list_setitem ?_ (args_list_setitem _ _ _)
 show wpAny _ _ (Builtin.List.listSubscript? (.int k0 k)>>=_) _ _ i
 refine wpAny_bind (wpAny_listSubscript_int (fitsIndex_neg n (by rw[<-m]; decide)) ?_)
 clear n
 subst m
 show wpAny _ _ ((Builtin.List.listItems (.ref c)>>=λa=>pure ((seqIndex? (Int.negSucc 0) a.size).bind λs=>a[s]?.map (s,·)))>>=_) _ _ i
 refine wpAny_bind (wpAny_bind ?_)
 show wpAny _ _ (seqItems? (.ref c)>>=_) _ _ i
 refine wpAny_bind (wpAny_seqItems l rfl (wpAny_pure (wpAny_pure ?_)))
 rw[FM]
 have:(⟨b::(a++[e])⟩:Array Value)[a.length+1]?=some e:=by simp
 simp only[Option.bind_some,this,Option.map_some]
 show wpAny _ _ (setSeqItemAt c (a.length+1) h>>=_) _ _ i
 have r:=RepF.upd0 y q (x:=Obj.mapSeq λb=>b.setIfInBounds (a.length+1) h) rfl
 rw[J0 (b::(a++[e])) g _ (b::(a++[h])) (by simp) (by simp)] at r
 refine wpAny_bind (wpAny_setSeqItemAt l rfl ?_)
 first
  |exact wpAny_bind (wpAny_pure (wpAny_pure ⟨.none,rfl,p [] _ _ rfl rfl r⟩))
  |exact wpAny_pure ⟨.none,rfl,p [] _ _ rfl rfl r⟩
theorem F8:(Hr c g k b a h).Ok t:=Spec.of_call rfl (λ_=>rfl) (λ_=>rfl) λA D B i z q p=>by
 have l:=RepF.get0 q
 have r:=RepF.upd0 y q (x:=Obj.mapSeq λb=>b.setIfInBounds 0 h) rfl
 rw[J0 (b::a) g _ (h::a) (by simp) (by simp)] at r
 have x:=p [] _ .none rfl rfl r
 clear p
 generalize m:(0:Int)=k0
 have n:0<=k0:=by lia
 refine wpAny_call_entry slot_list_setitem ⟨_,l,rfl⟩ entry_list_setitem ?_ (args_list_setitem _ _ _)
 show wpAny _ _ (Builtin.List.listSubscript? (.int k0 k)>>=_) _ _ i
 refine wpAny_bind (wpAny_listSubscript_int (fitsIndex_of n (by lia)) ?_)
 clear n
 subst m
 show wpAny _ _ ((seqItemAt c 0>>=λE=>pure (E.map (0,·)))>>=_) _ _ i
 refine wpAny_bind (wpAny_bind (wpAny_seqItemAt l rfl (wpAny_pure ?_)))
 show wpAny _ _ (setSeqItemAt c 0 h>>=_) _ _ i
 refine wpAny_bind (wpAny_setSeqItemAt l rfl ?_)
 first
  |exact wpAny_bind (wpAny_pure (wpAny_pure ⟨.none,rfl,x⟩))
  |exact wpAny_pure ⟨.none,rfl,x⟩
end
end
section
inductive Fz(b4:Params):List DictEntry->Prop
 |mk (a5 a6 a7 a8 a9:Nat) (e:Str) (i k m n:Int) (b7 b8 b9 c0 c1:Nat):Fz b4 (t5 b4 a5 a6 a7 a8 a9 e i k m n b7 b8 b9 c0 c1)
noncomputable def CL(t:Bool)(b4:Params)(K L M Y N S:Nat)(Q:Int)(T a:Nat)(z:Int)(B d:Nat)(E:List DictEntry)(P:Nat):Obj:=match t with
 |true=>VX b4 K L M Y N S Q T a z B d E P
 |false=>Vc b4 K L M Y N S Q T a z B d E P
noncomputable def Bj:List Nat:=[101,113,117,97,108]
section
variable{f c K L M Y N S:Nat}{Q:Int}{T a:Nat}{z:Int}{B d P G a0:Nat}{h H y:List Value}{g:Nat}{e:Str}{i k m n:Int}{l p q r s:Nat}{t:Bool}{E:List DictEntry}
include O
theorem VT(b6:Fz w.params E∨t=false/\E=[])(d4:y.length<sizeLine-5)(c3:(e.cps.toList==Bj)=true)(d3:¬ k-i>z)(c4:Room 400 A)(a2:RepF (V w j o u) [(f,CL t w.params K L M Y N S Q T a z B d E P),(c,A6 a h.length),(a,I (h ++ .ref g::H) G),(d,I y a0),(g,Aa [.str e l,.int i p,.int k q,.int m r,.int n s])] [] F v)(a1:∀X a4 (b1 b3 a3:Nat),Fz w.params a4->RepF (V w j o u) [(f,CL t w.params K L M Y N S Q T a z B d a4 b1),(c,A6 a (h.length+1)),(a,I (h ++ .ref g::H) G),(d,I (y++[.ref a3]) b3),(g,Aa [.str e l,.int i p,.int k q,.int m r,.int n s]),(a3,Aa [.str e l,.int i p,.int k q,.int m r,.int n s])] [] F X->codeAny (model pw w) A (DL f c) R X):codeAny (model pw w) A (DL f c) R v:=by
 have b2:∀(t:Bool) (E:List DictEntry) (b0:(Nat->Nat)->List DictEntry) (b5:Nat),(∀b,Fz w.params (b0 b)) ->
   (qA w.params (V w j o u).kt 400 221 (DL f c) (D (DL f c)) [(f,CL t w.params K L M Y N S Q T a z B d E P),(c,A6 a h.length),(a,I (h ++ .ref g::H) G),(d,I y a0),(g,Aa [.str e l,.int i p,.int k q,.int m r,.int n s])] [] [] [] [2,1,2,5,5,5,1,0,5,6,6,0,6,6,6,5,6,6,6,0,6,6,6,5,6,6,6,0,6,6,6,5,6,6,6,0,6,6,6,5,6,6,6,0,6,6,6,5,6,6,6,0,6,6,6,5,6,6,8,0,1,1,0,1,1,0,1,1,0,1,1,0,1,1,1,1,1,1,1,0,1,1,1,1,4,4,4,4,1,1,1,1,1,1,1] [(λx=>AX c a h (Value.ref g) H G,[1,2],[]),(λx=>AY e ⟨⟨Bj⟩⟩ l (C x 8) true,[],[]),(λx=>Cq (k-i) z (C x 9) B false,[],[]),(λx=>AJ d y a0 (Value.ref (C x 10)),[3],[])] [0,1,2,3,4,8] []=qB w.params (V w j o u).kt 400 221 (DL f c) (D (DL f c)) [(f,CL t w.params K L M Y N S Q T a z B d E P),(c,A6 a h.length),(a,I (h ++ .ref g::H) G),(d,I y a0),(g,Aa [.str e l,.int i p,.int k q,.int m r,.int n s])] [] [] [] [2,1,2,5,5,5,1,0,5,6,6,0,6,6,6,5,6,6,6,0,6,6,6,5,6,6,6,0,6,6,6,5,6,6,6,0,6,6,6,5,6,6,6,0,6,6,6,5,6,6,6,0,6,6,6,5,6,6,8,0,1,1,0,1,1,0,1,1,0,1,1,0,1,1,1,1,1,1,1,0,1,1,1,1,4,4,4,4,1,1,1,1,1,1,1] [(λx=>AX c a h (Value.ref g) H G,[1,2],[]),(λx=>AY e ⟨⟨Bj⟩⟩ l (C x 8) true,[],[]),(λx=>Cq (k-i) z (C x 9) B false,[],[]),(λx=>AJ d y a0 (Value.ref (C x 10)),[3],[])] (λ_=>.again (DL f c)) (λb=>[(f,CL t w.params K L M Y N S Q T a z B d (b0 b) b5),(c,A6 a (h.length+1)),(a,I (h ++ .ref g::H) G),(d,I (y++[.ref (b 10)]) (a0+1)),(g,Aa [.str e l,.int i p,.int k q,.int m r,.int n s]),(b 10,Aa [.str e l,.int i p,.int k q,.int m r,.int n s])]) (λ_=>[]) (λ_=>[])) ->
   RepF (V w j o u) [(f,CL t w.params K L M Y N S Q T a z B d E P),(c,A6 a h.length),(a,I (h ++ .ref g::H) G),(d,I y a0),(g,Aa [.str e l,.int i p,.int k q,.int m r,.int n s])] [] F v->(∀X a4 (b1 b3 a3:Nat),Fz w.params a4->RepF (V w j o u) [(f,CL t w.params K L M Y N S Q T a z B d a4 b1),(c,A6 a (h.length+1)),(a,I (h ++ .ref g::H) G),(d,I (y++[.ref a3]) b3),(g,Aa [.str e l,.int i p,.int k q,.int m r,.int n s]),(a3,Aa [.str e l,.int i p,.int k q,.int m r,.int n s])] [] F X->codeAny (model pw w) A (DL f c) R X)->codeAny (model pw w) A (DL f c) R v:=λt E b0 b5 c6 c2 a2 a1=>
  run_code O c4 (Mf (Av O) (Ai O c3) (AW O (decide_eq_false d3)) (Ag O (by omega))) c2 a2 λb X c7=>a1 X _ _ _ _ (c6 b) c7
 cases t with
 |true=>
  rcases b6 with⟨a5,a6,a7,a8,a9,d2,c8,c9,d0,d1,b7,b8,b9,c0,c1⟩ |⟨c5,_⟩
  ·exact b2 true _ (λ_=>t5 w.params a5 a6 a7 a8 a9 e i k m n l p q r s) P (λ_=>.mk ..) (by kernel_rfl) a2 a1
  ·cases c5
 |false=>
  rcases b6 with⟨a5,a6,a7,a8,a9,d2,c8,c9,d0,d1,b7,b8,b9,c0,c1⟩ |⟨_,rfl⟩
  ·exact b2 false _ (λ_=>t5 w.params a5 a6 a7 a8 a9 e i k m n l p q r s) P (λ_=>.mk ..) (by kernel_rfl) a2 a1
  ·exact b2 false _ (λb=>t5 w.params (b 3) (b 4) (b 5) (b 6) (b 7) e i k m n l p q r s) (P+5) (λ_=>.mk ..) (by kernel_rfl) a2 a1
theorem VJ(b6:Fz w.params E∨t=false/\E=[])(d4:y.length<sizeLine-5)(c3:(e.cps.toList==Bj)=false)(c4:Room 400 A)(a2:RepF (V w j o u) [(f,CL t w.params K L M Y N S Q T a z B d E P),(c,A6 a h.length),(a,I (h ++ .ref g::H) G),(d,I y a0),(g,Aa [.str e l,.int i p,.int k q,.int m r,.int n s])] [] F v)(a1:∀X a4 (b1 b3 a3:Nat),Fz w.params a4->RepF (V w j o u) [(f,CL t w.params K L M Y N S Q T a z B d a4 b1),(c,A6 a (h.length+1)),(a,I (h ++ .ref g::H) G),(d,I (y++[.ref a3]) b3),(g,Aa [.str e l,.int i p,.int k q,.int m r,.int n s]),(a3,Aa [.str e l,.int i p,.int k q,.int m r,.int n s])] [] F X->codeAny (model pw w) A (DL f c) R X):codeAny (model pw w) A (DL f c) R v:=by
 have b2:∀(t:Bool) (E:List DictEntry) (b0:(Nat->Nat)->List DictEntry) (b5:Nat),(∀b,Fz w.params (b0 b)) ->
   (qA w.params (V w j o u).kt 400 207 (DL f c) (D (DL f c)) [(f,CL t w.params K L M Y N S Q T a z B d E P),(c,A6 a h.length),(a,I (h ++ .ref g::H) G),(d,I y a0),(g,Aa [.str e l,.int i p,.int k q,.int m r,.int n s])] [] [] [] [2,1,2,5,5,5,1,0,5,6,6,0,6,6,6,5,6,6,6,0,6,6,6,5,6,6,6,0,6,6,6,5,6,6,6,0,6,6,6,5,6,6,6,0,6,6,6,5,6,6,6,0,6,6,6,5,6,6,8,0,1,1,0,1,1,0,1,1,0,1,1,0,1,1,1,1,1,1,4,4,4,4,1,1,1,1,1,1,1] [(λx=>AX c a h (Value.ref g) H G,[1,2],[]),(λx=>AY e ⟨⟨Bj⟩⟩ l (C x 8) false,[],[]),(λx=>AJ d y a0 (Value.ref (C x 9)),[3],[])] [0,1,2,3,4,8] []=qB w.params (V w j o u).kt 400 207 (DL f c) (D (DL f c)) [(f,CL t w.params K L M Y N S Q T a z B d E P),(c,A6 a h.length),(a,I (h ++ .ref g::H) G),(d,I y a0),(g,Aa [.str e l,.int i p,.int k q,.int m r,.int n s])] [] [] [] [2,1,2,5,5,5,1,0,5,6,6,0,6,6,6,5,6,6,6,0,6,6,6,5,6,6,6,0,6,6,6,5,6,6,6,0,6,6,6,5,6,6,6,0,6,6,6,5,6,6,6,0,6,6,6,5,6,6,8,0,1,1,0,1,1,0,1,1,0,1,1,0,1,1,1,1,1,1,4,4,4,4,1,1,1,1,1,1,1] [(λx=>AX c a h (Value.ref g) H G,[1,2],[]),(λx=>AY e ⟨⟨Bj⟩⟩ l (C x 8) false,[],[]),(λx=>AJ d y a0 (Value.ref (C x 9)),[3],[])] (λ_=>.again (DL f c)) (λb=>[(f,CL t w.params K L M Y N S Q T a z B d (b0 b) b5),(c,A6 a (h.length+1)),(a,I (h ++ .ref g::H) G),(d,I (y++[.ref (b 9)]) (a0+1)),(g,Aa [.str e l,.int i p,.int k q,.int m r,.int n s]),(b 9,Aa [.str e l,.int i p,.int k q,.int m r,.int n s])]) (λ_=>[]) (λ_=>[])) ->
   RepF (V w j o u) [(f,CL t w.params K L M Y N S Q T a z B d E P),(c,A6 a h.length),(a,I (h ++ .ref g::H) G),(d,I y a0),(g,Aa [.str e l,.int i p,.int k q,.int m r,.int n s])] [] F v->(∀X a4 (b1 b3 a3:Nat),Fz w.params a4->RepF (V w j o u) [(f,CL t w.params K L M Y N S Q T a z B d a4 b1),(c,A6 a (h.length+1)),(a,I (h ++ .ref g::H) G),(d,I (y++[.ref a3]) b3),(g,Aa [.str e l,.int i p,.int k q,.int m r,.int n s]),(a3,Aa [.str e l,.int i p,.int k q,.int m r,.int n s])] [] F X->codeAny (model pw w) A (DL f c) R X)->codeAny (model pw w) A (DL f c) R v:=λt E b0 b5 c6 c2 a2 a1=>
  run_code O c4 (GH (Av O) (Ai O c3) (Ag O (by omega))) c2 a2 λb X c7=>a1 X _ _ _ _ (c6 b) c7
 cases t with
 |true=>
  rcases b6 with⟨a5,a6,a7,a8,a9,d2,c8,c9,d0,d1,b7,b8,b9,c0,c1⟩ |⟨c5,_⟩
  ·exact b2 true _ (λ_=>t5 w.params a5 a6 a7 a8 a9 e i k m n l p q r s) P (λ_=>.mk ..) (by kernel_rfl) a2 a1
  ·cases c5
 |false=>
  rcases b6 with⟨a5,a6,a7,a8,a9,d2,c8,c9,d0,d1,b7,b8,b9,c0,c1⟩ |⟨_,rfl⟩
  ·exact b2 false _ (λ_=>t5 w.params a5 a6 a7 a8 a9 e i k m n l p q r s) P (λ_=>.mk ..) (by kernel_rfl) a2 a1
  ·exact b2 false _ (λb=>t5 w.params (b 3) (b 4) (b 5) (b 6) (b 7) e i k m n l p q r s) (P+5) (λ_=>.mk ..) (by kernel_rfl) a2 a1
end
end
section
section
variable{x B L M N Y P X:Nat}{S:Int}{a0 a:Nat}{D:Int}{a1 h G:Nat}{l:Bool}
include O
theorem Sn{K:List Value}{g8:An}(c2:Room 400 A)(a3:RepF (V w j o u) ([(B,A6 a K.length),(a,I K G)]++g8) [] F v)(d5:∀a5,RepF (V w j o u) ([(B,B1 K.length),(a,I K G)]++g8) [] F a5->R (.ok .next) a5):codeAny (model pw w) A (DL x B) R v:=by
 have a3:=RepF.out a3 (List.Perm.refl _)
 exact Ck O c2 _ 60 0x10410c0 [(λg2=>Cm B a K G,[0,1],[])] [0,1] (Bo (Bw O)) (λ_=>[(B,B1 K.length),(a,I K G)]) a3
  λj6 a5 c3=>d5 a5 (RepF.into c3)
theorem Jc:∀(T H:List Cy) {E:List Cy} {a7 a8:Nat} {K:List DictEntry},(∀r∈T,¬ r.2.1.2.2.1-r.2.1.2.1>D)->(Fz w.params K∨l=false/\K=[])->E.length+T.length<1000->∀{A:Around},Room 400 A->∀{F:AK} {v:Shared} {R:RP},
  RepF (V w j o u) ([(x,CL l w.params L M N Y P X S a0 a D a1 h K a7),(B,A6 a (A3 H).length),(a,I (A3 H++A3 T) G),(h,I (A3 E) a8)]++(oP T++oP E)) [] F v ->
  (∀a5 (b0 b1:Nat) d4 (new:List Cy),new.map (·.2.1)=T.map (·.2.1)->(Fz w.params K∨T≠[]->Fz w.params d4) ->
   RepF (V w j o u) ([(x,CL l w.params L M N Y P X S a0 a D a1 h d4 b0),(h,I (A3 (E++new)) b1)]++oP (E++new)) [] F a5->R (.ok .next) a5) ->
  codeAny (model pw w) A (DL x B) R v:=by
 intro k0
 induction k0 with
 |nil=>
  intro H E a7 a8 K h4 h5 i1 A c2 F v R a3 d5
  have i8:A3 H++A3 []=A3 H:=List.append_nil _
  rw[i8] at a3
  refine Sn O c2 (F:=F) (K:=A3 H) (a:=a) (G:=G) (g8:=[(x,CL l w.params L M N Y P X S a0 a D a1 h K a7),(h,I (A3 E) a8)]++oP E) ?_ λa5 c3=>d5 a5 a7 a8 K [] rfl (λg0=>g0.elim id λg0=>absurd rfl g0) ?_
  ·exact RepF.ord [1,1] a3 rfl
  ·rw[List.append_nil]
   refine RepF.sub c3 ?_
   exact .cons _ (.cons _ (List.Sublist.refl _))
 |cons r T j9=>
  intro H E a7 a8 K h4 h5 i1 A c2 F v R a3 d5
  have j7:sizeLine=16777216:=sizeLine_eq
  simp only[List.length_cons] at i1
  have i6:(A3 E).length<sizeLine-5:=by rw[Fr]; omega
  have h3:=h4 r (List.mem_cons_self ..)
  have j3:∀r∈T,¬ r.2.1.2.2.1-r.2.1.2.1>D:=λr a3=>h4 r (List.mem_cons_of_mem _ a3)
  obtain⟨a4,⟨k,m,n,p,q⟩,b,c,e,f,g⟩:=r
  have h2:RepF (V w j o u) ([(x,CL l w.params L M N Y P X S a0 a D a1 h K a7),(B,A6 a (A3 H).length),(a,I (A3 H ++ .ref a4::A3 T) G),(h,I (A3 E) a8),(a4,Ar (a4,(k,m,n,p,q),b,c,e,f,g))]++(oP T++oP E)) [] F v:=a3
  have h9:=RepF.out h2 (List.Perm.refl _)
  have h8:∀a5 d4 (b0 b1 z:Nat),Fz w.params d4->RepF (V w j o u) [(x,CL l w.params L M N Y P X S a0 a D a1 h d4 b0),(B,A6 a ((A3 H).length+1)),(a,I (A3 H ++ .ref a4::A3 T) G),(h,I (A3 E++[.ref z]) b1),(a4,Ar (a4,(k,m,n,p,q),b,c,e,f,g)),(z,Ar (z,(k,m,n,p,q),b,c,e,f,g))] [] (oP T++oP E++F.1,F.2) a5->codeAny (model pw w) A (DL x B) R a5:=λa5 d4 b0 b1 z i4 c3=>by
   have i7:=RepF.into c3
   have j1:A3 H ++ .ref a4::A3 T=A3 (H++[(a4,(k,m,n,p,q),b,c,e,f,g)])++A3 T:=by simp[A3]
   have i9:((A3 H).length:Int)+1=((A3 (H++[(a4,(k,m,n,p,q),b,c,e,f,g)])).length:Int):=by simp[A3]
   rw[i9,j1] at i7
   refine j9 (H++[(a4,(k,m,n,p,q),b,c,e,f,g)]) (E:=E++[(z,(k,m,n,p,q),b,c,e,f,g)]) (a7:=b0) (a8:=b1) j3 (.inl i4) (by simp; lia) c2 (F:=F) ?_ λj5 f9 j4 Cs new e2 g1 i3=>d5 j5 f9 j4 Cs ((z,(k,m,n,p,q),b,c,e,f,g)::new) ?_ (λ_=>g1 (.inl i4)) ?_
   ·rw[Fk E,HN]
    exact RepF.keep _ (RepF.segs [[(x,CL l w.params L M N Y P X S a0 a D a1 h d4 b0),(B,A6 a ((A3 (H++[(a4,(k,m,n,p,q),b,c,e,f,g)])).length)),(a,I (A3 (H++[(a4,(k,m,n,p,q),b,c,e,f,g)])++A3 T) G),(h,I (A3 E++[.ref z]) b1)],[(a4,Ar (a4,(k,m,n,p,q),b,c,e,f,g))],oP [(z,(k,m,n,p,q),b,c,e,f,g)],oP T,oP E] [0,2,2,1,0] i7 rfl (by simp[oP]) (by simp[oP,A3]):RepF (V w j o u) (([(x,CL l w.params L M N Y P X S a0 a D a1 h d4 b0),(B,A6 a ((A3 (H++[(a4,(k,m,n,p,q),b,c,e,f,g)])).length)),(a,I (A3 (H++[(a4,(k,m,n,p,q),b,c,e,f,g)])++A3 T) G),(h,I (A3 E++A3 [(z,(k,m,n,p,q),b,c,e,f,g)]) b1)]++(oP T++(oP E++oP [(z,(k,m,n,p,q),b,c,e,f,g)])))++[(a4,Ar (a4,(k,m,n,p,q),b,c,e,f,g))]) [] F a5)
   ·rw[List.map_cons,List.map_cons,e2]
   ·rw[List.append_assoc] at i3; exact i3
  cases i5:((AC k).cps.toList==Bj) with
  |true=>exact VT O h5 i6 i5 h3 c2 h9 h8
  |false=>exact VJ O h5 i6 i5 c2 h9 h8
end
section
variable(a6:Params)(x B L M N Y P X:Nat)(S:Int)(a0 a:Nat)(D:Int)(a1 h G a8 a7:Nat)(l:Bool)(b2 b3 b4 b5 b6:Nat)(k:Str)(m n p q:Int)(b7 b8 b9 c0 c1:Nat)
noncomputable abbrev QT(i:List Nat):List DictEntry:=t5 a6 (W 0 i 0) (W 0 i 1) (W 0 i 2) (W 0 i 3) (W 0 i 4) (Gc (W 0 i 5)) (B8 (W 0 i 6)) (B8 (W 0 i 7)) (B8 (W 0 i 8)) (B8 (W 0 i 9)) (W 0 i 10) (W 0 i 11) (W 0 i 12) (W 0 i 13) (W 0 i 14)
noncomputable def Kv:List DictEntry:=match l with
 |true=>t5 a6 b2 b3 b4 b5 b6 k m n p q b7 b8 b9 c0 c1
 |false=>[]
noncomputable def NY(s:Nat)(t:Bd)(b c e f g:Nat):Spec:=
 {code:=DL x B,nf:=23,d:=400,drop:=true,res:=λ_=>.ok .next,upd:=λ_=>[],
  fp:=[(x,CL l a6 L M N Y P X S a0 a D a1 h (Kv a6 l b2 b3 b4 b5 b6 k m n p q b7 b8 b9 c0 c1) a7),(B,A6 a 0),(a,I [.ref s] G),(h,I [] a8),(s,Ar (s,t,b,c,e,f,g))],
  new:=λi=>[(x,CL l a6 L M N Y P X S a0 a D a1 h (QT a6 i) (W 0 i 15)),(h,I [.ref (W 0 i 17)] (W 0 i 16)),(W 0 i 17,Ar (J2 t i 17))]}
noncomputable def O7(s:Nat)(t:Bd)(b c e f g:Nat)(a2:Nat)(a9:Bd)(c4 c5 c6 c7 c8:Nat)(y:List Bd)(Q:Nat):Spec:=
 {code:=DL x B,nf:=30,d:=400,drop:=true,res:=λ_=>.ok .next,upd:=λ_=>[],pool:=true,pre:=oP (Ac y Q),post:=λi=>oP (Ac y (W 0 i 29)),
  fp:=[(x,CL l a6 L M N Y P X S a0 a D a1 h (Kv a6 l b2 b3 b4 b5 b6 k m n p q b7 b8 b9 c0 c1) a7),(B,A6 a 0),(a,I (.ref s::(A3 (Ac y Q)++[.ref a2])) G),(h,I [] a8),(s,Ar (s,t,b,c,e,f,g)),(a2,Ar (a2,a9,c4,c5,c6,c7,c8))],
  new:=λi=>[(x,CL l a6 L M N Y P X S a0 a D a1 h (QT a6 i) (W 0 i 15)),(h,I (.ref (W 0 i 17)::(A3 (Ac y (W 0 i 29))++[.ref (W 0 i 23)])) (W 0 i 16)),(W 0 i 17,Ar (J2 t i 17)),(W 0 i 23,Ar (J2 a9 i 23))]}
end
section
variable{x B L M N Y P X:Nat}{S:Int}{a0 a:Nat}{D:Int}{a1 h G a8 a7:Nat}{l:Bool}{b2 b3 b4 b5 b6:Nat}{k:Str}{m n p q:Int}{b7 b8 b9 c0 c1:Nat}
omit O in
theorem Mk{a6:Params}:Fz a6 (Kv a6 l b2 b3 b4 b5 b6 k m n p q b7 b8 b9 c0 c1)∨l=false/\Kv a6 l b2 b3 b4 b5 b6 k m n p q b7 b8 b9 c0 c1=[]:=by
 cases l with
 |true=>exact .inl (.mk ..)
 |false=>exact .inr ⟨rfl,rfl⟩
omit O in
theorem Mv{a6:Params}{K:List DictEntry}(g0:Fz a6 K):∃e9 f0 f6 f7 f8 d7 d8 d9 e0 e1 f1 f2 f3 f4 f5,∀g2,QT a6 (e9::f0::f6::f7::f8::d7::d8::d9::e0::e1::f1::f2::f3::f4::f5::g2)=K:=by
 obtain⟨b2,b3,b4,b5,b6,k,m,n,p,q,b7,b8,b9,c0,c1⟩:=g0
 obtain⟨d7,rfl⟩:=EK k
 obtain⟨d8,rfl⟩:=B9 m
 obtain⟨d9,rfl⟩:=B9 n
 obtain⟨e0,rfl⟩:=B9 p
 obtain⟨e1,rfl⟩:=B9 q
 exact⟨b2,b3,b4,b5,b6,d7,d8,d9,e0,e1,b7,b8,b9,c0,c1,λg2=>rfl⟩
include O
theorem Kd{s:Nat}{t:Bd}{b c e f g:Nat}(h6:¬ t.2.2.1-t.2.1>D):(NY w.params x B L M N Y P X S a0 a D a1 h G a8 a7 l b2 b3 b4 b5 b6 k m n p q b7 b8 b9 c0 c1 s t b c e f g).Ok (V w j o u):=Spec.of_codeD rfl (λ_=>rfl) (λ_=>rfl) λA c2 F g6 R a3 d5=>by
 have e8:RepF (V w j o u) ([(x,CL l w.params L M N Y P X S a0 a D a1 h (Kv w.params l b2 b3 b4 b5 b6 k m n p q b7 b8 b9 c0 c1) a7),(B,A6 a (A3 []).length),(a,I (A3 []++A3 [(s,t,b,c,e,f,g)]) G),(h,I (A3 []) a8)]++(oP [(s,t,b,c,e,f,g)]++oP [])) [] F g6:=a3
 refine Jc O [(s,t,b,c,e,f,g)] [] (by simpa using h6) Mk (by simp) c2 e8 λa5 b0 b1 d4 new e2 g1 c3=>?_
 obtain⟨e9,f0,f6,f7,f8,d7,d8,d9,e0,e1,f1,f2,f3,f4,f5,h7⟩:=Mv (g1 (.inr (by simp)))
 obtain⟨⟨z,a9,c9,d0,d1,d2,d3⟩,g2,rfl,h2,h3⟩:=List.map_eq_cons_iff.mp e2
 have:g2=[]:=List.map_eq_nil_iff.mp h3
 subst this
 have:a9=t:=h2
 subst this
 have Q:=d5 [e9,f0,f6,f7,f8,d7,d8,d9,e0,e1,f1,f2,f3,f4,f5,b0,b1,z,c9,d0,d1,d2,d3] a5 rfl
 refine Q ?_
 rw[<-h7 [b0,b1,z,c9,d0,d1,d2,d3]] at c3
 exact c3
theorem Gl{s:Nat}{t:Bd}{b c e f g a2:Nat}{a9:Bd}{c4 c5 c6 c7 c8:Nat}{y:List Bd}{Q:Nat}(h6:∀e8∈t::(y++[a9]),¬ e8.2.2.1-e8.2.1>D)(j8:y.length<900) :
  (O7 w.params x B L M N Y P X S a0 a D a1 h G a8 a7 l b2 b3 b4 b5 b6 k m n p q b7 b8 b9 c0 c1 s t b c e f g a2 a9 c4 c5 c6 c7 c8 y Q).Ok (V w j o u):=Spec.of_codeD rfl (λ_=>rfl) (λ_=>rfl) λA c2 F g6 R a3 d5=>by
 have j2:(Ac y Q).length=y.length:=by
  have:=congrArg List.length (D6 y Q)
  simpa using this
 have a3:RepF (V w j o u) ([(x,CL l w.params L M N Y P X S a0 a D a1 h (Kv w.params l b2 b3 b4 b5 b6 k m n p q b7 b8 b9 c0 c1) a7),(B,A6 a 0),(a,I (.ref s::(A3 (Ac y Q)++[.ref a2])) G),(h,I [] a8),(s,Ar (s,t,b,c,e,f,g)),(a2,Ar (a2,a9,c4,c5,c6,c7,c8))]++oP (Ac y Q)) [] F g6:=a3
 have e8:RepF (V w j o u) ([(x,CL l w.params L M N Y P X S a0 a D a1 h (Kv w.params l b2 b3 b4 b5 b6 k m n p q b7 b8 b9 c0 c1) a7),(B,A6 a (A3 []).length),(a,I (A3 []++A3 ((s,t,b,c,e,f,g)::(Ac y Q++[(a2,a9,c4,c5,c6,c7,c8)]))) G),(h,I (A3 []) a8)]++(oP ((s,t,b,c,e,f,g)::(Ac y Q++[(a2,a9,c4,c5,c6,c7,c8)]))++oP [])) [] F g6:=by
  have g9:A3 ((s,t,b,c,e,f,g)::(Ac y Q++[(a2,a9,c4,c5,c6,c7,c8)])) = .ref s::(A3 (Ac y Q)++[.ref a2]):=by simp[A3]
  have f9:oP ((s,t,b,c,e,f,g)::(Ac y Q++[(a2,a9,c4,c5,c6,c7,c8)]))=(s,Ar (s,t,b,c,e,f,g))::(oP (Ac y Q)++[(a2,Ar (a2,a9,c4,c5,c6,c7,c8))]):=by simp[oP]
  rw[g9,f9]
  refine RepF.perm a3 ?_
  refine List.Perm.append_left [(x,CL l w.params L M N Y P X S a0 a D a1 h (Kv w.params l b2 b3 b4 b5 b6 k m n p q b7 b8 b9 c0 c1) a7),(B,A6 a 0),(a,I (.ref s::(A3 (Ac y Q)++[.ref a2])) G),(h,I [] a8),(s,Ar (s,t,b,c,e,f,g))] ?_
  show(oP (Ac y Q)++[_]++[]).Perm _
  rw[List.append_nil]
  exact List.perm_append_comm (l₂:=[_])
 have i2:((s,t,b,c,e,f,g)::(Ac y Q++[(a2,a9,c4,c5,c6,c7,c8)])).map (·.2.1)=t::(y++[a9]):=by
  rw[List.map_cons,List.map_append,D6]; rfl
 refine Jc O ((s,t,b,c,e,f,g)::(Ac y Q++[(a2,a9,c4,c5,c6,c7,c8)])) [] (λr a3=>?_) Mk (by simp[j2]; lia) c2 e8 λa5 b0 b1 d4 new e2 g1 c3=>?_
 ·exact h6 r.2.1 (by rw[<-i2]; exact List.mem_map_of_mem (f:=(·.2.1)) a3)
 obtain⟨e9,f0,f6,f7,f8,d7,d8,d9,e0,e1,f1,f2,f3,f4,f5,h7⟩:=Mv (g1 (.inr (by simp)))
 rw[i2] at e2
 obtain⟨⟨z,g4,c9,d0,d1,d2,d3⟩,g3,⟨d6,g7,e3,e4,e5,e6,e7⟩,rfl,h0,j0,h1⟩:=ML e2
 have h0:g4=t:=h0
 have h1:g7=a9:=h1
 subst h0 h1
 obtain⟨g5,i0⟩:=GF g3
 rw[j0] at i0
 refine d5 [e9,f0,f6,f7,f8,d7,d8,d9,e0,e1,f1,f2,f3,f4,f5,b0,b1,z,c9,d0,d1,d2,d3,d6,e3,e4,e5,e6,e7,g5] a5 rfl ?_
 have g9:A3 ((z,g4,c9,d0,d1,d2,d3)::(g3++[(d6,g7,e3,e4,e5,e6,e7)])) = .ref z::(A3 g3++[.ref d6]):=by simp[A3]
 have f9:oP ((z,g4,c9,d0,d1,d2,d3)::(g3++[(d6,g7,e3,e4,e5,e6,e7)]))=(z,Ar (z,g4,c9,d0,d1,d2,d3))::(oP g3++[(d6,Ar (d6,g7,e3,e4,e5,e6,e7))]):=by simp[oP]
 rw[List.nil_append,g9,f9,<-i0,<-h7 [b0,b1,z,c9,d0,d1,d2,d3,d6,e3,e4,e5,e6,e7,g5]] at c3
 refine RepF.perm c3 ?_
 refine List.Perm.append_left [(x,CL l w.params L M N Y P X S a0 a D a1 h (QT w.params (e9::f0::f6::f7::f8::d7::d8::d9::e0::e1::f1::f2::f3::f4::f5::[b0,b1,z,c9,d0,d1,d2,d3,d6,e3,e4,e5,e6,e7,g5])) b0),(h,I (.ref z::(A3 (Ac y g5)++[.ref d6])) b1),(z,Ar (z,g4,c9,d0,d1,d2,d3))] ?_
 exact List.perm_append_comm (l₁:=[_])
end
end
section
section
variable(h:Params)(t y i k q Y r n:Nat)(m:Int)(p s:Nat)(D:Int)(E x z B l:Nat)(T X a0 a1 a2:Nat)(a7:Str)(a3 a4 a5 a6:Int)(a8 a9 b0 b1 b2:Nat)
noncomputable def RC(a:Nat)(g:Bd)(b c d e f:Nat):Spec:=NY h t y i k q Y r n m p s D E x z B l true T X a0 a1 a2 a7 a3 a4 a5 a6 a8 a9 b0 b1 b2 a g b c d e f
noncomputable def RX(a:Nat)(g:Bd)(b c d e f:Nat):Spec:=NY h t y i k q Y r n m p s D E x z B l false 0 0 0 0 0 ⟨⟨[]⟩⟩ 0 0 0 0 0 0 0 0 0 a g b c d e f
noncomputable def Lo(a:Nat)(g:Bd)(b c d e f:Nat)(G:Nat)(S:Bd)(L M N P Q:Nat)(K:List Bd)(H:Nat):Spec:=O7 h t y i k q Y r n m p s D E x z B l true T X a0 a1 a2 a7 a3 a4 a5 a6 a8 a9 b0 b1 b2 a g b c d e f G S L M N P Q K H
noncomputable def S3(a:Nat)(g:Bd)(b c d e f:Nat)(G:Nat)(S:Bd)(L M N P Q:Nat)(K:List Bd)(H:Nat):Spec:=O7 h t y i k q Y r n m p s D E x z B l false 0 0 0 0 0 ⟨⟨[]⟩⟩ 0 0 0 0 0 0 0 0 0 a g b c d e f G S L M N P Q K H
noncomputable def Iq:Obj:=Bl [en h Fy i (.ref n),en h nN k (.int m p)] l
end
end
section
noncomputable def R9:FU->Option (Value×Sem Fin×Bool×Bool)
 |.yld G c5 _ i _ κ=>some (G,i (.send .none),c5,match κ with |[]=>true |_::_=>false)
 |_=>none
noncomputable def LN(o:Option Hy)(N M:List Nat):List Fb×Option (Option (Value×Sem Fin×Bool×Bool)×Option An×An×Option Gs×List Ys×Bool×Bool):=match o with
 |some m=>(m.eL,some (R9 m.out,BZ N m.L,m.B,BZ M m.G,m.ys,AZ N,AZ M))
 |none=>([],none)
noncomputable def LP(o:Option Hy)(G:Value)(d s:An)(t:Gs)(a8:List Ys):List Fb×Option (Option (Value×Sem Fin×Bool×Bool)×Option An×An×Option Gs×List Ys×Bool×Bool):=match o with
 |some m=>(m.eR,some (some (G,leafOf (.ok (.ret .none)),false,true),some d,s,some t,a8,true,true))
 |none=>([],some (some (G,leafOf (.ok (.ret .none)),false,true),some d,s,some t,a8,true,true))
theorem Pv{o:Option Hy}{N M:List Nat}{G:Value}{d s:An}{t:Gs}{a8:List Ys}(b4:LN o N M=LP o G d s t a8) :
  ∃m l i c,o=some m/\m.eL=m.eR/\m.out = .yld G false l i c []/\i (.send .none)=leafOf (.ok (.ret .none))/\BZ N m.L=some d/\m.B=s/\BZ M m.G=some t/\m.ys=a8/\AZ N=true/\AZ M=true:=by
 cases o with
 |none=>cases b4
 |some m=>
  simp only[LN,LP,Prod.mk.injEq,Option.some.injEq] at b4
  obtain⟨b5,E,b6⟩:=b4
  rcases e:m.out with d9 |B |⟨e1,c5,l,i,c,κ⟩ |⟨B,κ',e0⟩
  ·rw[e] at E; cases E
  ·rw[e] at E; cases E
  ·rw[e] at E
   simp only[R9,Option.some.injEq,Prod.mk.injEq] at E
   obtain⟨rfl,b7,rfl,b8⟩:=E
   cases κ with
   |nil=>exact⟨m,l,i,c,rfl,b5,e,b7,b6⟩
   |cons=>cases b8
  ·rw[e] at E; cases E
noncomputable def WM(P:Params)(e2:KT)(n a7:Nat)(c:Code)(d s:An)(t:Gs)(a6:List Nat)(a1:List ((List Nat->Spec)×List Nat×List Nat))(N M:List Nat)(a:Nat->Nat):List Fb×Option (Option (Value×Sem Fin×Bool×Bool)×Option An×An×Option Gs×List Ys×Bool×Bool):=
 LN (AE P e2 n a a7 c [] (D c) d s t 0 [] [] [] a6 a1) N M
noncomputable def WK(P:Params)(e2:KT)(n a7:Nat)(c:Code)(d s:An)(t:Gs)(a6:List Nat)(a1:List ((List Nat->Spec)×List Nat×List Nat))(G:(Nat->Nat)->Value)(L Q:(Nat->Nat)->An)(K:(Nat->Nat)->Gs)(a:Nat->Nat):List Fb×Option (Option (Value×Sem Fin×Bool×Bool)×Option An×An×Option Gs×List Ys×Bool×Bool):=
 LP (AE P e2 n a a7 c [] (D c) d s t 0 [] [] [] a6 a1) (G a) (L a) (Q a) (K a) []
theorem E8{k:Cx}(O:k.Ok){n a7:Nat}{c:Code}{d s:An}{t:Gs}{a6:List Nat}{a1:List ((List Nat->Spec)×List Nat×List Nat)}{N M:List Nat}{G:(Nat->Nat)->Value}{L Q:(Nat->Nat)->An}{K:(Nat->Nat)->Gs}(c2:∀a3∈a1,∀l,(a3.1 l).Ok k)(b3:WM k.w.params k.kt n a7 c d s t a6 a1 N M=WK k.w.params k.kt n a7 c d s t a6 a1 G L Q K){r:Shared}(e:RepF k (d++s) t F r)(T:Room n A) :
  SegX (model pw k.w) A c (denote table c) [] r λh f=>∃a l i B x,h = .susp (G a) false l i B x []/\i (.send .none)=leafOf (.ok (.ret .none))/\RepF k (L a++Q a) (K a) F f:=by
 have X:=(Cd O (JC k ([],[]) [] 0 n n (λF h f=>∃a l i B x,h = .susp (G a) false l i B x []/\i (.send .none)=leafOf (.ok (.ret .none))/\RepF k (L a++Q a) (K a) F f) C9.nil (by simp)) a7 c [] (D c) d s t 0 [] [] [] a6 a1 (λ_=>0) c2 trivial λa _=>?_).2 F r e
 ·have b2:=X F rfl A T [] .nil
  rw[<-GZ] at b2
  exact b2
 ·obtain⟨m,l,i,B,b5,E,b6,c9,d0,d1,b7,b8,d2,d3⟩:=Pv (congrFun b3 a)
  refine⟨m,b5,E,λS f c1 c8 b9 y a5=>?_⟩
  have b9:S=c8:=b9
  subst b9
  have b2:RepF k (L a++m.B) (K a) S f:=Rep.gpicked (Rep.pickedB c1 d2 d0) d3 b7
  rw[d1] at b2
  rw[b6,b8]
  intro d8 d4
  cases d4
  exact s_yield _ _ _ _ _ _ _ _ _ _ rfl rfl λx=>⟨a,l,i,B,x,rfl,c9,b2⟩
theorem ID{k:Cx}(O:k.Ok){n a7:Nat}{c:Code}{d s:An}{t:Gs}{a6:List Nat}{a1:List ((List Nat->Spec)×List Nat×List Nat)}{N M:List Nat}{L Q:(Nat->Nat)->An}{K:(Nat->Nat)->Gs}(c2:∀a3∈a1,∀l,(a3.1 l).Ok k)(b3:qA k.w.params k.kt n a7 c (D c) d s t [] a6 a1 N M=qB k.w.params k.kt n a7 c (D c) d s t [] a6 a1 (λ_=>.ret (.ok (.ret .none))) L Q K){r:Shared}(e:RepF k (d++s) t F r)(T:Room n A) :
  SegX (model pw k.w) A c (denote table c) [] r λh f=>∃a,h = .ret (.ok (.ret .none))/\RepF k (L a++Q a) (K a) F f:=by
 exact run_genB O (o:=([],[])) (d0:=[]) (g1:=0) (a8:=n) (e9:=n) (d9:=λF h f=>∃a,h = .ret (.ok (.ret .none))/\RepF k (L a++Q a) (K a) F f) C9.nil (by simp) (E:=[]) (d7:=[]) (d3:=λ_=>.ret (.ok (.ret .none))) (c1:=L) (e8:=Q) (b8:=K) c2 trivial b3 e
  (λa S f c1 y a5 B=>s_end _ _ _ _ _ f _ _ rfl ⟨a,rfl,c1⟩) T
noncomputable def BJ:Gp:=λ_=>True
noncomputable def Io:Gp:=λv=>∃i l c x,v = .suspended i l c x [] false/\i (.send .none)=leafOf (.ok (.ret .none))
section
variable{ga b n:Nat}{p q:Value}{c:Code}{d:An}{F:AK}{r:Shared}{R:RP}{A:Around}
theorem J8{a4:Gp}(e:RepF (V w j o u) ((ga,AN b p q)::d) [(b,a4)] F r):RepF (V w j o u) d [] ((ga,AN b p q)::F.1,(b,BJ)::F.2) (r.setGen b .running):=by
 have X:RepF (V w j o u) ((ga,AN b p q)::d) [(b,BJ)] F (r.setGen b .running):=RepF.setGen e rfl trivial
 have a0:=RepF.out (a8:=[(ga,AN b p q)]) (c3:=d) X (List.perm_append_comm (l₁:=[_]))
 exact a0
theorem I1{z:An}{v:GenState}{a4:Gp}{g:Shared}(d5:v.bare=true)(a2:a4 v)(e:RepF (V w j o u) z [] ((ga,AN b p q)::F.1,(b,BJ)::F.2) g):RepF (V w j o u) ((ga,AN b p q)::z) [(b,a4)] F (g.setGen b v):=by
 have X:RepF (V w j o u) z [(b,BJ)] ([(ga,AN b p q)]++F.1,F.2) g:=e
 have a0:RepF (V w j o u) ((ga,AN b p q)::z) [(b,BJ)] F g:=RepF.perm (RepF.into X) (List.perm_append_comm (l₁:=[_]))
 exact RepF.setGen a0 d5 a2
include O
theorem Df{c7:(Nat->Nat)->Nat}{z:(Nat->Nat)->An}(T:Room (n+10) A)(e:RepF (V w j o u) ((ga,AN b p q)::d) [(b,Cl c)] F r)(a3:∀y S f,Room n y->RepF (V w j o u) d [] S f->SegX (model pw w) y c (denote table c) [] f λh c3=>∃a l i B x,h = .susp (.ref (c7 a)) false l i B x []/\i (.send .none)=leafOf (.ok (.ret .none))/\RepF (V w j o u) (z a) [] S c3)(b0:∀a f,RepF (V w j o u) ((ga,AN b p q)::z a) [(b,Io)] F f->R (.ok (.ret (.ref (c7 a)))) f):codeAny (model pw w) A (.call (.builtin "generator.__next__") ⟨[.ref ga],[]⟩) R r:=by
 obtain⟨c6,a9,rfl⟩:=Rep.gens e _ (List.mem_cons_self ..)
 refine Ef T a9 (RepF.get0 e) (Rep.noLimit O e) (.inl ⟨rfl,rfl,rfl⟩) (λy a5=>a3 y _ _ a5 (J8 e)) λh g c0 a2=>?_
 obtain⟨a,l,i,B,x,rfl,d7,b1⟩:=a2
 exact b0 a _ (I1 (End.bare_of_quiet c0) ⟨i,l,B,x,rfl,d7⟩ b1)
theorem I2{z:(Nat->Nat)->An}(T:Room (n+10) A)(e:RepF (V w j o u) ((ga,AN b p q)::d) [(b,Cl c)] F r)(a3:∀y S f,Room n y->RepF (V w j o u) d [] S f->SegX (model pw w) y c (denote table c) [] f λh c3=>∃a,h = .ret (.ok (.ret .none))/\RepF (V w j o u) (z a) [] S c3)(b0:∀a c4 h f,RepF (V w j o u) ((ga,AN b p q)::(z a++[(h,Bp c4)])) [(b,BJ)] F f->R (.error (.ref h)) f):codeAny (model pw w) A (.call (.builtin "generator.__next__") ⟨[.ref ga],[]⟩) R r:=by
 obtain⟨c6,a9,rfl⟩:=Rep.gens e _ (List.mem_cons_self ..)
 refine Ef T a9 (RepF.get0 e) (Rep.noLimit O e) (.inl ⟨rfl,rfl,rfl⟩) (λy a5=>a3 y _ _ a5 (J8 e)) λh g c0 a2=>?_
 obtain⟨a,rfl,b1⟩:=a2
 refine⟨rfl,b0 a g.heap.objs.size _ _ ?_⟩
 have X:=RepF.push (RepF.push (I1 (v:=.finished) (a4:=BJ) rfl trivial b1) (o:=Aa []) rfl) (o:=Bp g.heap.objs.size) rfl
 have h:(g.heap.push (Aa [])).objs.size=g.heap.objs.size+1:=Heap.size_push ..
 have a0:RepF (V w j o u) (((ga,AN b p q)::z a++[(g.heap.objs.size,Aa [])])++[((g.heap.push (Aa [])).objs.size,Bp g.heap.objs.size)]) [(b,BJ)] F {g.setGen b .finished with heap:=(g.heap.push (Aa [])).push (Bp g.heap.objs.size)}:=X
 rw[h] at a0
 refine RepF.sub a0 ?_
 rw[List.append_assoc]
 exact List.Sublist.append_left (l:=(ga,AN b p q)::z a) (.cons _ (List.Sublist.refl _))
theorem next_end1(T:Room (n+10) A)(e:RepF (V w j o u) ((ga,AN b p q)::d) [(b,Io)] F r)(b0:∀c4 h f,RepF (V w j o u) ((ga,AN b p q)::(d++[(h,Bp c4)])) [(b,BJ)] F f->R (.error (.ref h)) f):codeAny (model pw w) A (.call (.builtin "generator.__next__") ⟨[.ref ga],[]⟩) R r:=by
 obtain⟨c6,a9,i,l,c,x,rfl,d6⟩:=Rep.gens e _ (List.mem_cons_self ..)
 refine Ef (T:=n) T a9 (RepF.get0 e) (Rep.noLimit O e) (.inr ⟨i,l,x,false,rfl,rfl⟩) (p:=λh f=>h = .ret (.ok (.ret .none))/\RepF (V w j o u) d [] ((ga,AN b p q)::F.1,(b,BJ)::F.2) f) (λy a5=>s_end _ _ _ _ _ _ _ _ d6 ⟨rfl,J8 e⟩) λh g c0 a2=>?_
 obtain⟨rfl,b1⟩:=a2
 refine⟨rfl,b0 g.heap.objs.size _ _ ?_⟩
 have X:=RepF.push (RepF.push (I1 (v:=.finished) (a4:=BJ) rfl trivial b1) (o:=Aa []) rfl) (o:=Bp g.heap.objs.size) rfl
 have h:(g.heap.push (Aa [])).objs.size=g.heap.objs.size+1:=Heap.size_push ..
 have a0:RepF (V w j o u) (((ga,AN b p q)::d++[(g.heap.objs.size,Aa [])])++[((g.heap.push (Aa [])).objs.size,Bp g.heap.objs.size)]) [(b,BJ)] F {g.setGen b .finished with heap:=(g.heap.push (Aa [])).push (Bp g.heap.objs.size)}:=X
 rw[h] at a0
 refine RepF.sub a0 ?_
 rw[List.append_assoc]
 exact List.Sublist.append_left (l:=(ga,AN b p q)::d) (.cons _ (List.Sublist.refl _))
end
end
section
theorem Et{f:List Bd}{d1 d2 d3:Nat}(a7:f.length<900):(Value.ref d2::(A3 (Ac f d1)++[Value.ref d3])).length<=sizeLine:=by
 have d4:(Ac f d1).length=f.length:=by
  have:=congrArg List.length (D6 f d1)
  simpa using this
 rw[sizeLine_eq]
 simp[Fr,d4]
 lia
section
variable(b3:Params)(ga a6 z a1 a2:Nat)(e:Int)(a4 y p t h i m n r s B:Nat)(D:Nat->Nat)(X:Nat)(k:List (Str×Nat))(g:List Bt)(a3:List (Str×Nat))(b0 b1:Value)
noncomputable def Rp(c l:Bd)(f:List Bd):Spec:=
 {code:=.call (.builtin "generator.__next__") ⟨[.ref ga],[]⟩,nf:=15,d:=628,drop:=true,pool:=true,pre:=bP 0 g,post:=λq=>oP (Ac f (W 0 q 14)),upd:=λ_=>[],
  fp:=(ga,AN a6 b0 b1)::[(z,Iq b3 a1 a2 p e a4 y),(p,Ba t),(t,Bb b3 D h i r s B .none .none),(h,I (J k) m),(i,I (J a3) n),(r,A5 (bE b3 g) X),(s,Ad b3)],gfp:=[(a6,Cl (Sy z))],gupd:=λ_=>[Io],
  new:=λq=>[(ga,AN a6 b0 b1),(h,I (J k) m),(i,I (J a3) n),(W 0 q 0,I (.ref (W 0 q 2)::(A3 (Ac f (W 0 q 14))++[.ref (W 0 q 8)])) (W 0 q 1)),(W 0 q 2,Ar (J2 c q 2)),(W 0 q 8,Ar (J2 l q 8))],res:=λq=>.ok (.ret (.ref (W 0 q 0)))}
noncomputable def Rc(c:Bd):Spec:=
 {code:=.call (.builtin "generator.__next__") ⟨[.ref ga],[]⟩,nf:=8,d:=628,drop:=true,pool:=true,pre:=bP 0 g,post:=λq=>[],upd:=λ_=>[],
  fp:=(ga,AN a6 b0 b1)::[(z,Iq b3 a1 a2 p e a4 y),(p,Ba t),(t,Bb b3 D h i r s B .none .none),(h,I (J k) m),(i,I (J a3) n),(r,A5 (bE b3 g) X),(s,Ad b3)],gfp:=[(a6,Cl (Sy z))],gupd:=λ_=>[Io],
  new:=λq=>[(ga,AN a6 b0 b1),(h,I (J k) m),(i,I (J a3) n),(W 0 q 0,I [.ref (W 0 q 2)] (W 0 q 1)),(W 0 q 2,Ar (J2 c q 2))],res:=λq=>.ok (.ret (.ref (W 0 q 0)))}
noncomputable def MO:Spec:=
 {code:=.call (.builtin "generator.__next__") ⟨[.ref ga],[]⟩,nf:=2,d:=628,drop:=true,pool:=true,pre:=bP 0 g,post:=λq=>[],upd:=λ_=>[],
  fp:=(ga,AN a6 b0 b1)::[(z,Iq b3 a1 a2 p e a4 y),(p,Ba t),(t,Bb b3 D h i r s B .none .none),(h,I (J k) m),(i,I (J a3) n),(r,A5 (bE b3 g) X),(s,Ad b3)],gfp:=[(a6,Cl (Sy z))],gupd:=λ_=>[BJ],
  new:=λq=>[(ga,AN a6 b0 b1),(h,I (J k) m),(i,I (J a3) n),(W 0 q 1,Bp (W 0 q 0))],res:=λq=>.error (.ref (W 0 q 1))}
noncomputable def OS:Spec:=
 {code:=.call (.builtin "generator.__next__") ⟨[.ref ga],[]⟩,nf:=2,d:=628,upd:=λ_=>[AN a6 b0 b1],fp:=[(ga,AN a6 b0 b1)],gfp:=[(a6,Io)],gupd:=λ_=>[BJ],
  new:=λq=>[(W 0 q 1,Bp (W 0 q 0))],res:=λq=>.error (.ref (W 0 q 1))}
end
section
variable{ga a6 z a1 a2:Nat}{e:Int}{a4 y p t h i m n r s B:Nat}{D:Nat->Nat}{X:Nat}{k:List (Str×Nat)}{g:List Bt}{a3:List (Str×Nat)}{b0 b1:Value}(b9:(a3.map (·.1)).Nodup)(b8:k.length<=63)(a9:a3.length<=63)(c3:a3=U g)
include O
theorem JI:(OS ga a6 b0 b1).Ok (V w j o u):=Spec.of_code (λ_=>rfl) (λ_=>rfl) λA b4 F c7 R b6 b5=>
 next_end1 O (n:=618) (d:=[]) b4 b6 λc5 y a0 x=>b5 [c5,y] a0 rfl x
include b9 b8 a9 c3
theorem OT(a7:Bs k a3=[])(d8:e=0):(MO w.params ga a6 z a1 a2 e a4 y p t h i m n r s B D X k g a3 b0 b1).Ok (V w j o u):=Spec.of_codeD rfl (λ_=>rfl) (λ_=>rfl) λA b4 F c7 R b6 b5=>by
 subst c3
 have a9:g.length<=63:=by simpa[U] using a9
 refine I2 O (n:=618) (d:=[(z,Iq w.params a1 a2 p e a4 y),(p,Ba t),(t,Bb w.params D h i r s B .none .none),(h,I (J k) m),(i,I (J (U g)) n),(r,A5 (bE w.params g) X),(s,Ad w.params)]++bP 0 g) (z:=λ_=>[(h,I (J k) m),(i,I (J (U g)) n)]++[]) b4 b6 (λc1 c2 a0 b2 x=>ID O (a7:=1099) (a6:=hd 0x410800000800000800000020c004004104820100104128a28028a24924024900104128a28028a2492410092cb00b2cb24b2cb00b2cb24b2cb00b2cb24b2cb00b2cb24b2cb00b2cb24b2cb00b2cb24b2cd00104004100104004100104100004104000e38100e3d03c03cf3ce3cf4104103c03cf3ce3cf0414104103c03cf3ce3cf4904100400010410004d30404d45540145144d45155555540145144d45010555555540145144d451755554104a28104028a28028a61860061800104100a28a00a2986180406196406596586596406596586596406596586596406596586596406596586596406596586596c004100104004100104004104100004104001c70101c75e74075d75c75d79e79e74075d75c75d04179d01d75d71d76079e7810000410400218410218a38808a28a18a28e38e38808a28a18a20418e20228a28628a58e38c100a28028a28a04100004100104128a0402a8028028a282a8a289a6981026a69029a699a9a69029a699a9a69029a699a9a69029a699a9a69029a699a9a69029a699a9a6b0010400410010400410010410410410010410679e79c10410410279e79e8028a282a8a2e0679c10000410410679e70279ecb2c02cb00041) (a1:=[(λa=>Rm w.params p t h i m n r s B D X k g,[1,2,3,4,5,6],[]),(λa=>AA (C a 1) [] (C a 2),[7],[]),(λa=>AY ⟨⟨Bj⟩⟩ ⟨⟨Bj⟩⟩ (C a 6) (C a 16) true,[],[]),(λa=>Cq (1-e) 0 (C a 26) (C a 7) true,[],[]),(λa=>Cq (1-e) 0 (C a 32) (C a 9) true,[],[]),(λa=>Hr (C a 12) 0 (C a 39) (Value.ref (C a 11)) [] (Value.ref (C a 38)),[9],[]),(λa=>AY ⟨⟨Bj⟩⟩ ⟨⟨Bj⟩⟩ (C a 6) (C a 43) true,[],[]),(λa=>AT (1-e+e) 1 (C a 54) (C a 8) false,[],[]),(λa=>AT (1-e+e) 1 (C a 60) (C a 10) false,[],[]),(λa=>AY ⟨⟨Bj⟩⟩ ⟨⟨Bj⟩⟩ (C a 6) (C a 82) true,[],[]),(λa=>Cq (1-(1-e)) (e+e) (C a 83) (C a 69) false,[],[]),(λa=>AA (C a 71) [Value.ref (C a 84)] 1,[38],[]),(λa=>BU (C a 71) [Value.ref (C a 84)] 1,[38],[]),(λa=>CM (↑[Value.ref (C a 84)].length) 1 (C a 88) (C a 89) true,[],[]),(λa=>AY ⟨⟨Bj⟩⟩ ⟨⟨Bj⟩⟩ (C a 6) (C a 92) true,[],[])]) (N:=[3,4]) (M:=[]) (L:=λ_=>[(h,I (J k) m),(i,I (J (U g)) n)]) (Q:=λ_=>[]) (K:=λ_=>[]) (TA (OR O b9 b8 a9 a7) (Ae (by rw[sizeLine_eq]; simp)) (Ai O rfl) (AW O (decide_eq_true (by lia))) (AW O (decide_eq_true (by lia))) (F8 O) (Ai O rfl) (A9 O (decide_eq_false (by simp))) (A9 O (decide_eq_false (by simp))) (Ai O rfl) (AW O (decide_eq_false (by lia))) (Ae (by rw[sizeLine_eq]; simp)) (AS (by rw[sizeLine_eq]; simp)) (B7 O rfl) (Ai O rfl)) (by kernel_rfl) x b2) λb c5 y a0 x=>b5 [c5,y] a0 rfl x
theorem Nf{c:Bd}(a7:Bs k a3=[c])(b7:((AC c.1).cps.toList==Bj)=true)(c0:∀a5∈Bs k a3,a5.2.2.1-a5.2.1<=e/\a5.2.2.2.2-a5.2.2.2.1<=e/\0<=e):(MO w.params ga a6 z a1 a2 e a4 y p t h i m n r s B D X k g a3 b0 b1).Ok (V w j o u):=Spec.of_codeD rfl (λ_=>rfl) (λ_=>rfl) λA b4 F c7 R b6 b5=>by
 subst c3
 have a9:g.length<=63:=by simpa[U] using a9
 obtain⟨c8,c9,d0⟩:=c0 c (by rw[a7]; exact List.mem_cons_self ..)
 refine I2 O (n:=618) (d:=[(z,Iq w.params a1 a2 p e a4 y),(p,Ba t),(t,Bb w.params D h i r s B .none .none),(h,I (J k) m),(i,I (J (U g)) n),(r,A5 (bE w.params g) X),(s,Ad w.params)]++bP 0 g) (z:=λ_=>[(h,I (J k) m),(i,I (J (U g)) n)]++[]) b4 b6 (λc1 c2 a0 b2 x=>ID O (a7:=883) (a6:=hd 0x410800000800000800000020c004004104820104820800820924900924004104820800820924904024a28028a28928a28028a28928a28028a28928a28028a28928a28028a28928a28028a28928a30004100104004100104004104000104100034d04034e3ce00e38e34e38f3cf3ce00e38e34e38104f38038e38d38e44f3cf0400010410004920404935130134d34934d45145130134d34934c10544c04d34d24d35945140412080410082080082175d70175c00410402082002085d75c10176180186185d86180186185d86180186185d86180186185d86180186185d86180186185d861a0010400410010400410010410400010410006db0406dc75c01c71c6dc71d75d75c01c71c6dc70105d70071c71b71c7dd75d0400010410008200408218a10218618218628a28a10218618218410628408618608619228a20402080082082010400010400410482010089c18e49010008c10418e4924024925965025940041) (a1:=[(λa=>PB w.params p t h i m n r s B D X k g c,[1,2,3,4,5,6],[]),(λa=>AA (C a 1) [Value.ref (C a 4)] (C a 2),[7],[]),(λa=>AY (AC c.1) ⟨⟨Bj⟩⟩ (C a 5) (C a 14) true,[],[]),(λa=>Cq (c.2.2.1-e) c.2.1 (C a 24) (C a 6) false,[],[]),(λa=>Cq (c.2.2.2.2-e) c.2.2.2.1 (C a 30) (C a 8) false,[],[]),(λa=>Hr (C a 1) (C a 2) (C a 37) (Value.ref (C a 4)) [] (Value.ref (C a 36)),[7],[]),(λa=>AY (AC c.1) ⟨⟨Bj⟩⟩ (C a 5) (C a 41) true,[],[]),(λa=>AT (c.2.1+e) c.2.2.1 (C a 52) (C a 7) false,[],[]),(λa=>AT (c.2.2.2.1+e) c.2.2.2.2 (C a 58) (C a 9) false,[],[]),(λa=>RC w.params z (C a 71) a1 a2 (C a 10) (C a 68) (C a 70) p e a4 (C a 1) (e+e) (C a 67) (C a 69) (C a 2) 0 (y+8) (C a 19) (C a 20) (C a 21) (C a 22) (C a 23) (AC c.1) c.2.1 c.2.2.1 c.2.2.2.1 c.2.2.2.2 (C a 5) (C a 6) (C a 7) (C a 8) (C a 9) (C a 64) c (C a 5) (C a 6) (C a 7) (C a 8) (C a 9),[0,38,7,37,36],[]),(λa=>AA (C a 69) [Value.ref (C a 89)] (C a 88),[35],[]),(λa=>BU (C a 69) [Value.ref (C a 89)] (C a 88),[35],[]),(λa=>CM (↑[Value.ref (C a 89)].length) 1 (C a 96) (C a 97) true,[],[]),(λa=>AY (AC c.1) ⟨⟨Bj⟩⟩ (C a 90) (C a 100) true,[],[])]) (N:=[2,3]) (M:=[]) (L:=λ_=>[(h,I (J k) m),(i,I (J (U g)) n)]) (Q:=λ_=>[]) (K:=λ_=>[]) (PM (JO O b9 b8 a9 a7) (Ae (by rw[sizeLine_eq]; simp)) (Ai O b7) (AW O (decide_eq_false (by lia))) (AW O (decide_eq_false (by lia))) (F8 O) (Ai O b7) (A9 O (decide_eq_false (by lia))) (A9 O (decide_eq_false (by lia))) (Kd O (by lia)) (Ae (by rw[sizeLine_eq]; simp)) (AS (by rw[sizeLine_eq]; simp)) (B7 O rfl) (Ai O b7)) (by kernel_rfl) x b2) λb c5 y a0 x=>b5 [c5,y] a0 rfl x
theorem PG{c:Bd}(a7:Bs k a3=[c])(b7:((AC c.1).cps.toList==Bj)=false)(c0:∀a5∈Bs k a3,a5.2.2.1-a5.2.1<=e/\a5.2.2.2.2-a5.2.2.2.1<=e/\0<=e):(Rc w.params ga a6 z a1 a2 e a4 y p t h i m n r s B D X k g a3 b0 b1 c).Ok (V w j o u):=Spec.of_codeD rfl (λ_=>rfl) (λ_=>rfl) λA b4 F c7 R b6 b5=>by
 subst c3
 have a9:g.length<=63:=by simpa[U] using a9
 obtain⟨c8,c9,d0⟩:=c0 c (by rw[a7]; exact List.mem_cons_self ..)
 refine Df O (n:=618) (d:=[(z,Iq w.params a1 a2 p e a4 y),(p,Ba t),(t,Bb w.params D h i r s B .none .none),(h,I (J k) m),(i,I (J (U g)) n),(r,A5 (bE w.params g) X),(s,Ad w.params)]++bP 0 g) (c7:=λb=>b 21) (z:=λb=>[(h,I (J k) m),(i,I (J (U g)) n),(b 21,I [.ref (b 41)] (b 40)),(b 41,Ar (b 41,c,b 42,b 43,b 44,b 45,b 46))]++[]) b4 b6 (λc1 c2 a0 b2 x=>E8 O (a7:=257) (a6:=hd 0x104200000200000200000008300100104120804120820020824924024900104100820800820924900924004104100004100104120804020b047208040007041047208200208249240249001047) (a1:=[(λa=>PB w.params p t h i m n r s B D X k g c,[1,2,3,4,5,6],[]),(λa=>AA (C a 1) [Value.ref (C a 4)] (C a 2),[7],[]),(λa=>AY (AC c.1) ⟨⟨Bj⟩⟩ (C a 5) (C a 14) false,[],[]),(λa=>AY (AC c.1) ⟨⟨Bj⟩⟩ (C a 5) (C a 18) false,[],[]),(λa=>RX w.params z (C a 23) a1 a2 (C a 10) (C a 20) (C a 22) p e a4 (C a 1) (e+e) (C a 19) (C a 21) (C a 2) 0 (y+3) (C a 4) c (C a 5) (C a 6) (C a 7) (C a 8) (C a 9),[0,10,7,9,8],[]),(λa=>AA (C a 21) [Value.ref (C a 41)] (C a 40),[7],[]),(λa=>BU (C a 21) [Value.ref (C a 41)] (C a 40),[7],[]),(λa=>CM (↑[Value.ref (C a 41)].length) 1 (C a 48) (C a 49) true,[],[]),(λa=>AY (AC c.1) ⟨⟨Bj⟩⟩ (C a 42) (C a 52) false,[],[])]) (N:=[2,3,7,8]) (M:=[]) (G:=λb=>.ref (b 21)) (L:=λb=>[(h,I (J k) m),(i,I (J (U g)) n),(b 21,I [.ref (b 41)] (b 40)),(b 41,Ar (b 41,c,b 42,b 43,b 44,b 45,b 46))]) (Q:=λb=>[]) (K:=λ_=>[]) (HY (JO O b9 b8 a9 a7) (Ae (by rw[sizeLine_eq]; simp)) (Ai O b7) (Ai O b7) (Kd O (by lia)) (Ae (by rw[sizeLine_eq]; simp)) (AS (by rw[sizeLine_eq]; simp)) (B7 O rfl) (Ai O b7)) (by kernel_rfl) x b2) λb a0 x=>b5 [b 21,b 40,b 41,b 42,b 43,b 44,b 45,b 46] a0 rfl x
theorem O4{c l:Bd}{f:List Bd}(a7:Bs k a3=c::(f++[l]))(a8:f.length<900)(c0:∀a5∈Bs k a3,a5.2.2.1-a5.2.1<=e/\a5.2.2.2.2-a5.2.2.2.1<=e/\0<=e):(Rp w.params ga a6 z a1 a2 e a4 y p t h i m n r s B D X k g a3 b0 b1 c l f).Ok (V w j o u):=Spec.of_codeD rfl (λ_=>rfl) (λ_=>rfl) λA b4 F c7 R b6 b5=>by
 subst c3
 have a9:g.length<=63:=by simpa[U] using a9
 obtain⟨c8,c9,d0⟩:=c0 c (by rw[a7]; exact List.mem_cons_self ..)
 obtain⟨d6,d7,_⟩:=c0 l (by rw[a7]; simp)
 have c6:∀a5∈c::(f++[l]),¬ a5.2.2.1-a5.2.1>e+e:=λa5 d5=>by
  obtain⟨c8,c9,d0⟩:=c0 a5 (by rw[a7]; exact d5)
  lia
 cases b7:((AC c.1).cps.toList==Bj) with
 |true=>
  cases c4:((AC l.1).cps.toList==Bj) with
  |true=>
   refine Df O (n:=618) (d:=[(z,Iq w.params a1 a2 p e a4 y),(p,Ba t),(t,Bb w.params D h i r s B .none .none),(h,I (J k) m),(i,I (J (U g)) n),(r,A5 (bE w.params g) X),(s,Ad w.params)]++bP 0 g) (c7:=λb=>b 76) (z:=λb=>[(h,I (J k) m),(i,I (J (U g)) n),(b 76,I (Value.ref (b 96)::(A3 (Ac f (b 108))++[Value.ref (b 102)])) (b 95)),(b 96,Ar (b 96,c,b 97,b 98,b 99,b 100,b 101)),(b 102,Ar (b 102,l,b 103,b 104,b 105,b 106,b 107))]++oP (Ac f (b 108))) b4 b6 (λc1 c2 a0 b2 x=>E8 O (a7:=845) (a6:=hd 0x10420000020000020000000830010010412080412082002082492402490010412082002082492410092cb00b2cb24b2cb00b2cb24b2cb00b2cb24b2cb00b2cb24b2cb00b2cb24b2cb00b2cb24b2cd00104004100104004100104100004104000e38100e3d03c03cf3ce3cf4104103c03cf3ce3cf04140f00f3cf38f3d24104010000410400134c10135155005145135145555555005145135140415540145144d451755554104820104020820128a28028a00104100820804a28a04029964065964a65964065964a65964065964a65964065964a65964065964a65964065964a6596c004100104004100104004104100004104001c70101c75e74075d75c75d79e79e74075d75c75d04179d01d75d71d76079e7810000410400218410218a38808a28a18a28e38e38808a28a18a20418e20228a28628a58e38c1008201041000041001041208040228063924040023041063) (a1:=[(λa=>K9 w.params p t h i m n r s B D X k g c l f,[1,2,3,4,5,6],[]),(λa=>AA (C a 1) (Value.ref (C a 5)::(A3 (Ac f (C a 3))++[Value.ref (C a 11)])) (C a 2),[7],[]),(λa=>AY (AC c.1) ⟨⟨Bj⟩⟩ (C a 6) (C a 21) true,[],[]),(λa=>Cq (c.2.2.1-e) c.2.1 (C a 31) (C a 7) false,[],[]),(λa=>Cq (c.2.2.2.2-e) c.2.2.2.1 (C a 37) (C a 9) false,[],[]),(λa=>Hr (C a 1) (C a 2) (C a 44) (Value.ref (C a 5)) (A3 (Ac f (C a 3))++[Value.ref (C a 11)]) (Value.ref (C a 43)),[7],[]),(λa=>EE (C a 1) (C a 2) (C a 46) (Value.ref (C a 43)) (A3 (Ac f (C a 3))) (Value.ref (C a 11)),[7],[]),(λa=>AY (AC l.1) ⟨⟨Bj⟩⟩ (C a 12) (C a 48) true,[],[]),(λa=>EE (C a 1) (C a 2) (C a 50) (Value.ref (C a 43)) (A3 (Ac f (C a 3))) (Value.ref (C a 11)),[7],[]),(λa=>AT (l.2.1+e) l.2.2.1 (C a 59) (C a 14) false,[],[]),(λa=>AT (l.2.2.2.1+e) l.2.2.2.2 (C a 65) (C a 16) false,[],[]),(λa=>L4 (C a 1) (C a 2) (C a 73) (Value.ref (C a 43)) (A3 (Ac f (C a 3))) (Value.ref (C a 11)) (Value.ref (C a 71)),[7],[]),(λa=>Lo w.params z (C a 78) a1 a2 (C a 17) (C a 75) (C a 77) p e a4 (C a 1) (e+e) (C a 74) (C a 76) (C a 2) 0 (y+8) (C a 26) (C a 27) (C a 28) (C a 29) (C a 30) (AC l.1) l.2.1 l.2.2.1 l.2.2.2.1 l.2.2.2.2 (C a 12) (C a 13) (C a 14) (C a 15) (C a 16) (C a 43) c (C a 6) (C a 7) (C a 8) (C a 9) (C a 10) (C a 71) l (C a 12) (C a 13) (C a 14) (C a 15) (C a 16) f (C a 3),[0,39,7,38,23,37],[]),(λa=>AA (C a 76) (Value.ref (C a 96)::(A3 (Ac f (C a 108))++[Value.ref (C a 102)])) (C a 95),[35],[]),(λa=>BU (C a 76) (Value.ref (C a 96)::(A3 (Ac f (C a 108))++[Value.ref (C a 102)])) (C a 95),[35],[]),(λa=>CM (↑(Value.ref (C a 96)::(A3 (Ac f (C a 108))++[Value.ref (C a 102)])).length) 1 (C a 110) (C a 111) false,[],[])]) (N:=[2,3,35,36,37]) (M:=[]) (G:=λb=>.ref (b 76)) (L:=λb=>[(h,I (J k) m),(i,I (J (U g)) n),(b 76,I (Value.ref (b 96)::(A3 (Ac f (b 108))++[Value.ref (b 102)])) (b 95)),(b 96,Ar (b 96,c,b 97,b 98,b 99,b 100,b 101)),(b 102,Ar (b 102,l,b 103,b 104,b 105,b 106,b 107))]) (Q:=λb=>oP (Ac f (b 108))) (K:=λ_=>[]) (TF (Gr O b9 b8 a9 a7) (Ae (Et a8)) (Ai O b7) (AW O (decide_eq_false (by lia))) (AW O (decide_eq_false (by lia))) (F8 O) (CZ O) (Ai O c4) (CZ O) (A9 O (decide_eq_false (by lia))) (A9 O (decide_eq_false (by lia))) (IJ O) (Gl O c6 a8) (Ae (Et a8)) (AS (Et a8)) (B7 O (decide_eq_false (by simp; lia)))) (by kernel_rfl) x b2) λb a0 x=>b5 [b 76,b 95,b 96,b 97,b 98,b 99,b 100,b 101,b 102,b 103,b 104,b 105,b 106,b 107,b 108] a0 rfl x
  |false=>
   refine Df O (n:=618) (d:=[(z,Iq w.params a1 a2 p e a4 y),(p,Ba t),(t,Bb w.params D h i r s B .none .none),(h,I (J k) m),(i,I (J (U g)) n),(r,A5 (bE w.params g) X),(s,Ad w.params)]++bP 0 g) (c7:=λb=>b 51) (z:=λb=>[(h,I (J k) m),(i,I (J (U g)) n),(b 51,I (Value.ref (b 71)::(A3 (Ac f (b 83))++[Value.ref (b 77)])) (b 70)),(b 71,Ar (b 71,c,b 72,b 73,b 74,b 75,b 76)),(b 77,Ar (b 77,l,b 78,b 79,b 80,b 81,b 82))]++oP (Ac f (b 83))) b4 b6 (λc1 c2 a0 b2 x=>E8 O (a7:=532) (a6:=hd 0x410800000800000800000020c004004104820104820800820924900924004104820800820924904024b2c02cb2c92cb2c02cb2c92cb2c02cb2c92cb2c02cb2c92cb2c02cb2c92cb2c02cb2c92cb34004100104004100104004104000104100038e04038f40f00f3cf38f3d041040f00f3cf38f3c10503c03cf3ce3cf4904100400010410004d30404d45540145144d45155555540145144d45010555005145135145d555504120804100820804a28a00a28004104100004100104120804021a055596040015041055) (a1:=[(λa=>K9 w.params p t h i m n r s B D X k g c l f,[1,2,3,4,5,6],[]),(λa=>AA (C a 1) (Value.ref (C a 5)::(A3 (Ac f (C a 3))++[Value.ref (C a 11)])) (C a 2),[7],[]),(λa=>AY (AC c.1) ⟨⟨Bj⟩⟩ (C a 6) (C a 21) true,[],[]),(λa=>Cq (c.2.2.1-e) c.2.1 (C a 31) (C a 7) false,[],[]),(λa=>Cq (c.2.2.2.2-e) c.2.2.2.1 (C a 37) (C a 9) false,[],[]),(λa=>Hr (C a 1) (C a 2) (C a 44) (Value.ref (C a 5)) (A3 (Ac f (C a 3))++[Value.ref (C a 11)]) (Value.ref (C a 43)),[7],[]),(λa=>EE (C a 1) (C a 2) (C a 46) (Value.ref (C a 43)) (A3 (Ac f (C a 3))) (Value.ref (C a 11)),[7],[]),(λa=>AY (AC l.1) ⟨⟨Bj⟩⟩ (C a 12) (C a 48) false,[],[]),(λa=>Lo w.params z (C a 53) a1 a2 (C a 17) (C a 50) (C a 52) p e a4 (C a 1) (e+e) (C a 49) (C a 51) (C a 2) 0 (y+8) (C a 26) (C a 27) (C a 28) (C a 29) (C a 30) (AC c.1) c.2.1 c.2.2.1 c.2.2.2.1 c.2.2.2.2 (C a 6) (C a 7) (C a 8) (C a 9) (C a 10) (C a 43) c (C a 6) (C a 7) (C a 8) (C a 9) (C a 10) (C a 11) l (C a 12) (C a 13) (C a 14) (C a 15) (C a 16) f (C a 3),[0,25,7,24,23,9],[]),(λa=>AA (C a 51) (Value.ref (C a 71)::(A3 (Ac f (C a 83))++[Value.ref (C a 77)])) (C a 70),[21],[]),(λa=>BU (C a 51) (Value.ref (C a 71)::(A3 (Ac f (C a 83))++[Value.ref (C a 77)])) (C a 70),[21],[]),(λa=>CM (↑(Value.ref (C a 71)::(A3 (Ac f (C a 83))++[Value.ref (C a 77)])).length) 1 (C a 85) (C a 86) false,[],[])]) (N:=[2,3,21,22,23]) (M:=[]) (G:=λb=>.ref (b 51)) (L:=λb=>[(h,I (J k) m),(i,I (J (U g)) n),(b 51,I (Value.ref (b 71)::(A3 (Ac f (b 83))++[Value.ref (b 77)])) (b 70)),(b 71,Ar (b 71,c,b 72,b 73,b 74,b 75,b 76)),(b 77,Ar (b 77,l,b 78,b 79,b 80,b 81,b 82))]) (Q:=λb=>oP (Ac f (b 83))) (K:=λ_=>[]) (V3 (Gr O b9 b8 a9 a7) (Ae (Et a8)) (Ai O b7) (AW O (decide_eq_false (by lia))) (AW O (decide_eq_false (by lia))) (F8 O) (CZ O) (Ai O c4) (Gl O c6 a8) (Ae (Et a8)) (AS (Et a8)) (B7 O (decide_eq_false (by simp; lia)))) (by kernel_rfl) x b2) λb a0 x=>b5 [b 51,b 70,b 71,b 72,b 73,b 74,b 75,b 76,b 77,b 78,b 79,b 80,b 81,b 82,b 83] a0 rfl x
 |false=>
  cases c4:((AC l.1).cps.toList==Bj) with
  |true=>
   refine Df O (n:=618) (d:=[(z,Iq w.params a1 a2 p e a4 y),(p,Ba t),(t,Bb w.params D h i r s B .none .none),(h,I (J k) m),(i,I (J (U g)) n),(r,A5 (bE w.params g) X),(s,Ad w.params)]++bP 0 g) (c7:=λb=>b 53) (z:=λb=>[(h,I (J k) m),(i,I (J (U g)) n),(b 53,I (Value.ref (b 73)::(A3 (Ac f (b 85))++[Value.ref (b 79)])) (b 72)),(b 73,Ar (b 73,c,b 74,b 75,b 76,b 77,b 78)),(b 79,Ar (b 79,l,b 80,b 81,b 82,b 83,b 84))]++oP (Ac f (b 85))) b4 b6 (λc1 c2 a0 b2 x=>E8 O (a7:=538) (a6:=hd 0x410800000800000800000020c004004104820104820800820924900924004104020820128a28028a00104100820804a28a04028b2c02cb2ca2cb2c02cb2ca2cb2c02cb2ca2cb2c02cb2ca2cb2c02cb2ca2cb2c02cb2ca2cb34004100104004100104004104100004104000e38100e3d03c03cf3ce3cf4104103c03cf3ce3cf04140f00f3cf38f3d24104010000410400134c10135155005145135145555555005145135140415540145144d451755554100820104100004100104120804021a055596040015041055) (a1:=[(λa=>K9 w.params p t h i m n r s B D X k g c l f,[1,2,3,4,5,6],[]),(λa=>AA (C a 1) (Value.ref (C a 5)::(A3 (Ac f (C a 3))++[Value.ref (C a 11)])) (C a 2),[7],[]),(λa=>AY (AC c.1) ⟨⟨Bj⟩⟩ (C a 6) (C a 21) false,[],[]),(λa=>EE (C a 1) (C a 2) (C a 23) (Value.ref (C a 5)) (A3 (Ac f (C a 3))) (Value.ref (C a 11)),[7],[]),(λa=>AY (AC l.1) ⟨⟨Bj⟩⟩ (C a 12) (C a 25) true,[],[]),(λa=>EE (C a 1) (C a 2) (C a 27) (Value.ref (C a 5)) (A3 (Ac f (C a 3))) (Value.ref (C a 11)),[7],[]),(λa=>AT (l.2.1+e) l.2.2.1 (C a 36) (C a 14) false,[],[]),(λa=>AT (l.2.2.2.1+e) l.2.2.2.2 (C a 42) (C a 16) false,[],[]),(λa=>L4 (C a 1) (C a 2) (C a 50) (Value.ref (C a 5)) (A3 (Ac f (C a 3))) (Value.ref (C a 11)) (Value.ref (C a 48)),[7],[]),(λa=>Lo w.params z (C a 55) a1 a2 (C a 17) (C a 52) (C a 54) p e a4 (C a 1) (e+e) (C a 51) (C a 53) (C a 2) 0 (y+8) (C a 31) (C a 32) (C a 33) (C a 34) (C a 35) (AC l.1) l.2.1 l.2.2.1 l.2.2.2.1 l.2.2.2.2 (C a 12) (C a 13) (C a 14) (C a 15) (C a 16) (C a 5) c (C a 6) (C a 7) (C a 8) (C a 9) (C a 10) (C a 48) l (C a 12) (C a 13) (C a 14) (C a 15) (C a 16) f (C a 3),[0,25,7,24,8,23],[]),(λa=>AA (C a 53) (Value.ref (C a 73)::(A3 (Ac f (C a 85))++[Value.ref (C a 79)])) (C a 72),[21],[]),(λa=>BU (C a 53) (Value.ref (C a 73)::(A3 (Ac f (C a 85))++[Value.ref (C a 79)])) (C a 72),[21],[]),(λa=>CM (↑(Value.ref (C a 73)::(A3 (Ac f (C a 85))++[Value.ref (C a 79)])).length) 1 (C a 87) (C a 88) false,[],[])]) (N:=[2,3,21,22,23]) (M:=[]) (G:=λb=>.ref (b 53)) (L:=λb=>[(h,I (J k) m),(i,I (J (U g)) n),(b 53,I (Value.ref (b 73)::(A3 (Ac f (b 85))++[Value.ref (b 79)])) (b 72)),(b 73,Ar (b 73,c,b 74,b 75,b 76,b 77,b 78)),(b 79,Ar (b 79,l,b 80,b 81,b 82,b 83,b 84))]) (Q:=λb=>oP (Ac f (b 85))) (K:=λ_=>[]) (UV (Gr O b9 b8 a9 a7) (Ae (Et a8)) (Ai O b7) (CZ O) (Ai O c4) (CZ O) (A9 O (decide_eq_false (by lia))) (A9 O (decide_eq_false (by lia))) (IJ O) (Gl O c6 a8) (Ae (Et a8)) (AS (Et a8)) (B7 O (decide_eq_false (by simp; lia)))) (by kernel_rfl) x b2) λb a0 x=>b5 [b 53,b 72,b 73,b 74,b 75,b 76,b 77,b 78,b 79,b 80,b 81,b 82,b 83,b 84,b 85] a0 rfl x
  |false=>
   refine Df O (n:=618) (d:=[(z,Iq w.params a1 a2 p e a4 y),(p,Ba t),(t,Bb w.params D h i r s B .none .none),(h,I (J k) m),(i,I (J (U g)) n),(r,A5 (bE w.params g) X),(s,Ad w.params)]++bP 0 g) (c7:=λb=>b 28) (z:=λb=>[(h,I (J k) m),(i,I (J (U g)) n),(b 28,I (Value.ref (b 48)::(A3 (Ac f (b 60))++[Value.ref (b 54)])) (b 47)),(b 48,Ar (b 48,c,b 49,b 50,b 51,b 52,b 53)),(b 54,Ar (b 54,l,b 55,b 56,b 57,b 58,b 59))]++oP (Ac f (b 60))) b4 b6 (λc1 c2 a0 b2 x=>E8 O (a7:=225) (a6:=hd 0x104200000200000200000008300100104120804120820020824924024900104100820804a28a00a28004104100004100104120804020c047208040007041047) (a1:=[(λa=>K9 w.params p t h i m n r s B D X k g c l f,[1,2,3,4,5,6],[]),(λa=>AA (C a 1) (Value.ref (C a 5)::(A3 (Ac f (C a 3))++[Value.ref (C a 11)])) (C a 2),[7],[]),(λa=>AY (AC c.1) ⟨⟨Bj⟩⟩ (C a 6) (C a 21) false,[],[]),(λa=>EE (C a 1) (C a 2) (C a 23) (Value.ref (C a 5)) (A3 (Ac f (C a 3))) (Value.ref (C a 11)),[7],[]),(λa=>AY (AC l.1) ⟨⟨Bj⟩⟩ (C a 12) (C a 25) false,[],[]),(λa=>S3 w.params z (C a 30) a1 a2 (C a 17) (C a 27) (C a 29) p e a4 (C a 1) (e+e) (C a 26) (C a 28) (C a 2) 0 (y+3) (C a 5) c (C a 6) (C a 7) (C a 8) (C a 9) (C a 10) (C a 11) l (C a 12) (C a 13) (C a 14) (C a 15) (C a 16) f (C a 3),[0,11,7,10,8,9],[]),(λa=>AA (C a 28) (Value.ref (C a 48)::(A3 (Ac f (C a 60))++[Value.ref (C a 54)])) (C a 47),[7],[]),(λa=>BU (C a 28) (Value.ref (C a 48)::(A3 (Ac f (C a 60))++[Value.ref (C a 54)])) (C a 47),[7],[]),(λa=>CM (↑(Value.ref (C a 48)::(A3 (Ac f (C a 60))++[Value.ref (C a 54)])).length) 1 (C a 62) (C a 63) false,[],[])]) (N:=[2,3,7,8,9]) (M:=[]) (G:=λb=>.ref (b 28)) (L:=λb=>[(h,I (J k) m),(i,I (J (U g)) n),(b 28,I (Value.ref (b 48)::(A3 (Ac f (b 60))++[Value.ref (b 54)])) (b 47)),(b 48,Ar (b 48,c,b 49,b 50,b 51,b 52,b 53)),(b 54,Ar (b 54,l,b 55,b 56,b 57,b 58,b 59))]) (Q:=λb=>oP (Ac f (b 60))) (K:=λ_=>[]) (HY (Gr O b9 b8 a9 a7) (Ae (Et a8)) (Ai O b7) (CZ O) (Ai O c4) (Gl O c6 a8) (Ae (Et a8)) (AS (Et a8)) (B7 O (decide_eq_false (by simp; lia)))) (by kernel_rfl) x b2) λb a0 x=>b5 [b 28,b 47,b 48,b 49,b 50,b 51,b 52,b 53,b 54,b 55,b 56,b 57,b 58,b 59,b 60] a0 rfl x
end
end
section
noncomputable def VI:Stmt->List Stmt
 |.If _ r _ _=>r
 |_=>[]
noncomputable def DV(b:Nat):Env:=Gq (C2 7) 261 260 (S [117,110,105,102,105,101,100,95,100,105,102,102,46,60,108,111,99,97,108,115,62,46]) b
noncomputable def Vp(c:Nat):Stmt:=W B6 (B2 (C2 7)) c
noncomputable def Cj:Stmt:=W B6 (Ch (Vp 3)) 5
noncomputable def U3(c:Nat):Stmt:=W B6 (VI (W B6 (Ch Cj) c)) 0
noncomputable def Ft(b:Nat):Code:=.func (B2 (C2 7)) (DV b)
noncomputable def BH(b l:Nat):Code:=Ff Cj l (DV b)
noncomputable def BM(c b l:Nat):Code:=Ff (U3 c) l (DV b)
noncomputable def Vz:Str:=S [102,114,111,109,102,105,108,101]
noncomputable def VS:Str:=S [116,111,102,105,108,101]
noncomputable def TO:Str:=S [102,114,111,109,102,105,108,101,100,97,116,101]
noncomputable def UU:Str:=S [116,111,102,105,108,101,100,97,116,101]
noncomputable def VE:Str:=S [108,105,110,101,116,101,114,109]
noncomputable def Nh:Str:=S [115,116,97,114,116,101,100]
noncomputable def LE:Str:=S [102,114,111,109,100,97,116,101]
noncomputable def Pn:Str:=S [116,111,100,97,116,101]
noncomputable def Si:Str:=S [108,97,115,116]
noncomputable def VN:Str:=S [102,105,108,101,49,95,114,97,110,103,101]
noncomputable def VQ:Str:=S [102,105,108,101,50,95,114,97,110,103,101]
noncomputable def u8(a:Params)(d e f Y g h i k m n:Nat)(p:Int)(q:Nat):List DictEntry:=
 [en a nA d (.ref m),en a nB e (.ref n),en a Vz f (.str (S []) 603),en a VS Y (.str (S []) 604),en a TO g (.str (S []) 605),en a UU h (.str (S []) 606),en a nN i (.int p q),en a VE k (.str (S [10]) 608)]
noncomputable def T1(a:Params)(s:Nat->Nat)(m n:Nat)(p:Int)(H:Nat)(L M:Str):List DictEntry:=
 u8 a (s 0) (s 1) (s 2) (s 3) (s 4) (s 5) (s 6) (s 7) m n p (s 8)++[en a Nh (s 9) (.bool true),en a MD (s 10) (.ref H),en a LE (s 11) (.str (S []) (s 17)),en a Pn (s 12) (.str (S []) (s 18)),en a Si (s 13) (.ref (s 20)),en a AF (s 14) (.ref (s 19)),en a VN (s 15) (.str L (s 21)),en a VQ (s 16) (.str M (s 22))]
end
section
noncomputable def iS(b:Int):Str:=Str.ofString (toString b)
noncomputable def Jb(b e:Int):Str:=iS b++Str.ofString "," ++ iS e
noncomputable def H7(b e:Str):Str:=Str.ofString "@@ -" ++ b++Str.ofString " +" ++ e++Str.ofString " @@" ++ Str.mk #[10]
theorem T5(b:Int)(l g:Nat)(m:0<=b)(q:b<=1000):Meets (Builtin.«str.format» ⟨[.str (Str.mk #[123,125]) l,.int b g],[]⟩) (λ_ R t=>∀p k,R (.ok (.ret (.str (Str.ofString (toString b)) p))) {t with toks:=k}):=by kfm_run
theorem Tn(b e:Int)(l g f:Nat)(m:0<=b)(q:b<=1000)(y:0<=e)(L:e<=1000):Meets (Builtin.«str.format» ⟨[.str (Str.mk #[123,125,44,123,125]) l,.int b g,.int e f],[]⟩) (λ_ R t=>∀p k,R (.ok (.ret (.str (Str.ofString (toString b)++Str.ofString "," ++ Str.ofString (toString e)) p))) {t with toks:=k}):=by kfm_run
theorem TG(b e:Str)(l g f B:Nat)(P:b.length<=1000000)(N:e.length<=1000000):Meets (Builtin.«str.format» ⟨[.str (Str.mk #[64,64,32,45,123,125,32,43,123,125,32,64,64,123,125]) l,.str b g,.str e f,.str (Str.mk #[10]) B],[]⟩)
  (λ_ R t=>∀p k,R (.ok (.ret (.str (Str.ofString "@@ -" ++ b++Str.ofString " +" ++ e++Str.ofString " @@" ++ Str.mk #[10]) p))) {t with toks:=k}):=by kfm_run
noncomputable def Rs(b:Int)(l g:Nat):Spec:={code:=.call (.builtin "str.format") ⟨[.str (S [123,125]) l,.int b g],[]⟩,fp:=[],upd:=λ_=>[],nf:=1,res:=λf=>.ok (.ret (.str (iS b) (W 0 f 0))),d:=40}
noncomputable def Pa(b e:Int)(l g f:Nat):Spec:={code:=.call (.builtin "str.format") ⟨[.str (S [123,125,44,123,125]) l,.int b g,.int e f],[]⟩,fp:=[],upd:=λ_=>[],nf:=1,res:=λf=>.ok (.ret (.str (Jb b e) (W 0 f 0))),d:=40}
noncomputable def Pb(b e:Str)(l g f B:Nat):Spec:={code:=.call (.builtin "str.format") ⟨[.str (S [64,64,32,45,123,125,32,43,123,125,32,64,64,123,125]) l,.str b g,.str e f,.str (S [10]) B],[]⟩,fp:=[],upd:=λ_=>[],nf:=1,res:=λf=>.ok (.ret (.str (H7 b e) (W 0 f 0))),d:=40}
section
variable{H:Cx}(Q:H.Ok)
include Q
theorem Oh{b:Int}{l g:Nat}(m:0<=b)(q:b<=1000):(Rs b l g).Ok H:=Spec.of_call rfl (λ_=>rfl) (λ_=>rfl) λA z F t M s r=>
 KFm.call_k rfl (KFm.args_2 _ _) (T5 b l g m q) λp k=>r [p] _ _ rfl rfl (RepF.toks s k)
theorem Kc{b e:Int}{l g f:Nat}(m:0<=b)(q:b<=1000)(y:0<=e)(L:e<=1000):(Pa b e l g f).Ok H:=Spec.of_call rfl (λ_=>rfl) (λ_=>rfl) λA z F t M s r=>
 KFm.call_k rfl (KFm.args_3 _ _ _) (Tn b e l g f m q y L) λp k=>r [p] _ _ rfl rfl (RepF.toks s k)
theorem K5{b e:Str}{l g f B:Nat}(P:b.length<=1000000)(N:e.length<=1000000):(Pb b e l g f B).Ok H:=Spec.of_call rfl (λ_=>rfl) (λ_=>rfl) λA z F t M s r=>
 KFm.call_k rfl (KFm.args_4 _ _ _ _) (TG b e l g f B P N) λp k=>r [p] _ _ rfl rfl (RepF.toks s k)
end
noncomputable def Bx(a c:Int):Str:=if c-a=1 then iS (a+1) else if c-a=0 then Jb (a+1-1) (c-a) else Jb (a+1) (c-a)
noncomputable def K6(a c:Int)(g f:Nat):Spec:={code:=.call (.ref 253) ⟨[.int a g,.int c f],[]⟩,fp:=[],upd:=λ_=>[],nf:=1,res:=λf=>.ok (.ret (.str (Bx a c) (W 0 f 0))),d:=80}
theorem Jm{b:Int}(m:0<=b)(q:b<=1000):(iS b).length<=10:=toString_length_le m (by decide) (by lia)
theorem JK{b e:Int}(m:0<=b)(q:b<=1000)(y:0<=e)(L:e<=1000):(Jb b e).length<=21:=by
 have a:=Jm m q
 have c:=Jm y L
 have T:(Str.ofString ",").length=1:=by decide
 unfold Jb
 simp only[Str.length,Str.cps_append,Array.size_append] at a c T ⊢
 lia
theorem Gj{a c:Int}(m:0<=a)(q:a<=c)(y:c<=900):(Bx a c).length<=1000000:=by
 unfold Bx
 split
 ·exact Nat.le_trans (Jm (by lia) (by lia)) (by decide)
 ·split
  ·exact Nat.le_trans (JK (by lia) (by lia) (by lia) (by lia)) (by decide)
  ·exact Nat.le_trans (JK (by lia) (by omega) (by omega) (by lia)) (by decide)
section
include O
theorem Hl{a c:Int}{g f:Nat}(m:0<=a)(q:a<=c)(y:c<=900):(K6 a c g f).Ok (V w j o u):=Spec.of_code (λ_=>rfl) (λ_=>rfl) λA z F t R s r=>by
 by_cases x:c-a=1
 ·have D:Bx a c=iS (a+1):=if_pos x
  refine run_code O (n:=100) z (H:=hd 0x40000041001040040001041040001041041041) (K:=[(λh=>CM (c-a) 1 (C h 7) (C h 9) true,[],[]),(λh=>Rs (a+1) (C h 10) (C h 5),[],[])]) (l:=[]) (b7:=[]) (d3:=λi=>.ret (.ok (.ret (.str (iS (a+1)) (i 11))))) (c1:=λ_=>[]) (b8:=λ_=>[])
   (BI (B7 O (decide_eq_true x)) (Oh O (by lia) (by lia))) (by kernel_rfl) s λi G E=>?_
  have k:=r [i 11] G rfl E
  rw[show(K6 a c g f).res [i 11] = .ok (.ret (.str (Bx a c) (i 11))) from rfl,D] at k
  exact k
 ·by_cases K:c-a=0
  ·have D:Bx a c=Jb (a+1-1) (c-a):=by unfold Bx; rw[if_neg x,if_pos K]
   refine run_code O (n:=120) z (H:=hd 0x40000041001040040001041040001041041041040001041041) (K:=[(λh=>CM (c-a) 1 (C h 7) (C h 9) false,[],[]),(λh=>Bc (c-a) (C h 7) false,[],[]),(λh=>Pa (a+1-1) (c-a) (C h 13) (C h 11) (C h 7),[],[])]) (l:=[]) (b7:=[]) (d3:=λi=>.ret (.ok (.ret (.str (Jb (a+1-1) (c-a)) (i 14))))) (c1:=λ_=>[]) (b8:=λ_=>[])
    (GH (B7 O (decide_eq_false x)) (Ay O (by rw[K]; rfl)) (Kc O (by lia) (by lia) (by lia) (by omega))) (by kernel_rfl) s λi G E=>?_
   have k:=r [i 14] G rfl E
   rw[show(K6 a c g f).res [i 14] = .ok (.ret (.str (Bx a c) (i 14))) from rfl,D] at k
   exact k
  ·have D:Bx a c=Jb (a+1) (c-a):=by unfold Bx; rw[if_neg x,if_neg K]
   refine run_code O (n:=120) z (H:=hd 0x1000001040041001000041041000041041041041041) (K:=[(λh=>CM (c-a) 1 (C h 7) (C h 9) false,[],[]),(λh=>Bc (c-a) (C h 7) true,[],[]),(λh=>Pa (a+1) (c-a) (C h 10) (C h 5) (C h 7),[],[])]) (l:=[]) (b7:=[]) (d3:=λi=>.ret (.ok (.ret (.str (Jb (a+1) (c-a)) (i 11))))) (c1:=λ_=>[]) (b8:=λ_=>[])
    (GH (B7 O (decide_eq_false x)) (Ay O (bne_iff_ne.mpr K)) (Kc O (by lia) (by omega) (by omega) (by lia))) (by kernel_rfl) s λi G E=>?_
   have k:=r [i 11] G rfl E
   rw[show(K6 a c g f).res [i 11] = .ok (.ret (.str (Bx a c) (i 11))) from rfl,D] at k
   exact k
end
end
section
noncomputable def Hz(i n:Value):Obj:=⟨.type "slice",none,.fields ⟨[i,n,.none]⟩,⟨[]⟩⟩
noncomputable def Be(a:List (Str×Nat))(b g:Int):List (Str×Nat):=(a.drop b.toNat).take (g.toNat-b.toNat)
noncomputable def K8(f h e:Nat)(a:List (Str×Nat))(b g:Int)(i n:Nat):Spec:={code:=.call (.builtin "list.__getitem__") ⟨[.ref f,.ref e],[]⟩,fp:=[(f,I (J a) h),(e,Hz (.int b i) (.int g n))],upd:=λ_=>[I (J a) h,Hz (.int b i) (.int g n)],nf:=1,new:=λl=>[(W 0 l 0,I (J (Be a b g)) 0)],res:=λl=>.ok (.ret (.ref (W 0 l 0))),d:=20}
noncomputable def BD(f h e:Nat)(a:List (Str×Nat))(b:Int)(i:Nat):Spec:={code:=.call (.builtin "list.__getitem__") ⟨[.ref f,.ref e],[]⟩,fp:=[(f,I (J a) h),(e,Hz (.int b i) .none)],upd:=λ_=>[I (J a) h,Hz (.int b i) .none],nf:=1,new:=λl=>[(W 0 l 0,I (J (a.drop b.toNat)) 0)],res:=λl=>.ok (.ret (.ref (W 0 l 0))),d:=20}
noncomputable def GX(f h e:Nat)(a:List (Str×Nat)):Spec:={code:=.call (.builtin "list.__getitem__") ⟨[.ref f,.ref e],[]⟩,fp:=[(f,I (J a) h),(e,Hz .none .none)],upd:=λ_=>[I (J a) h,Hz .none .none],nf:=1,new:=λl=>[(W 0 l 0,I (J a) 0)],res:=λl=>.ok (.ret (.ref (W 0 l 0))),d:=20}
section
variable{y:Cx}(K:y.Ok){f h e i n:Nat}{a:List (Str×Nat)}{b g:Int}
theorem FB{q x:List Value}{vl H:Value}{t s:Option Int}{c:Shared}{r S:VP}(Q:c.heap.get? f=some (I q h))(E:c.heap.get? e=some (Hz vl H))(a5:IsPart vl t)(a6:IsPart H s)(p:q.length<=sizeLine)(a4:slicePick ⟨q⟩ t s none=⟨x⟩)(a0:r (.ref c.heap.objs.size) {c with heap:=c.heap.push (I x 0)}):wpAny (model pw y.w) A (call (.builtin "list.__getitem__") [.ref f,.ref e]) r S c:=by
 have P:c.TypeIs (.ref e) "slice":=⟨_,E,rfl⟩
 have a2:=sliceIndices_raw t s none (⟨q⟩:Array Value).size (by simp)
 refine wpAny_call_entry slot_list_getitem ⟨_,Q,rfl⟩ entry_list_getitem ?_ (args_list_getitem _ _)
 show wpAny _ _ (Builtin.List.listSubscript? (.ref e)>>=_) _ _ c
 refine wpAny_bind ?_
 unfold Builtin.List.listSubscript?
 refine wpAny_bind (wpAny_specialOf P slice_no_index ?_)
 simp only[Option.isNone_none,if_true]
 refine wpAny_pure ?_
 show wpAny _ _ (typeOf (.ref e)>>=_) _ _ c
 refine wpAny_bind (wpAny_typeOf P ?_)
 rw[if_neg (by decide),listSliceParts_eq]
 refine wpAny_bind (wpAny_bind (wpAny_field E rfl (x:=.none) rfl (wpAny_bind (wpAny_listPart .none ?_))))
 rw[if_neg (by decide)]
 refine wpAny_bind (wpAny_field E rfl (x:=vl) rfl (wpAny_bind (wpAny_listPart a5 ?_)))
 refine wpAny_bind (wpAny_field E rfl (x:=H) rfl (wpAny_bind (wpAny_listPart a6 (wpAny_pure ?_))))
 refine wpAny_bind (m:=Builtin.List.listItems (.ref f)) ?_
 unfold Builtin.List.listItems
 refine wpAny_bind (wpAny_seqItems Q rfl (wpAny_pure ?_))
 refine wpAny_bind (wpAny_of_eq a2 ?_)
 have a3:=slicePick_size_le ⟨q⟩ t s none
 refine wpAny_bind (wpAny_newObj_type (wpAny_pure ⟨_,rfl,?_⟩) (Nat.le_trans a3 p))
 have T:({cls:=.type "list",dict:=none,data:=.seq (slicePick ⟨q⟩ t s none)}:Obj)=I x 0:=by rw[a4]; rfl
 have M:r (.ref c.heap.objs.size) {c with heap:=c.heap.push {cls:=.type "list",dict:=none,data:=.seq (slicePick ⟨q⟩ t s none)}}:=by rw[T]; exact a0
 exact M
omit K in
theorem Qc:J (Be a b g)=(((J a).drop b.toNat).take (g.toNat-b.toNat)):=by simp[J,Be,List.map_drop,List.map_take]
include K
theorem FJ(p:a.length<=sizeLine)(D:0<=b)(a1:b<=g)(M:g<=a.length):(K8 f h e a b g i n).Ok y:=Spec.of_call rfl (λ_=>rfl) (λ_=>rfl) λA N L c r k z=>by
 refine FB (RepF.get0 k) (RepF.get1 k) (.int b i) (.int g n) (by simpa[J] using p) (x:=J (Be a b g)) ?_ (z [c.heap.objs.size] _ _ rfl rfl (RepF.push k rfl))
 obtain⟨B,rfl⟩:=Int.eq_ofNat_of_zero_le D
 obtain⟨a7,rfl⟩:=Int.eq_ofNat_of_zero_le (Int.le_trans D a1)
 have X:(J a).length=a.length:=by simp[J]
 rw[Qc,slicePick_plain]
 simp only[Option.elim,clipAt_nat,List.size_toArray,X]
 rw[Nat.min_eq_left (show B<=a.length by lia),Nat.min_eq_left (show a7<=a.length by lia)]
 rfl
theorem AH(p:a.length<=sizeLine)(D:0<=b):(BD f h e a b i).Ok y:=Spec.of_call rfl (λ_=>rfl) (λ_=>rfl) λA N L c r k z=>by
 refine FB (RepF.get0 k) (RepF.get1 k) (.int b i) .none (by simpa[J] using p) (x:=J (a.drop b.toNat)) ?_ (z [c.heap.objs.size] _ _ rfl rfl (RepF.push k rfl))
 obtain⟨B,rfl⟩:=Int.eq_ofNat_of_zero_le D
 rw[slicePick_from']
 simp[J,List.map_drop]
theorem D7(p:a.length<=sizeLine):(GX f h e a).Ok y:=Spec.of_call rfl (λ_=>rfl) (λ_=>rfl) λA N L c r k z=>by
 refine FB (RepF.get0 k) (RepF.get1 k) .none .none (by simpa[J] using p) (x:=J a) ?_ (z [c.heap.objs.size] _ _ rfl rfl (RepF.push k rfl))
 rw[slicePick_plain]
 simp
end
end
section
noncomputable def Sv(m:Params):List Nat->List DictEntry
 |[n,c5,f9]=>[en m Bq n (.str (Gc c5) f9)]
 |_=>[]
noncomputable def Hn(m:Params)(i:Nat):List DictEntry:=Sv m (GG i)
inductive Cp(m:Params):List DictEntry->Prop
 |s0:Cp m []
 |s1 (n:Nat) (d:Str) (f9:Nat):Cp m [en m Bq n (.str d f9)]
theorem QR{m:Params}(d8:List Nat):Cp m (Sv m d8):=by
 rcases d8 with _ |⟨n,_ |⟨c5,_ |⟨f9,_ |⟨t,d8⟩⟩⟩⟩ <;> first |exact .s0 |exact .s1 ..
theorem Hd{m:Params}(i:Nat):Cp m (Hn m i):=QR _
theorem Jt{m:Params}{f:List DictEntry}(g3:Cp m f):∃i,Hn m i=f:=by
 cases g3 with
 |s0=>exact⟨Di [],by unfold Hn; rw[C6]; rfl⟩
 |s1 n d f9=>
  obtain⟨c5,rfl⟩:=EK d
  exact⟨Di [n,c5,f9],by unfold Hn; rw[C6]; rfl⟩
noncomputable def AV:Nat->Str
 |0=>⟨⟨[32]⟩⟩
 |1=>⟨⟨[45]⟩⟩
 |_=>⟨⟨[43]⟩⟩
noncomputable def BY(g4:Nat)(d7:List (Str×Nat)):List Str:=d7.map λe3=>AV g4++e3.1
section
variable(m:Params)(p:Nat->Nat)(a3 a4:Nat)(i:Int)(T:Nat)(s1 b1:Str)(a6 a7 a8 a9 b0:Nat)(b4:Str)(X a0 a1 a2:Int)(b8 b9 c0 c1 c2:Nat)
noncomputable def B5(f:List DictEntry)(k:Nat):Obj:=Bl (T1 m p a3 a4 i T s1 b1++(t5 m a6 a7 a8 a9 b0 b4 X a0 a1 a2 b8 b9 c0 c1 c2++f)) k
variable(b c:Nat)(f:List DictEntry)(k e c3:Nat)(d7:List (Str×Nat))
noncomputable def Ks:Spec×List Str:=
 ({code:=BM 0 b c,nf:=2,d:=60,drop:=true,upd:=λ_=>[],fp:=[(b,B5 m p a3 a4 i T s1 b1 a6 a7 a8 a9 b0 b4 X a0 a1 a2 b8 b9 c0 c1 c2 f k),(c,A6 e 0),(e,I (J d7) c3)],new:=λf1=>[(b,B5 m p a3 a4 i T s1 b1 a6 a7 a8 a9 b0 b4 X a0 a1 a2 b8 b9 c0 c1 c2 (Hn m (W 0 f1 0)) (W 0 f1 1))],res:=λ_=>.ok .next},BY 0 d7)
noncomputable def Pl:Spec×List Str:=
 ({code:=BM 1 b c,nf:=2,d:=60,drop:=true,upd:=λ_=>[],fp:=[(b,B5 m p a3 a4 i T s1 b1 a6 a7 a8 a9 b0 b4 X a0 a1 a2 b8 b9 c0 c1 c2 f k),(c,A6 e 0),(e,I (J d7) c3)],new:=λf1=>[(b,B5 m p a3 a4 i T s1 b1 a6 a7 a8 a9 b0 b4 X a0 a1 a2 b8 b9 c0 c1 c2 (Hn m (W 0 f1 0)) (W 0 f1 1))],res:=λ_=>.ok .next},BY 1 d7)
noncomputable def OQ:Spec×List Str:=
 ({code:=BM 2 b c,nf:=2,d:=60,drop:=true,upd:=λ_=>[],fp:=[(b,B5 m p a3 a4 i T s1 b1 a6 a7 a8 a9 b0 b4 X a0 a1 a2 b8 b9 c0 c1 c2 f k),(c,A6 e 0),(e,I (J d7) c3)],new:=λf1=>[(b,B5 m p a3 a4 i T s1 b1 a6 a7 a8 a9 b0 b4 X a0 a1 a2 b8 b9 c0 c1 c2 (Hn m (W 0 f1 0)) (W 0 f1 1))],res:=λ_=>.ok .next},BY 2 d7)
end
section
variable{p:Nat->Nat}{a3 a4:Nat}{i:Int}{T:Nat}{s1 b1:Str}{a6 a7 a8 a9 b0:Nat}{b4:Str}{X a0 a1 a2:Int}{b8 b9 c0 c1 c2:Nat}{b c k e c3:Nat}{d9:AK}{d1:List Frame}{e5 n:Nat}{m:AK->End->Shared->Prop}{c9:List Str}
include O
theorem P2(d2:C9 d1 e5)(hd:e5+60<=n){a h:List Value}{d:Str}{g:Nat}{f:List DictEntry}(d6:Cp w.params f)(e2:d.length<1000){c5:Shared}(c4:RepF (V w j o u) [(b,B5 w.params p a3 a4 i T s1 b1 a6 a7 a8 a9 b0 b4 X a0 a1 a2 b8 b9 c0 c1 c2 f k),(c,A6 e a.length),(e,I (a ++ .str d g::h) c3)] [] (At d9 F) c5)(d5:∀c8 e1 c6 c7,Cp w.params c8->RepF (V w j o u) [(b,B5 w.params p a3 a4 i T s1 b1 a6 a7 a8 a9 b0 b4 X a0 a1 a2 b8 b9 c0 c1 c2 c8 e1),(c,A6 e (a.length+1)),(e,I (a ++ .str d g::h) c3)] [] (At d9 c6) c7->∀A,Room n A->SegX (model pw w) A (BM 0 b c) (denote table (BM 0 b c)) d1 c7 (Ev (V w j o u) n m c9 c6))(d3:Room n A):SegX (model pw w) A (BM 0 b c) (denote table (BM 0 b c)) d1 c5 (Ev (V w j o u) n m ((AV 0++d)::c9) F):=by
 have g2:sizeLine=16777216:=sizeLine_eq
 have f6:(AV 0).length+d.length<=sizeLine:=by
  have:(AV 0).length=1:=rfl
  lia
 have e9:∀(f:List DictEntry) (c8:(Nat->Nat)->List DictEntry) (e8:Nat),(∀l,Cp w.params (c8 l))->RepF (V w j o u) [(b,B5 w.params p a3 a4 i T s1 b1 a6 a7 a8 a9 b0 b4 X a0 a1 a2 b8 b9 c0 c1 c2 f k),(c,A6 e a.length),(e,I (a ++ .str d g::h) c3)] [] (At d9 F) c5 ->
   (qA w.params (V w j o u).kt 60 40 (BM 0 b c) (D (BM 0 b c)) [(b,B5 w.params p a3 a4 i T s1 b1 a6 a7 a8 a9 b0 b4 X a0 a1 a2 b8 b9 c0 c1 c2 f k),(c,A6 e a.length),(e,I (a ++ .str d g::h) c3)] [] [] [.one (AV 0++d)] [2,1,0,1,1,1,1,1] [(λd8=>AX c e a (.str d g) h c3,[1,2],[]),(λd8=>DE (AV 0) d (C d8 1) g,[],[])] [0,1,2] []=qB w.params (V w j o u).kt 60 40 (BM 0 b c) (D (BM 0 b c)) [(b,B5 w.params p a3 a4 i T s1 b1 a6 a7 a8 a9 b0 b4 X a0 a1 a2 b8 b9 c0 c1 c2 f k),(c,A6 e a.length),(e,I (a ++ .str d g::h) c3)] [] [] [.one (AV 0++d)] [2,1,0,1,1,1,1,1] [(λd8=>AX c e a (.str d g) h c3,[1,2],[]),(λd8=>DE (AV 0) d (C d8 1) g,[],[])] (λ_=>.again (BM 0 b c)) (λl=>[(b,B5 w.params p a3 a4 i T s1 b1 a6 a7 a8 a9 b0 b4 X a0 a1 a2 b8 b9 c0 c1 c2 (c8 l) e8),(c,A6 e (a.length+1)),(e,I (a ++ .str d g::h) c3)]) (λ_=>[]) (λ_=>[])) ->
   SegX (model pw w) A (BM 0 b c) (denote table (BM 0 b c)) d1 c5 (Ev (V w j o u) n m ((AV 0++d)::c9) F):=λf c8 e8 f0 c4 f2=>
  run_genB O (e9:=60) d2 hd (z:=[]) (e8:=λ_=>[]) (E:=[.one (AV 0++d)]) (d7:=c9) (d3:=λ_=>.again (BM 0 b c)) (BI (Av O) (D3 f6)) trivial f2 c4 (λl c6 c7 d0 e0 d4=>d5 _ _ c6 c7 (f0 l) d0 e0 d4) d3
 cases d6 with
 |s0=>exact e9 [] (λl=>[en w.params Bq (l 0) (.str d g)]) (k+1) (λl=>.s1 ..) c4 (by kernel_rfl)
 |s1 e7 g1 g0=>exact e9 [en w.params Bq e7 (.str g1 g0)] (λl=>[en w.params Bq e7 (.str d g)]) k (λl=>.s1 ..) c4 (by kernel_rfl)
theorem KD(d2:C9 d1 e5)(hd:e5+60<=n):∀(h a:List (Str×Nat)) {f:List DictEntry} {k:Nat},Cp w.params f->(∀e3∈h,e3.1.length<1000)->∀{F:AK} {c5:Shared},
  RepF (V w j o u) [(b,B5 w.params p a3 a4 i T s1 b1 a6 a7 a8 a9 b0 b4 X a0 a1 a2 b8 b9 c0 c1 c2 f k),(c,A6 e (J a).length),(e,I (J a++J h) c3)] [] (At d9 F) c5 ->
  (∀c8 e1 c6 c7,Cp w.params c8->RepF (V w j o u) [(b,B5 w.params p a3 a4 i T s1 b1 a6 a7 a8 a9 b0 b4 X a0 a1 a2 b8 b9 c0 c1 c2 c8 e1)] [] (At d9 c6) c7->∀A e4,Room n A->SegX (model pw w) A e4 (leafOf (.ok .next)) d1 c7 (Ev (V w j o u) n m c9 c6)) ->
  ∀{A:Around},Room n A->SegX (model pw w) A (BM 0 b c) (denote table (BM 0 b c)) d1 c5 (Ev (V w j o u) n m (BY 0 h++c9) F):=by
 intro s
 induction s with
 |nil=>
  intro a f k d6 e2 F c5 c4 d5 A d3
  have c4:RepF (V w j o u) [(b,B5 w.params p a3 a4 i T s1 b1 a6 a7 a8 a9 b0 b4 X a0 a1 a2 b8 b9 c0 c1 c2 f k),(c,A6 e (J a).length),(e,I (J a) c3)] [] (At d9 F) c5:=by
   have f3:J a++J []=J a:=List.append_nil _
   rw[f3] at c4; exact c4
  exact run_genB O (n:=60) (e9:=60) d2 hd (b:=[(b,B5 w.params p a3 a4 i T s1 b1 a6 a7 a8 a9 b0 b4 X a0 a1 a2 b8 b9 c0 c1 c2 f k),(c,A6 e (J a).length),(e,I (J a) c3)]) (t:=[]) (z:=[]) (e8:=λ_=>[]) (E:=[]) (d7:=c9) (H:=[2,1,4,0]) (K:=[(λd8=>Cm c e (J a) c3,[1,2],[])]) (l:=[0]) (b7:=[]) (d3:=λ_=>.ret (.ok .next)) (c1:=λ_=>[(b,B5 w.params p a3 a4 i T s1 b1 a6 a7 a8 a9 b0 b4 X a0 a1 a2 b8 b9 c0 c1 c2 f k)]) (b8:=λ_=>[]) (Bo (Bw O)) trivial (by kernel_rfl) c4 (λl c6 c7 d0 e0 d4 e4=>d5 f k c6 c7 d6 d0 e0 e4 d4) d3
 |cons q h r=>
  obtain⟨d,g⟩:=q
  intro a f k d6 e2 F c5 c4 d5 A d3
  refine P2 O d2 hd (a:=J a) (h:=J h) (g:=g) d6 (e2 _ (List.mem_cons_self ..)) c4 (λc8 e1 c6 c7 e6 d0 e0 d4=>?_) d3
  have f4:J a ++ .str d g::J h=J (a++[(d,g)])++J h:=by simp[J]
  have f5:((J a).length:Int)+1=((J (a++[(d,g)])).length:Int):=by simp[J]
  rw[f4,f5] at d0
  exact r (a++[(d,g)]) e6 (λe3 f7=>e2 e3 (List.mem_cons_of_mem _ f7)) d0 d5 d4
theorem Kq{f:List DictEntry}{d7:List (Str×Nat)}(d6:Cp w.params f)(e2:∀e3∈d7,e3.1.length<1000):(Ks w.params p a3 a4 i T s1 b1 a6 a7 a8 a9 b0 b4 X a0 a1 a2 b8 b9 c0 c1 c2 b c f k e c3 d7).1.GOk (V w j o u) (BY 0 d7):=
 ⟨Spec.lenOkD rfl λ_=>rfl,λ_=>rfl,λd9 d1 e5 n m c9 d2 hd F c5 c4 d5 A d3=>
  KD O d2 hd d7 [] d6 e2 c4 (λc8 e1 c6 c7 e6 d0 e0 e4 d4=>by
   obtain⟨f8,rfl⟩:=Jt e6
   exact d5 [f8,e1] c6 c7 rfl d0 e0 e4 d4) d3⟩
theorem Pe(d2:C9 d1 e5)(hd:e5+60<=n){a h:List Value}{d:Str}{g:Nat}{f:List DictEntry}(d6:Cp w.params f)(e2:d.length<1000){c5:Shared}(c4:RepF (V w j o u) [(b,B5 w.params p a3 a4 i T s1 b1 a6 a7 a8 a9 b0 b4 X a0 a1 a2 b8 b9 c0 c1 c2 f k),(c,A6 e a.length),(e,I (a ++ .str d g::h) c3)] [] (At d9 F) c5)(d5:∀c8 e1 c6 c7,Cp w.params c8->RepF (V w j o u) [(b,B5 w.params p a3 a4 i T s1 b1 a6 a7 a8 a9 b0 b4 X a0 a1 a2 b8 b9 c0 c1 c2 c8 e1),(c,A6 e (a.length+1)),(e,I (a ++ .str d g::h) c3)] [] (At d9 c6) c7->∀A,Room n A->SegX (model pw w) A (BM 1 b c) (denote table (BM 1 b c)) d1 c7 (Ev (V w j o u) n m c9 c6))(d3:Room n A):SegX (model pw w) A (BM 1 b c) (denote table (BM 1 b c)) d1 c5 (Ev (V w j o u) n m ((AV 1++d)::c9) F):=by
 have g2:sizeLine=16777216:=sizeLine_eq
 have f6:(AV 1).length+d.length<=sizeLine:=by
  have:(AV 1).length=1:=rfl
  lia
 have e9:∀(f:List DictEntry) (c8:(Nat->Nat)->List DictEntry) (e8:Nat),(∀l,Cp w.params (c8 l))->RepF (V w j o u) [(b,B5 w.params p a3 a4 i T s1 b1 a6 a7 a8 a9 b0 b4 X a0 a1 a2 b8 b9 c0 c1 c2 f k),(c,A6 e a.length),(e,I (a ++ .str d g::h) c3)] [] (At d9 F) c5 ->
   (qA w.params (V w j o u).kt 60 40 (BM 1 b c) (D (BM 1 b c)) [(b,B5 w.params p a3 a4 i T s1 b1 a6 a7 a8 a9 b0 b4 X a0 a1 a2 b8 b9 c0 c1 c2 f k),(c,A6 e a.length),(e,I (a ++ .str d g::h) c3)] [] [] [.one (AV 1++d)] [2,1,0,1,1,1,1,1] [(λd8=>AX c e a (.str d g) h c3,[1,2],[]),(λd8=>DE (AV 1) d (C d8 1) g,[],[])] [0,1,2] []=qB w.params (V w j o u).kt 60 40 (BM 1 b c) (D (BM 1 b c)) [(b,B5 w.params p a3 a4 i T s1 b1 a6 a7 a8 a9 b0 b4 X a0 a1 a2 b8 b9 c0 c1 c2 f k),(c,A6 e a.length),(e,I (a ++ .str d g::h) c3)] [] [] [.one (AV 1++d)] [2,1,0,1,1,1,1,1] [(λd8=>AX c e a (.str d g) h c3,[1,2],[]),(λd8=>DE (AV 1) d (C d8 1) g,[],[])] (λ_=>.again (BM 1 b c)) (λl=>[(b,B5 w.params p a3 a4 i T s1 b1 a6 a7 a8 a9 b0 b4 X a0 a1 a2 b8 b9 c0 c1 c2 (c8 l) e8),(c,A6 e (a.length+1)),(e,I (a ++ .str d g::h) c3)]) (λ_=>[]) (λ_=>[])) ->
   SegX (model pw w) A (BM 1 b c) (denote table (BM 1 b c)) d1 c5 (Ev (V w j o u) n m ((AV 1++d)::c9) F):=λf c8 e8 f0 c4 f2=>
  run_genB O (e9:=60) d2 hd (z:=[]) (e8:=λ_=>[]) (E:=[.one (AV 1++d)]) (d7:=c9) (d3:=λ_=>.again (BM 1 b c)) (BI (Av O) (D3 f6)) trivial f2 c4 (λl c6 c7 d0 e0 d4=>d5 _ _ c6 c7 (f0 l) d0 e0 d4) d3
 cases d6 with
 |s0=>exact e9 [] (λl=>[en w.params Bq (l 0) (.str d g)]) (k+1) (λl=>.s1 ..) c4 (by kernel_rfl)
 |s1 e7 g1 g0=>exact e9 [en w.params Bq e7 (.str g1 g0)] (λl=>[en w.params Bq e7 (.str d g)]) k (λl=>.s1 ..) c4 (by kernel_rfl)
theorem KO(d2:C9 d1 e5)(hd:e5+60<=n):∀(h a:List (Str×Nat)) {f:List DictEntry} {k:Nat},Cp w.params f->(∀e3∈h,e3.1.length<1000)->∀{F:AK} {c5:Shared},
  RepF (V w j o u) [(b,B5 w.params p a3 a4 i T s1 b1 a6 a7 a8 a9 b0 b4 X a0 a1 a2 b8 b9 c0 c1 c2 f k),(c,A6 e (J a).length),(e,I (J a++J h) c3)] [] (At d9 F) c5 ->
  (∀c8 e1 c6 c7,Cp w.params c8->RepF (V w j o u) [(b,B5 w.params p a3 a4 i T s1 b1 a6 a7 a8 a9 b0 b4 X a0 a1 a2 b8 b9 c0 c1 c2 c8 e1)] [] (At d9 c6) c7->∀A e4,Room n A->SegX (model pw w) A e4 (leafOf (.ok .next)) d1 c7 (Ev (V w j o u) n m c9 c6)) ->
  ∀{A:Around},Room n A->SegX (model pw w) A (BM 1 b c) (denote table (BM 1 b c)) d1 c5 (Ev (V w j o u) n m (BY 1 h++c9) F):=by
 intro s
 induction s with
 |nil=>
  intro a f k d6 e2 F c5 c4 d5 A d3
  have c4:RepF (V w j o u) [(b,B5 w.params p a3 a4 i T s1 b1 a6 a7 a8 a9 b0 b4 X a0 a1 a2 b8 b9 c0 c1 c2 f k),(c,A6 e (J a).length),(e,I (J a) c3)] [] (At d9 F) c5:=by
   have f3:J a++J []=J a:=List.append_nil _
   rw[f3] at c4; exact c4
  exact run_genB O (n:=60) (e9:=60) d2 hd (b:=[(b,B5 w.params p a3 a4 i T s1 b1 a6 a7 a8 a9 b0 b4 X a0 a1 a2 b8 b9 c0 c1 c2 f k),(c,A6 e (J a).length),(e,I (J a) c3)]) (t:=[]) (z:=[]) (e8:=λ_=>[]) (E:=[]) (d7:=c9) (H:=[2,1,4,0]) (K:=[(λd8=>Cm c e (J a) c3,[1,2],[])]) (l:=[0]) (b7:=[]) (d3:=λ_=>.ret (.ok .next)) (c1:=λ_=>[(b,B5 w.params p a3 a4 i T s1 b1 a6 a7 a8 a9 b0 b4 X a0 a1 a2 b8 b9 c0 c1 c2 f k)]) (b8:=λ_=>[]) (Bo (Bw O)) trivial (by kernel_rfl) c4 (λl c6 c7 d0 e0 d4 e4=>d5 f k c6 c7 d6 d0 e0 e4 d4) d3
 |cons q h r=>
  obtain⟨d,g⟩:=q
  intro a f k d6 e2 F c5 c4 d5 A d3
  refine Pe O d2 hd (a:=J a) (h:=J h) (g:=g) d6 (e2 _ (List.mem_cons_self ..)) c4 (λc8 e1 c6 c7 e6 d0 e0 d4=>?_) d3
  have f4:J a ++ .str d g::J h=J (a++[(d,g)])++J h:=by simp[J]
  have f5:((J a).length:Int)+1=((J (a++[(d,g)])).length:Int):=by simp[J]
  rw[f4,f5] at d0
  exact r (a++[(d,g)]) e6 (λe3 f7=>e2 e3 (List.mem_cons_of_mem _ f7)) d0 d5 d4
theorem OW{f:List DictEntry}{d7:List (Str×Nat)}(d6:Cp w.params f)(e2:∀e3∈d7,e3.1.length<1000):(Pl w.params p a3 a4 i T s1 b1 a6 a7 a8 a9 b0 b4 X a0 a1 a2 b8 b9 c0 c1 c2 b c f k e c3 d7).1.GOk (V w j o u) (BY 1 d7):=
 ⟨Spec.lenOkD rfl λ_=>rfl,λ_=>rfl,λd9 d1 e5 n m c9 d2 hd F c5 c4 d5 A d3=>
  KO O d2 hd d7 [] d6 e2 c4 (λc8 e1 c6 c7 e6 d0 e0 e4 d4=>by
   obtain⟨f8,rfl⟩:=Jt e6
   exact d5 [f8,e1] c6 c7 rfl d0 e0 e4 d4) d3⟩
theorem OM(d2:C9 d1 e5)(hd:e5+60<=n){a h:List Value}{d:Str}{g:Nat}{f:List DictEntry}(d6:Cp w.params f)(e2:d.length<1000){c5:Shared}(c4:RepF (V w j o u) [(b,B5 w.params p a3 a4 i T s1 b1 a6 a7 a8 a9 b0 b4 X a0 a1 a2 b8 b9 c0 c1 c2 f k),(c,A6 e a.length),(e,I (a ++ .str d g::h) c3)] [] (At d9 F) c5)(d5:∀c8 e1 c6 c7,Cp w.params c8->RepF (V w j o u) [(b,B5 w.params p a3 a4 i T s1 b1 a6 a7 a8 a9 b0 b4 X a0 a1 a2 b8 b9 c0 c1 c2 c8 e1),(c,A6 e (a.length+1)),(e,I (a ++ .str d g::h) c3)] [] (At d9 c6) c7->∀A,Room n A->SegX (model pw w) A (BM 2 b c) (denote table (BM 2 b c)) d1 c7 (Ev (V w j o u) n m c9 c6))(d3:Room n A):SegX (model pw w) A (BM 2 b c) (denote table (BM 2 b c)) d1 c5 (Ev (V w j o u) n m ((AV 2++d)::c9) F):=by
 have g2:sizeLine=16777216:=sizeLine_eq
 have f6:(AV 2).length+d.length<=sizeLine:=by
  have:(AV 2).length=1:=rfl
  lia
 have e9:∀(f:List DictEntry) (c8:(Nat->Nat)->List DictEntry) (e8:Nat),(∀l,Cp w.params (c8 l))->RepF (V w j o u) [(b,B5 w.params p a3 a4 i T s1 b1 a6 a7 a8 a9 b0 b4 X a0 a1 a2 b8 b9 c0 c1 c2 f k),(c,A6 e a.length),(e,I (a ++ .str d g::h) c3)] [] (At d9 F) c5 ->
   (qA w.params (V w j o u).kt 60 40 (BM 2 b c) (D (BM 2 b c)) [(b,B5 w.params p a3 a4 i T s1 b1 a6 a7 a8 a9 b0 b4 X a0 a1 a2 b8 b9 c0 c1 c2 f k),(c,A6 e a.length),(e,I (a ++ .str d g::h) c3)] [] [] [.one (AV 2++d)] [2,1,0,1,1,1,1,1] [(λd8=>AX c e a (.str d g) h c3,[1,2],[]),(λd8=>DE (AV 2) d (C d8 1) g,[],[])] [0,1,2] []=qB w.params (V w j o u).kt 60 40 (BM 2 b c) (D (BM 2 b c)) [(b,B5 w.params p a3 a4 i T s1 b1 a6 a7 a8 a9 b0 b4 X a0 a1 a2 b8 b9 c0 c1 c2 f k),(c,A6 e a.length),(e,I (a ++ .str d g::h) c3)] [] [] [.one (AV 2++d)] [2,1,0,1,1,1,1,1] [(λd8=>AX c e a (.str d g) h c3,[1,2],[]),(λd8=>DE (AV 2) d (C d8 1) g,[],[])] (λ_=>.again (BM 2 b c)) (λl=>[(b,B5 w.params p a3 a4 i T s1 b1 a6 a7 a8 a9 b0 b4 X a0 a1 a2 b8 b9 c0 c1 c2 (c8 l) e8),(c,A6 e (a.length+1)),(e,I (a ++ .str d g::h) c3)]) (λ_=>[]) (λ_=>[])) ->
   SegX (model pw w) A (BM 2 b c) (denote table (BM 2 b c)) d1 c5 (Ev (V w j o u) n m ((AV 2++d)::c9) F):=λf c8 e8 f0 c4 f2=>
  run_genB O (e9:=60) d2 hd (z:=[]) (e8:=λ_=>[]) (E:=[.one (AV 2++d)]) (d7:=c9) (d3:=λ_=>.again (BM 2 b c)) (BI (Av O) (D3 f6)) trivial f2 c4 (λl c6 c7 d0 e0 d4=>d5 _ _ c6 c7 (f0 l) d0 e0 d4) d3
 cases d6 with
 |s0=>exact e9 [] (λl=>[en w.params Bq (l 0) (.str d g)]) (k+1) (λl=>.s1 ..) c4 (by kernel_rfl)
 |s1 e7 g1 g0=>exact e9 [en w.params Bq e7 (.str g1 g0)] (λl=>[en w.params Bq e7 (.str d g)]) k (λl=>.s1 ..) c4 (by kernel_rfl)
theorem KL(d2:C9 d1 e5)(hd:e5+60<=n):∀(h a:List (Str×Nat)) {f:List DictEntry} {k:Nat},Cp w.params f->(∀e3∈h,e3.1.length<1000)->∀{F:AK} {c5:Shared},
  RepF (V w j o u) [(b,B5 w.params p a3 a4 i T s1 b1 a6 a7 a8 a9 b0 b4 X a0 a1 a2 b8 b9 c0 c1 c2 f k),(c,A6 e (J a).length),(e,I (J a++J h) c3)] [] (At d9 F) c5 ->
  (∀c8 e1 c6 c7,Cp w.params c8->RepF (V w j o u) [(b,B5 w.params p a3 a4 i T s1 b1 a6 a7 a8 a9 b0 b4 X a0 a1 a2 b8 b9 c0 c1 c2 c8 e1)] [] (At d9 c6) c7->∀A e4,Room n A->SegX (model pw w) A e4 (leafOf (.ok .next)) d1 c7 (Ev (V w j o u) n m c9 c6)) ->
  ∀{A:Around},Room n A->SegX (model pw w) A (BM 2 b c) (denote table (BM 2 b c)) d1 c5 (Ev (V w j o u) n m (BY 2 h++c9) F):=by
 intro s
 induction s with
 |nil=>
  intro a f k d6 e2 F c5 c4 d5 A d3
  have c4:RepF (V w j o u) [(b,B5 w.params p a3 a4 i T s1 b1 a6 a7 a8 a9 b0 b4 X a0 a1 a2 b8 b9 c0 c1 c2 f k),(c,A6 e (J a).length),(e,I (J a) c3)] [] (At d9 F) c5:=by
   have f3:J a++J []=J a:=List.append_nil _
   rw[f3] at c4; exact c4
  exact run_genB O (n:=60) (e9:=60) d2 hd (b:=[(b,B5 w.params p a3 a4 i T s1 b1 a6 a7 a8 a9 b0 b4 X a0 a1 a2 b8 b9 c0 c1 c2 f k),(c,A6 e (J a).length),(e,I (J a) c3)]) (t:=[]) (z:=[]) (e8:=λ_=>[]) (E:=[]) (d7:=c9) (H:=[2,1,4,0]) (K:=[(λd8=>Cm c e (J a) c3,[1,2],[])]) (l:=[0]) (b7:=[]) (d3:=λ_=>.ret (.ok .next)) (c1:=λ_=>[(b,B5 w.params p a3 a4 i T s1 b1 a6 a7 a8 a9 b0 b4 X a0 a1 a2 b8 b9 c0 c1 c2 f k)]) (b8:=λ_=>[]) (Bo (Bw O)) trivial (by kernel_rfl) c4 (λl c6 c7 d0 e0 d4 e4=>d5 f k c6 c7 d6 d0 e0 e4 d4) d3
 |cons q h r=>
  obtain⟨d,g⟩:=q
  intro a f k d6 e2 F c5 c4 d5 A d3
  refine OM O d2 hd (a:=J a) (h:=J h) (g:=g) d6 (e2 _ (List.mem_cons_self ..)) c4 (λc8 e1 c6 c7 e6 d0 e0 d4=>?_) d3
  have f4:J a ++ .str d g::J h=J (a++[(d,g)])++J h:=by simp[J]
  have f5:((J a).length:Int)+1=((J (a++[(d,g)])).length:Int):=by simp[J]
  rw[f4,f5] at d0
  exact r (a++[(d,g)]) e6 (λe3 f7=>e2 e3 (List.mem_cons_of_mem _ f7)) d0 d5 d4
theorem NR{f:List DictEntry}{d7:List (Str×Nat)}(d6:Cp w.params f)(e2:∀e3∈d7,e3.1.length<1000):(OQ w.params p a3 a4 i T s1 b1 a6 a7 a8 a9 b0 b4 X a0 a1 a2 b8 b9 c0 c1 c2 b c f k e c3 d7).1.GOk (V w j o u) (BY 2 d7):=
 ⟨Spec.lenOkD rfl λ_=>rfl,λ_=>rfl,λd9 d1 e5 n m c9 d2 hd F c5 c4 d5 A d3=>
  KL O d2 hd d7 [] d6 e2 c4 (λc8 e1 c6 c7 e6 d0 e0 e4 d4=>by
   obtain⟨f8,rfl⟩:=Jt e6
   exact d5 [f8,e1] c6 c7 rfl d0 e0 e4 d4) d3⟩
end
end
section
theorem Hm{w:World}{p:Code}{m:List Frame}{s:End->Shared->Prop}{α:Type}{l:Shared}{t:Sem α}{x:α->Sem Fin}{g:Value->Sem Fin}(f:wpAny (model pw w) (A.over p m) t (λa n=>SegX (model pw w) A p (x a) m n s) (λ_ _=>False) l):SegX (model pw w) A p (t.wrap x g id id) m l s:=by
 rintro Γ k rfl gΓ
 obtain⟨i,n,X,T⟩:=runs_wrap_of_wp (Φ:=λi n=>i.quiet=true/\s i n) x g id id t (f (Γ.over m) k (gΓ.over m)) (λa a1 n M=>M Γ a1 rfl gΓ) (λ_ _ _ c=>c.elim)
 exact⟨i,n,X,T⟩
theorem SA{α β γ δ:Type}(t:Sem α)(E:α->Sem β)(G:β->Sem γ)(H:γ->Sem δ)(g:Value->Sem Unit) :
  (((t.bind E).bind G).bind H).onRaise g=t.wrap (λa=>(((E a).bind G).bind H).onRaise g) (λi=>(g i).bind λ_=>.raise i) id id:=by
 induction t <;> simp only[Sem.bind,Sem.onRaise,Sem.wrap,id, *]
noncomputable abbrev CN(d:List Stmt)(b:Env):Sem Flow:=PySem.W.Fast.tw12563942051412417395 d b
noncomputable def FD(c:Flow)(f:Sem Flow):Sem Flow:=match c with
 |.next=>f
 |.cont=>.pure .cont
 |.brk=>.pure .brk
 |.ret r=>.pure (.ret r)
noncomputable def EM(v:Stmt)(it:Nat)(b:Env)(c:Flow):Sem Fin:=match c with
 |.next=>.pure (.again (.forLoop (Eb v) (.ref it) (Ch v) (I9 v) b))
 |.cont=>.pure (.again (.forLoop (Eb v) (.ref it) (Ch v) (I9 v) b))
 |.brk=>.pure (.done .next)
 |.ret r=>.pure (.done (.ret r))
noncomputable def Dj(v:Stmt)(it:Nat)(b:Env)(d e:List Stmt):Sem Fin:=
 PySem.W.R.onRaiseR (PySem.W.R.bindR (PySem.W.R.bindR (CN d b) λc=>FD c (CN e b)) (EM v it b)) (λf=>do noteFrame f b; theTreesLotGoes f)
theorem J1(v:Stmt)(it:Nat)(b:Env)(d e:List Stmt):Dj v it b d e=(((execs d b).bind λc=>FD c (execs e b)).bind (EM v it b)).onRaise (λf=>do noteFrame f b; theTreesLotGoes f):=by
 unfold Dj CN
 rw[<-PySem.W.R.onRaiseR_eq,<-PySem.W.R.bindR_eq,<-PySem.W.Fast.te12563942051412417395]
noncomputable def K1:Stmt->PySem.Expr
 |.If h _ _ _=>h
 |_=>.Constant .none 0 default
noncomputable def MK:Stmt->Bool
 |.If _ _ [] _=>true
 |_=>false
noncomputable def Im:Stmt->List Stmt
 |.If _ d _ _=>d
 |_=>[]
theorem Q5{w:World}{p:Code}{m:List Frame}{s:End->Shared->Prop}{l:Shared}{v:Stmt}{it:Nat}{b:Env}{q:Stmt}{e:List Stmt}(D:MK q=true)(g:wpAny (model pw w) (A.over p m) (isTrue (K1 q) b (eval (K1 q) b)) (λd n=>SegX (model pw w) A p (Dj v it b (cond d (Im q) []) e) m n s) (λ_ _=>False) l) :
  SegX (model pw w) A p (Dj v it b [] (q::e)) m l s:=by
 have a0:∀h d k,q = .If h d [] k->SegX (model pw w) A p (Dj v it b [] (q::e)) m l s:=by
  rintro h d k rfl
  rw[J1]
  have i:((((execs [] b).bind λc=>FD c (execs (.If h d [] k::e) b)).bind (EM v it b)).onRaise (λf=>do noteFrame f b; theTreesLotGoes f)) =
    (((((standAt k).bind λ_=>isTrue h b (eval h b)).bind λz=>if z then execs d b else execs [] b).bind λc=>FD c (execs e b)).bind (EM v it b)).onRaise (λf=>do noteFrame f b; theTreesLotGoes f):=by
   have L:(execs [] b).bind (λc=>FD c (execs (.If h d [] k::e) b))=((exec (.If h d [] k) b).bind λc=>FD c (execs e b)):=by
    show execs (.If h d [] k::e) b=_
    rw[arm_execs_cons]
    show Sem.bind _ _=_
    congr 1
    funext c
    cases c <;> rfl
   rw[L,arm_exec_If]
   rfl
  rw[i,SA]
  refine Hm (wpAny_bind (wpAny_standAt (wpAny_mono g (λz n y=>?_) λ_ _ c=>c)))
  rw[J1] at y
  cases z with
  |true=>exact y
  |false=>exact y
 cases q <;> first |(rename_i h d o k; cases o with |nil=>exact a0 h d k rfl |cons=>cases D) |cases D
theorem H2{w:World}{K:VP}{b:Env}{name:Str}{r:Value}{o:Obj}{l:Shared}{B:VP}(N:b.scope.kind = .function)(P:b.kindOf name=some .local)(S:l.heap.get? b.locals=some o)(Q:nsLook name o = .pure (some r))(g:B r l):wpAny (model pw w) A (loadName b name) B K l:=by
 have i:loadName b name=(nsGet b.locals name>>=λe=>match e with
  |some r=>pure r
  |none=>do
   rule "name.local.unbound"
   raiseError "UnboundLocalError" s!"cannot access local variable '{name.toString}' where it is not associated with a value"):=by
  unfold loadName Env.blockKind
  rw[N,P]
  rfl
 rw[i]
 refine wpAny_bind ?_
 unfold nsGet
 refine wpAny_bind (wpAny_loadPart S ?_)
 rw[Q]
 exact wpAny_pure (wpAny_pure g)
end
section
noncomputable def NZ:PySem.Expr->Bool
 |.Compare _ [g7] [h] _=>behindInMarks g7 h
 |_=>false
noncomputable def Wr:PySem.Expr->List Nat×List Pos
 |.Compare (.Name _ e9) _ [.Set [.Constant _ e7 f0,.Constant _ e8 f1] _ f2] f3=>([e7,e8],[e9,f0,f1,f2,f3])
 |_=>([],[])
noncomputable def Wz(id k r:Str)(B:List Nat×List Pos):PySem.Expr:=.Compare (.Name id (W default B.2 0)) [.In] [.Set [.Constant (.str k) (W 0 B.1 0) (W default B.2 1),.Constant (.str r) (W 0 B.1 1) (W default B.2 2)] 0 (W default B.2 3)] (W default B.2 4)
noncomputable def Hv(v:Stmt)(b:Nat)(d:Env)(p:Value):Sem Fin:=
 PySem.W.R.onRaiseR (PySem.W.R.bindR (PySem.W.Fast.tw17772580674575903948 (Eb v) d p) λ_=>PySem.W.R.bindR (PySem.W.R.bindR (CN [] d) λa=>FD a (CN (Ch v) d)) (EM v b d)) (λk=>do noteFrame k d; theTreesLotGoes k)
theorem No(v:Stmt)(b:Nat)(d:Env)(p:Value):Hv v b d p=((assign (Eb v) d p).bind λ_=>(execs (Ch v) d).bind (EM v b d)).onRaise (λk=>do noteFrame k d; theTreesLotGoes k):=by
 unfold Hv CN
 rw[<-PySem.W.R.onRaiseR_eq,<-PySem.W.R.bindR_eq,<-PySem.W.Fast.te12563942051412417395,<-PySem.W.Fast.te17772580674575903948]
 rfl
theorem KV{α β:Type}(d8:Sem α)(e6:α->Sem β)(c:Value->Sem Unit) :
  (d8.bind e6).onRaise c=d8.wrap (λz=>(e6 z).onRaise c) (λh=>(c h).bind λ_=>.raise h) id id:=by
 induction d8 <;> simp only[Sem.bind,Sem.onRaise,Sem.wrap,id, *]
theorem Lt{w:World}{e:Code}{f:List Frame}{g:End->Shared->Prop}{l:Shared}{v:Stmt}{b:Nat}{d:Env}(c:wpAny (model pw w) (A.over e f) (pyNext (.ref b)) (λd5 e1=>∃p,d5=some p/\wpAny (model pw w) (A.over e f) (letOwnedTupleGo (Eb v) (.ref b) p)
   (λ_ f4=>SegX (model pw w) A e (Hv v b d p) f f4 g) (λ_ _=>False) e1) (λ_ _=>False) l) :
  SegX (model pw w) A e (denote table (Ff v b d)) f l g:=by
 show SegX (model pw w) A e ((forTurn (Eb v) (.ref b) (Ch v) (I9 v) d).onRaise (λk=>do noteFrame k d; theTreesLotGoes k)) f l g
 unfold forTurn
 show SegX (model pw w) A e (Sem.onRaise (Sem.bind (standAt (Eb v).pos) _) _) f l g
 rw[KV]
 refine Hm (wpAny_standAt ?_)
 show SegX (model pw w) A e (Sem.onRaise (Sem.bind ((pyNext (.ref b)).onRaise _) _) _) f l g
 rw[KV]
 refine Hm (wpAny_onRaise (wpAny_mono c (λd5 e1 b7=>?_) λ_ _ a=>a.elim))
 obtain⟨p,rfl,b7⟩:=b7
 show SegX (model pw w) A e (Sem.onRaise (Sem.bind (letOwnedTupleGo (Eb v) (.ref b) p) _) _) f e1 g
 rw[KV]
 refine Hm (wpAny_mono b7 (λ_ f4 r=>?_) λ_ _ a=>a)
 rw[No] at r
 have h:(λa:Flow=>EM v b d a)=λa=>match a with
  |.next |.cont=>again (.forLoop (Eb v) (.ref b) (Ch v) (I9 v) d)
  |.brk=>pure (.done .next)
  |.ret p=>pure (.done (.ret p)):=by
  funext a; cases a <;> rfl
 have f5:EM v b d=λa=>match a with
  |.next |.cont=>again (.forLoop (Eb v) (.ref b) (Ch v) (I9 v) d)
  |.brk=>pure (.done .next)
  |.ret p=>pure (.done (.ret p)):=h
 rw[f5] at r
 exact r
theorem Ng{b8:Cx}(O:b8.Ok){e:Code}{f:List Frame}{g:End->Shared->Prop}{l:Shared}{v:Stmt}{b n d9:Nat}{d:Env}{c3 e0:List Value}{z:Nat}(f7:Room 10 (A.over e f))(s:RepF b8 [(b,A6 n c3.length),(n,I (c3 ++ .ref z::e0) d9)] [] F l)(c:∀i,RepF b8 [(b,A6 n (c3.length+1)),(n,I (c3 ++ .ref z::e0) d9)] [] F i->SegX (model pw b8.w) A e (Hv v b d (.ref z)) f i g):SegX (model pw b8.w) A e (denote table (Ff v b d)) f l g:=by
 refine Lt ?_
 unfold pyNext
 have f9:l.TypeIs (.ref b) "list_iterator":=⟨_,RepF.get0 s,rfl⟩
 refine wpAny_bind (wpAny_attempt (wpAny_callSpecial?_slot (name:=Str.ofString "__next__") f9 slot_listiter_next (Spec.call_of (Av O) rfl f7 s λp i g9 g4=>⟨_,rfl,?_⟩)))
 refine wpAny_pure ⟨_,rfl,?_⟩
 have e5:RepF b8 [(b,A6 n (c3.length+1)),(n,I (c3 ++ .ref z::e0) d9)] [] F i:=g4
 have b7:=c i e5
 have e3:=RepF.get0 e5
 generalize Eb v=c9
 unfold letOwnedTupleGo
 cases c9 with
 |Tuple |List=>
  refine wpAny_bind (wpAny_load e3 ?_)
  show wpAny _ _ (if(["enumerate","zip","dict_itemiterator","dict_reverseitemiterator","odict_iterator","itertools.zip_longest","itertools.pairwise"].contains "list_iterator" && _)=true then _ else _) _ _ _
  rw[if_neg (by simp)]
  exact wpAny_pure b7
 |_=>exact wpAny_pure b7
noncomputable def Kz(a b z:Nat):Sem Fin:=Hv Cj b (DV a) (.ref z)
noncomputable def Kk(a b:Nat):Sem Fin:=Dj Cj b (DV a) [] (W B6 (Ch Cj) 1::[W B6 (Ch Cj) 2])
noncomputable def Ql(a b:Nat):Sem Fin:=Dj Cj b (DV a) [] [W B6 (Ch Cj) 2]
noncomputable def SQ(a b:Nat):Sem Fin:=Dj Cj b (DV a) (Im (W B6 (Ch Cj) 1)) [W B6 (Ch Cj) 2]
noncomputable def RK(a b:Nat):Sem Fin:=Dj Cj b (DV a) (Im (W B6 (Ch Cj) 2)) []
noncomputable def SJ(a b:Nat):Sem Fin:=Dj Cj b (DV a) [] []
noncomputable def RD(a b:Nat):Bool->Sem Fin
 |true=>SQ a b
 |false=>Ql a b
noncomputable def Ss(a b:Nat):Bool->Sem Fin
 |true=>RK a b
 |false=>SJ a b
theorem QN:MK (W B6 (Ch Cj) 1)=true:=by kernel_rfl
theorem QE:MK (W B6 (Ch Cj) 2)=true:=by kernel_rfl
theorem Qm:K1 (W B6 (Ch Cj) 1)=Wz Hs (AC .rep) (AC .del) (Wr (K1 (W B6 (Ch Cj) 1))):=by kernel_rfl
theorem PZ:K1 (W B6 (Ch Cj) 2)=Wz Hs (AC .rep) (AC .ins) (Wr (K1 (W B6 (Ch Cj) 2))):=by kernel_rfl
theorem QP:NZ (K1 (W B6 (Ch Cj) 1))=true:=by kernel_rfl
theorem R3:NZ (K1 (W B6 (Ch Cj) 2))=true:=by kernel_rfl
theorem Ni(a:Nat):(DV a).kindOf Hs=some .local:=by kernel_rfl
theorem Pu(a:Nat):(DV a).scope.kind = .function:=by kernel_rfl
noncomputable def FK:Data->Option (Array Value)
 |.fields q=>some q
 |_=>none
theorem Mb{e2:Data}{q:Array Value}(c:FK e2=some q):e2 = .fields q:=by
 unfold FK at c
 split at c
 ·cases c; rfl
 ·cases c
noncomputable def Rq:Tg->Bool
 |.rep=>true
 |.del=>true
 |_=>false
noncomputable def Rb:Tg->Bool
 |.rep=>true
 |.ins=>true
 |_=>false
noncomputable def Rr:Option Obj->Bool
 |some o=>(FK o.data).isSome
 |none=>false
theorem Ol{k:Option Obj}(c:Rr k=true):∃o q,k=some o/\o.data = .fields q:=by
 cases k with
 |none=>cases c
 |some o=>
  have c:(FK o.data).isSome=true:=c
  cases hd:FK o.data with
  |none=>rw[hd] at c; cases c
  |some q=>exact⟨o,q,rfl,Mb hd⟩
theorem OY(m:Tg):(decide (AC m=AC .rep)||decide (AC m=AC .del))=Rq m:=by cases m <;> decide +kernel
theorem P4(m:Tg):(decide (AC m=AC .rep)||decide (AC m=AC .ins))=Rb m:=by cases m <;> decide +kernel
section
variable(g:Params)(D:Nat->Nat)(a2 a3:Nat)(a5:Int)(n:Nat)(a6 a7:Str)
noncomputable def Je(h:Nat):Obj:=Bl (T1 g D a2 a3 a5 n a6 a7) h
end
section
variable{D:Nat->Nat}{a2 a3:Nat}{a5:Int}{n:Nat}{a6 a7:Str}{c4 c5 c6 c7 c8:Nat}{c9:Str}{b9 c0 c1 c2:Int}{b6 d0 d1 d2 d3:Nat}{a b:Nat}
include O
omit O in
theorem Ou:Rr ((V w j o u).kt.get 260)=true:=by kernel_rfl
theorem Mx{k r:Str}{d4:Stmt}{d5:List Stmt}{y:An}{x:Gs}{l:Shared}{f:List Frame}{e:Code}{g:End->Shared->Prop}{b3:List DictEntry}{h:Nat}(g0:MK d4=true){B:List Nat×List Pos}(g5:K1 d4=Wz Hs k r B)(e4:NZ (K1 d4)=true)(s:RepF (V w j o u) ((a,B5 w.params D a2 a3 a5 n a6 a7 c4 c5 c6 c7 c8 c9 b9 c0 c1 c2 b6 d0 d1 d2 d3 b3 h)::y) x F l)(c:∀i,RepF (V w j o u) ((a,B5 w.params D a2 a3 a5 n a6 a7 c4 c5 c6 c7 c8 c9 b9 c0 c1 c2 b6 d0 d1 d2 d3 b3 h)::y) x F i ->
   SegX (model pw w) A e (Dj Cj b (DV a) (cond (decide (c9=k)||decide (c9=r)) (Im d4) []) d5) f i g):SegX (model pw w) A e (Dj Cj b (DV a) [] (d4::d5)) f l g:=by
 refine Q5 g0 ?_
 rw[g5] at e4 ⊢
 obtain⟨g6,q,g1,hd⟩:=Ol (Ou (w:=w) (j:=j) (o:=o) (u:=u))
 refine OH (A:=260) (e:=g6) (Q:=q) (O:=c9) (n:=b6) (λg8 f8=>?_) rfl (Rep.top O s g1) hd e4 λi g3=>c i (RepF.off O s g3)
 rw[arm_eval_Name]
 refine wpAny_bind (wpAny_standAt ?_)
 have g2:(Hs==("__debug__" : Str))=false:=by decide +kernel
 rw[g2]
 exact H2 (Pu a) (Ni a) (RepF.get0 s) (by kernel_rfl) f8
theorem OG{y:An}{x:Gs}{l:Shared}{f:List Frame}{e:Code}{g:End->Shared->Prop}{b3:List DictEntry}{h:Nat}{m:Tg}(s:RepF (V w j o u) ((a,B5 w.params D a2 a3 a5 n a6 a7 c4 c5 c6 c7 c8 (AC m) b9 c0 c1 c2 b6 d0 d1 d2 d3 b3 h)::y) x F l){b4:Bool}(d6:Rq m=b4)(c:∀i,RepF (V w j o u) ((a,B5 w.params D a2 a3 a5 n a6 a7 c4 c5 c6 c7 c8 (AC m) b9 c0 c1 c2 b6 d0 d1 d2 d3 b3 h)::y) x F i ->
   SegX (model pw w) A e (RD a b b4) f i g):SegX (model pw w) A e (Kk a b) f l g:=by
 refine Mx O QN Qm QP s λi d7=>?_
 have:=c i d7
 rw[OY,d6]
 cases b4 with
 |true=>exact this
 |false=>exact this
theorem OO{y:An}{x:Gs}{l:Shared}{f:List Frame}{e:Code}{g:End->Shared->Prop}{b3:List DictEntry}{h:Nat}{m:Tg}(s:RepF (V w j o u) ((a,B5 w.params D a2 a3 a5 n a6 a7 c4 c5 c6 c7 c8 (AC m) b9 c0 c1 c2 b6 d0 d1 d2 d3 b3 h)::y) x F l){b4:Bool}(d6:Rb m=b4)(c:∀i,RepF (V w j o u) ((a,B5 w.params D a2 a3 a5 n a6 a7 c4 c5 c6 c7 c8 (AC m) b9 c0 c1 c2 b6 d0 d1 d2 d3 b3 h)::y) x F i ->
   SegX (model pw w) A e (Ss a b b4) f i g):SegX (model pw w) A e (Ql a b) f l g:=by
 refine Mx O QE PZ R3 s λi d7=>?_
 have:=c i d7
 rw[P4,d6]
 cases b4 with
 |true=>exact this
 |false=>exact this
end
end
section
theorem RepF.toH{e9:Cx}{e7 e5 e8:An}{d5:Gs}{b0 F:AK}{b7:Shared}(f7:RepF e9 e7 d5 (At b0 F) b7)(b1:e7.Perm (e8++e5)):RepF e9 e8 d5 (At (e5++b0.1,b0.2) F) b7:=by
 have d6:Rep e9 (e8++(e5++(b0.1++F.1))) (d5++(b0.2++F.2)) b7:=RepF.out f7 b1
 show Rep e9 (e8++((e5++b0.1)++F.1)) (d5++(b0.2++F.2)) b7
 rw[List.append_assoc e5]
 exact d6
theorem RepF.fromH{e9:Cx}{e5 e8:An}{d5:Gs}{b0 F:AK}{b7:Shared}(f7:RepF e9 e8 d5 (At (e5++b0.1,b0.2) F) b7):RepF e9 (e8++e5) d5 (At b0 F) b7:=by
 have d6:Rep e9 (e8++((e5++b0.1)++F.1)) (d5++(b0.2++F.2)) b7:=f7
 rw[List.append_assoc e5] at d6
 exact RepF.into (F:=At b0 F) (show RepF e9 e8 d5 (e5++(At b0 F).1,(At b0 F).2) b7 from d6)
theorem NB{b:List (Str×Nat)}{g2 g3:Int}{f1:Str×Nat}(f7:f1∈Be b g2 g3):f1∈b:=List.mem_of_mem_drop (List.mem_of_mem_take f7)
noncomputable def CF(b:List (Str×Nat)):Prop:=∀f1∈b,f1.1.length<1000
theorem CF.sub{b:List (Str×Nat)}{g2 g3:Int}(f7:CF b):∀f1∈Be b g2 g3,f1.1.length<1000:=λf1 g6=>f7 f1 (NB g6)
noncomputable def BE(b a6:List (Str×Nat))(d4:Bd):List Str:=match d4.1 with
 |.eql=>BY 0 (Be b d4.2.1 d4.2.2.1)
 |.rep=>BY 1 (Be b d4.2.1 d4.2.2.1)++BY 2 (Be a6 d4.2.2.2.1 d4.2.2.2.2)
 |.del=>BY 1 (Be b d4.2.1 d4.2.2.1)
 |.ins=>BY 2 (Be a6 d4.2.2.2.1 d4.2.2.2.2)
structure D2(b a6:List (Str×Nat))(d4:Bd):Prop where
 i0:0<=d4.2.1
 i1:d4.2.1<=d4.2.2.1
 i2:d4.2.2.1<=b.length
 j0:0<=d4.2.2.2.1
 j1:d4.2.2.2.1<=d4.2.2.2.2
 j2:d4.2.2.2.2<=a6.length
section
variable{n:Nat->Nat}{d e:Nat}{l:Int}{Q:Nat}{T X:Str}{b2 b3 b4 b5 b6:Nat}{d2:Str}{i1 i2 j1 j2:Int}{d3 c8 c9 d0 d1:Nat}{a g b1 g7 m a9 b8 b9 c1 c2 c5 c7:Nat}{c6:List DictEntry}{P:Tg}{i k c3 c4:Int}{b a6:List (Str×Nat)}{b0:AK}{d7:List Frame}{g5 c0:Nat}{d8:AK->End->Shared->Prop}{a5:List Str}(f0:C9 d7 g5)(g8:g5+100<=c0)
include O f0 g8
theorem Tf(g9:CF b)(f9:b.length<=sizeLine)(f2:0<=i)(f3:i<=k)(f4:k<=b.length)(f8:((AC P).cps.toList==[101,113,117,97,108])=true){b7:Shared}(e3:RepF (V w j o u) [(a,Je w.params n d e l Q T X b1),(m,Ar (m,(P,i,k,c3,c4),a9,b8,b9,c1,c2)),(d,I (J b) c5),(e,I (J a6) c7)] [] (At b0 F) b7)(e2:∀b2 b3 b4 b5 b6 e6 f5 a7 a8,Cp w.params e6->RepF (V w j o u) [(a,B5 w.params n d e l Q T X b2 b3 b4 b5 b6 (AC P) i k c3 c4 a9 b8 b9 c1 c2 e6 f5),(m,Ar (m,(P,i,k,c3,c4),a9,b8,b9,c1,c2)),(d,I (J b) c5),(e,I (J a6) c7)] [] (At b0 a7) a8->∀A,Room c0 A->SegX (model pw w) A (BH a g) (denote table (BH a g)) d7 a8 (Ev (V w j o u) c0 d8 a5 a7))(e0:Room c0 A):SegX (model pw w) A (BH a g) (Kz a g m) d7 b7 (Ev (V w j o u) c0 d8 (BY 0 (Be b i k)++a5) F):=by
 have d6:=run_genTr O (e9:=100) (n:=205) f0 g8 (w:=BH a g) (b0:=Kz a g m) (b:=[(a,Je w.params n d e l Q T X b1),(m,Ar (m,(P,i,k,c3,c4),a9,b8,b9,c1,c2)),(d,I (J b) c5),(e,I (J a6) c7)]) (t:=[]) (z:=[]) (e8:=λ_=>[]) (E:=[.many (λf=>(Ks w.params n d e l Q T X (C f 3) (C f 4) (C f 5) (C f 6) (C f 7) (AC P) i k c3 c4 a9 b8 b9 c1 c2 a (C f 11) [] (b1+5) (C f 10) 0 (Be b i k)).1) [0,9,8] [] (BY 0 (Be b i k))]) (d7:=a5) (H:=hd 0x420820400851401451421451401451421451401451421451401451421451401451421451401451421451c00410010400410010400410410410410c30c124904024a081) (K:=[(λf=>AY (AC P) ⟨⟨[101,113,117,97,108]⟩⟩ a9 (C f 8) true,[],[]),(λf=>K8 d c5 (C f 9) b i k b8 b9,[2,7],[])]) (l:=[7,0,1,2]) (b7:=[]) (d3:=λ_=>.again (BH a g)) (c1:=λh=>[(a,B5 w.params n d e l Q T X (h 3) (h 4) (h 5) (h 6) (h 7) (AC P) i k c3 c4 a9 b8 b9 c1 c2 (Hn w.params (h 12)) (h 13)),(m,Ar (m,(P,i,k,c3,c4),a9,b8,b9,c1,c2)),(d,I (J b) c5),(e,I (J a6) c7)]) (b8:=λ_=>[]) (BI (Ai O f8) (FJ O f9 f2 f3 f4)) ⟨λf=>Kq O .s0 g9.sub,trivial⟩ (by kernel_rfl) e3 (λh a7 a8 e4 d9 e1=>e2 (h 3) (h 4) (h 5) (h 6) (h 7) _ _ a7 a8 (Hd _) e4 d9 e1) e0
 have f6:(Dh [.many (λf=>(Ks w.params n d e l Q T X (C f 3) (C f 4) (C f 5) (C f 6) (C f 7) (AC P) i k c3 c4 a9 b8 b9 c1 c2 a (C f 11) [] (b1+5) (C f 10) 0 (Be b i k)).1) [0,9,8] [] (BY 0 (Be b i k))]).flatten++a5=BY 0 (Be b i k)++a5:=by simp[Dh]
 rw[f6] at d6
 exact d6
theorem UF(g1:Cp w.params c6)(g9:CF b)(f9:b.length<=sizeLine)(f2:0<=i)(f3:i<=k)(f4:k<=b.length)(f8:((AC P).cps.toList==[101,113,117,97,108])=true){b7:Shared}(e3:RepF (V w j o u) [(a,B5 w.params n d e l Q T X b2 b3 b4 b5 b6 d2 i1 i2 j1 j2 d3 c8 c9 d0 d1 c6 b1),(m,Ar (m,(P,i,k,c3,c4),a9,b8,b9,c1,c2)),(d,I (J b) c5),(e,I (J a6) c7)] [] (At b0 F) b7)(e2:∀e6 f5 a7 a8,Cp w.params e6->RepF (V w j o u) [(a,B5 w.params n d e l Q T X b2 b3 b4 b5 b6 (AC P) i k c3 c4 a9 b8 b9 c1 c2 e6 f5),(m,Ar (m,(P,i,k,c3,c4),a9,b8,b9,c1,c2)),(d,I (J b) c5),(e,I (J a6) c7)] [] (At b0 a7) a8->∀A,Room c0 A->SegX (model pw w) A (BH a g) (denote table (BH a g)) d7 a8 (Ev (V w j o u) c0 d8 a5 a7))(e0:Room c0 A):SegX (model pw w) A (BH a g) (Kz a g m) d7 b7 (Ev (V w j o u) c0 d8 (BY 0 (Be b i k)++a5) F):=by
 have d6:=run_genTr O (e9:=100) (n:=205) f0 g8 (w:=BH a g) (b0:=Kz a g m) (b:=[(a,B5 w.params n d e l Q T X b2 b3 b4 b5 b6 d2 i1 i2 j1 j2 d3 c8 c9 d0 d1 c6 b1),(m,Ar (m,(P,i,k,c3,c4),a9,b8,b9,c1,c2)),(d,I (J b) c5),(e,I (J a6) c7)]) (t:=[]) (z:=[]) (e8:=λ_=>[]) (E:=[.many (λf=>(Ks w.params n d e l Q T X b2 b3 b4 b5 b6 (AC P) i k c3 c4 a9 b8 b9 c1 c2 a (C f 11) c6 b1 (C f 10) 0 (Be b i k)).1) [0,9,8] [] (BY 0 (Be b i k))]) (d7:=a5) (H:=hd 0x420820400851401451421451401451421451401451421451401451421451401451421451401451421451c00410010400410010400410410410410c30c124904024a081) (K:=[(λf=>AY (AC P) ⟨⟨[101,113,117,97,108]⟩⟩ a9 (C f 8) true,[],[]),(λf=>K8 d c5 (C f 9) b i k b8 b9,[2,7],[])]) (l:=[7,0,1,2]) (b7:=[]) (d3:=λ_=>.again (BH a g)) (c1:=λh=>[(a,B5 w.params n d e l Q T X b2 b3 b4 b5 b6 (AC P) i k c3 c4 a9 b8 b9 c1 c2 (Hn w.params (h 12)) (h 13)),(m,Ar (m,(P,i,k,c3,c4),a9,b8,b9,c1,c2)),(d,I (J b) c5),(e,I (J a6) c7)]) (b8:=λ_=>[]) (BI (Ai O f8) (FJ O f9 f2 f3 f4)) ⟨λf=>Kq O g1 g9.sub,trivial⟩ (by kernel_rfl) e3 (λh a7 a8 e4 d9 e1=>e2 _ _ a7 a8 (Hd _) e4 d9 e1) e0
 have f6:(Dh [.many (λf=>(Ks w.params n d e l Q T X b2 b3 b4 b5 b6 (AC P) i k c3 c4 a9 b8 b9 c1 c2 a (C f 11) c6 b1 (C f 10) 0 (Be b i k)).1) [0,9,8] [] (BY 0 (Be b i k))]).flatten++a5=BY 0 (Be b i k)++a5:=by simp[Dh]
 rw[f6] at d6
 exact d6
theorem Ox(f8:((AC P).cps.toList==[101,113,117,97,108])=false){b7:Shared}(e3:RepF (V w j o u) [(a,Je w.params n d e l Q T X b1),(m,Ar (m,(P,i,k,c3,c4),a9,b8,b9,c1,c2)),(d,I (J b) c5),(e,I (J a6) c7)] [] (At b0 F) b7)(e2:∀b2 b3 b4 b5 b6 a7 a8,RepF (V w j o u) [(a,B5 w.params n d e l Q T X b2 b3 b4 b5 b6 (AC P) i k c3 c4 a9 b8 b9 c1 c2 [] (b1+5)),(m,Ar (m,(P,i,k,c3,c4),a9,b8,b9,c1,c2)),(d,I (J b) c5),(e,I (J a6) c7)] [] (At b0 a7) a8->∀A,Room c0 A->SegX (model pw w) A (BH a g) (Kk a g) d7 a8 (Ev (V w j o u) c0 d8 a5 a7))(e0:Room c0 A):SegX (model pw w) A (BH a g) (Kz a g m) d7 b7 (Ev (V w j o u) c0 d8 a5 F):=
 run_genTr O (e9:=100) (n:=118) f0 g8 (w:=BH a g) (b0:=Kz a g m) (b:=[(a,Je w.params n d e l Q T X b1),(m,Ar (m,(P,i,k,c3,c4),a9,b8,b9,c1,c2)),(d,I (J b) c5),(e,I (J a6) c7)]) (t:=[]) (z:=[]) (e8:=λ_=>[]) (E:=[]) (d7:=a5) (H:=hd 0x1082081002145005145085145005145085145005145085145005145085145005145085145005145085147001040041001040041001041041) (K:=[(λf=>AY (AC P) ⟨⟨[101,113,117,97,108]⟩⟩ a9 (C f 8) false,[],[])]) (l:=[0,1,2,3]) (b7:=[]) (d3:=λ_=>.tree (BH a g) [] (Kk a g)) (c1:=λh=>[(a,B5 w.params n d e l Q T X (h 3) (h 4) (h 5) (h 6) (h 7) (AC P) i k c3 c4 a9 b8 b9 c1 c2 [] (b1+5)),(m,Ar (m,(P,i,k,c3,c4),a9,b8,b9,c1,c2)),(d,I (J b) c5),(e,I (J a6) c7)]) (b8:=λ_=>[]) (Bo (Ai O f8)) trivial (by kernel_rfl) e3 (λh a7 a8 e4 d9 e1 g4 g0=>by cases g0; exact e2 (h 3) (h 4) (h 5) (h 6) (h 7) a7 a8 e4 d9 e1) e0
theorem On(f8:((AC P).cps.toList==[101,113,117,97,108])=false){b7:Shared}(e3:RepF (V w j o u) [(a,B5 w.params n d e l Q T X b2 b3 b4 b5 b6 d2 i1 i2 j1 j2 d3 c8 c9 d0 d1 c6 b1),(m,Ar (m,(P,i,k,c3,c4),a9,b8,b9,c1,c2)),(d,I (J b) c5),(e,I (J a6) c7)] [] (At b0 F) b7)(e2:∀a7 a8,RepF (V w j o u) [(a,B5 w.params n d e l Q T X b2 b3 b4 b5 b6 (AC P) i k c3 c4 a9 b8 b9 c1 c2 c6 b1),(m,Ar (m,(P,i,k,c3,c4),a9,b8,b9,c1,c2)),(d,I (J b) c5),(e,I (J a6) c7)] [] (At b0 a7) a8->∀A,Room c0 A->SegX (model pw w) A (BH a g) (Kk a g) d7 a8 (Ev (V w j o u) c0 d8 a5 a7))(e0:Room c0 A):SegX (model pw w) A (BH a g) (Kz a g m) d7 b7 (Ev (V w j o u) c0 d8 a5 F):=
 run_genTr O (e9:=100) (n:=118) f0 g8 (w:=BH a g) (b0:=Kz a g m) (b:=[(a,B5 w.params n d e l Q T X b2 b3 b4 b5 b6 d2 i1 i2 j1 j2 d3 c8 c9 d0 d1 c6 b1),(m,Ar (m,(P,i,k,c3,c4),a9,b8,b9,c1,c2)),(d,I (J b) c5),(e,I (J a6) c7)]) (t:=[]) (z:=[]) (e8:=λ_=>[]) (E:=[]) (d7:=a5) (H:=hd 0x1082081002145005145085145005145085145005145085145005145085145005145085145005145085147001040041001040041001041041) (K:=[(λf=>AY (AC P) ⟨⟨[101,113,117,97,108]⟩⟩ a9 (C f 8) false,[],[])]) (l:=[0,1,2,3]) (b7:=[]) (d3:=λ_=>.tree (BH a g) [] (Kk a g)) (c1:=λh=>[(a,B5 w.params n d e l Q T X b2 b3 b4 b5 b6 (AC P) i k c3 c4 a9 b8 b9 c1 c2 c6 b1),(m,Ar (m,(P,i,k,c3,c4),a9,b8,b9,c1,c2)),(d,I (J b) c5),(e,I (J a6) c7)]) (b8:=λ_=>[]) (Bo (Ai O f8)) trivial (by kernel_rfl) e3 (λh a7 a8 e4 d9 e1 g4 g0=>by cases g0; exact e2 a7 a8 e4 d9 e1) e0
theorem Tk(g1:Cp w.params c6)(g9:CF b)(f9:b.length<=sizeLine)(f2:0<=i1)(f3:i1<=i2)(f4:i2<=b.length){b7:Shared}(e3:RepF (V w j o u) [(a,B5 w.params n d e l Q T X b2 b3 b4 b5 b6 d2 i1 i2 j1 j2 d3 c8 c9 d0 d1 c6 b1),(d,I (J b) c5)] [] (At b0 F) b7)(e2:∀e6 f5 a7 a8,Cp w.params e6->RepF (V w j o u) [(a,B5 w.params n d e l Q T X b2 b3 b4 b5 b6 d2 i1 i2 j1 j2 d3 c8 c9 d0 d1 e6 f5),(d,I (J b) c5)] [] (At b0 a7) a8->∀A,Room c0 A->SegX (model pw w) A (BH a g) (Ql a g) d7 a8 (Ev (V w j o u) c0 d8 a5 a7))(e0:Room c0 A):SegX (model pw w) A (BH a g) (SQ a g) d7 b7 (Ev (V w j o u) c0 d8 (BY 1 (Be b i1 i2)++a5) F):=by
 have d6:=run_genTr O (e9:=100) (n:=25) f0 g8 (w:=BH a g) (b0:=SQ a g) (b:=[(a,B5 w.params n d e l Q T X b2 b3 b4 b5 b6 d2 i1 i2 j1 j2 d3 c8 c9 d0 d1 c6 b1),(d,I (J b) c5)]) (t:=[]) (z:=[]) (e8:=λ_=>[]) (E:=[.many (λf=>(Pl w.params n d e l Q T X b2 b3 b4 b5 b6 d2 i1 i2 j1 j2 d3 c8 c9 d0 d1 a (C f 2) c6 b1 (C f 1) 0 (Be b i1 i2)).1) [0,4,3] [] (BY 1 (Be b i1 i2))]) (d7:=a5) (H:=hd 0x1041042082044101004142) (K:=[(λf=>K8 d c5 (C f 0) b i1 i2 c8 c9,[1,2],[])]) (l:=[2,0]) (b7:=[]) (d3:=λ_=>.tree (BH a g) [] (Ql a g)) (c1:=λh=>[(a,B5 w.params n d e l Q T X b2 b3 b4 b5 b6 d2 i1 i2 j1 j2 d3 c8 c9 d0 d1 (Hn w.params (h 3)) (h 4)),(d,I (J b) c5)]) (b8:=λ_=>[]) (Bo (FJ O f9 f2 f3 f4)) ⟨λf=>OW O g1 g9.sub,trivial⟩ (by kernel_rfl) e3 (λh a7 a8 e4 d9 e1=>λg4 g0=>by cases g0; exact e2 _ _ a7 a8 (Hd _) e4 d9 e1) e0
 have f6:(Dh [.many (λf=>(Pl w.params n d e l Q T X b2 b3 b4 b5 b6 d2 i1 i2 j1 j2 d3 c8 c9 d0 d1 a (C f 2) c6 b1 (C f 1) 0 (Be b i1 i2)).1) [0,4,3] [] (BY 1 (Be b i1 i2))]).flatten++a5=BY 1 (Be b i1 i2)++a5:=by simp[Dh]
 rw[f6] at d6
 exact d6
theorem V4(g1:Cp w.params c6)(g9:CF a6)(f9:a6.length<=sizeLine)(f2:0<=j1)(f3:j1<=j2)(f4:j2<=a6.length){b7:Shared}(e3:RepF (V w j o u) [(a,B5 w.params n d e l Q T X b2 b3 b4 b5 b6 d2 i1 i2 j1 j2 d3 c8 c9 d0 d1 c6 b1),(e,I (J a6) c7)] [] (At b0 F) b7)(e2:∀e6 f5 a7 a8,Cp w.params e6->RepF (V w j o u) [(a,B5 w.params n d e l Q T X b2 b3 b4 b5 b6 d2 i1 i2 j1 j2 d3 c8 c9 d0 d1 e6 f5),(e,I (J a6) c7)] [] (At b0 a7) a8->∀A,Room c0 A->SegX (model pw w) A (BH a g) (denote table (BH a g)) d7 a8 (Ev (V w j o u) c0 d8 a5 a7))(e0:Room c0 A):SegX (model pw w) A (BH a g) (RK a g) d7 b7 (Ev (V w j o u) c0 d8 (BY 2 (Be a6 j1 j2)++a5) F):=by
 have d6:=run_genTr O (e9:=100) (n:=86) f0 g8 (w:=BH a g) (b0:=RK a g) (b:=[(a,B5 w.params n d e l Q T X b2 b3 b4 b5 b6 d2 i1 i2 j1 j2 d3 c8 c9 d0 d1 c6 b1),(e,I (J a6) c7)]) (t:=[]) (z:=[]) (e8:=λ_=>[]) (E:=[.many (λf=>(OQ w.params n d e l Q T X b2 b3 b4 b5 b6 d2 i1 i2 j1 j2 d3 c8 c9 d0 d1 a (C f 2) c6 b1 (C f 1) 0 (Be a6 j1 j2)).1) [0,4,3] [] (BY 2 (Be a6 j1 j2))]) (d7:=a5) (H:=hd 0x41041082081104040105081) (K:=[(λf=>K8 e c7 (C f 0) a6 j1 j2 d0 d1,[1,2],[])]) (l:=[2,0]) (b7:=[]) (d3:=λ_=>.again (BH a g)) (c1:=λh=>[(a,B5 w.params n d e l Q T X b2 b3 b4 b5 b6 d2 i1 i2 j1 j2 d3 c8 c9 d0 d1 (Hn w.params (h 3)) (h 4)),(e,I (J a6) c7)]) (b8:=λ_=>[]) (Bo (FJ O f9 f2 f3 f4)) ⟨λf=>NR O g1 g9.sub,trivial⟩ (by kernel_rfl) e3 (λh a7 a8 e4 d9 e1=>e2 _ _ a7 a8 (Hd _) e4 d9 e1) e0
 have f6:(Dh [.many (λf=>(OQ w.params n d e l Q T X b2 b3 b4 b5 b6 d2 i1 i2 j1 j2 d3 c8 c9 d0 d1 a (C f 2) c6 b1 (C f 1) 0 (Be a6 j1 j2)).1) [0,4,3] [] (BY 2 (Be a6 j1 j2))]).flatten++a5=BY 2 (Be a6 j1 j2)++a5:=by simp[Dh]
 rw[f6] at d6
 exact d6
theorem VW{b7:Shared}(e3:RepF (V w j o u) [(a,B5 w.params n d e l Q T X b2 b3 b4 b5 b6 d2 i1 i2 j1 j2 d3 c8 c9 d0 d1 c6 b1)] [] (At b0 F) b7)(e2:∀a7 a8,RepF (V w j o u) [(a,B5 w.params n d e l Q T X b2 b3 b4 b5 b6 d2 i1 i2 j1 j2 d3 c8 c9 d0 d1 c6 b1)] [] (At b0 a7) a8->∀A,Room c0 A->SegX (model pw w) A (BH a g) (denote table (BH a g)) d7 a8 (Ev (V w j o u) c0 d8 a5 a7))(e0:Room c0 A):SegX (model pw w) A (BH a g) (SJ a g) d7 b7 (Ev (V w j o u) c0 d8 a5 F):=
 run_genTr O (e9:=100) (n:=5) f0 g8 (w:=BH a g) (b0:=SJ a g) (b:=[(a,B5 w.params n d e l Q T X b2 b3 b4 b5 b6 d2 i1 i2 j1 j2 d3 c8 c9 d0 d1 c6 b1)]) (t:=[]) (z:=[]) (e8:=λ_=>[]) (E:=[]) (d7:=a5) (H:=[1]) (K:=[]) (l:=[0]) (b7:=[]) (d3:=λ_=>.again (BH a g)) (c1:=λh=>[(a,B5 w.params n d e l Q T X b2 b3 b4 b5 b6 d2 i1 i2 j1 j2 d3 c8 c9 d0 d1 c6 b1)]) (b8:=λ_=>[]) C1 trivial (by kernel_rfl) e3 (λh a7 a8 e4 d9 e1=>e2 a7 a8 e4 d9 e1) e0
end
end
section
inductive Nu(c3:Params)(K:Nat->Nat)(h i:Nat)(H:Int)(c:Nat)(b7 x:Str):Obj->Prop
 |a (q:Nat):Nu c3 K h i H c b7 x (Je c3 K h i H c b7 x q)
 |b (b2 b3 b4 b5 b6:Nat) (k4:Str) (j6 j7 j8 j9:Int) (k5 k6 k7 k8 k9:Nat) (d1:List DictEntry) (q:Nat):Cp c3 d1->Nu c3 K h i H c b7 x (B5 c3 K h i H c b7 x b2 b3 b4 b5 b6 k4 j6 j7 j8 j9 k5 k6 k7 k8 k9 d1 q)
section
variable{K:Nat->Nat}{h i:Nat}{H:Int}{c:Nat}{b7 x:Str}{m k b1 s t:Nat}{d e:List (Str×Nat)}{e6:List Frame}{g7 y:Nat}{c3:AK->End->Shared->Prop}(a8:C9 e6 g7)(m6:g7+100<=y)(m7:CF d)(m8:CF e)(f5:d.length<=sizeLine)(g1:e.length<=sizeLine)
include O a8 m6 m7 m8 f5 g1
theorem QM{n c4:List Value}{a d9 e0 e1 e2 e3:Nat}{l:Bd}{f6:Obj}{E:AK}{e4:List Str}(i3:Nu w.params K h i H c b7 x f6)(g8:D2 d e l){e5:Shared}(f3:RepF (V w j o u) [(m,f6),(k,A6 c n.length),(c,I (n ++ .ref a::c4) b1),(a,Ar (a,l,d9,e0,e1,e2,e3)),(h,I (J d) s),(i,I (J e) t)] [] (At E F) e5)(f7:∀f9 f g,Nu w.params K h i H c b7 x f9->RepF (V w j o u) [(m,f9),(k,A6 c (n.length+1)),(c,I (n ++ .ref a::c4) b1),(a,Ar (a,l,d9,e0,e1,e2,e3)),(h,I (J d) s),(i,I (J e) t)] [] (At E f) g->∀A,Room y A->SegX (model pw w) A (BH m k) (denote table (BH m k)) e6 g (Ev (V w j o u) y c3 e4 f))(r:Room y A):SegX (model pw w) A (BH m k) (denote table (BH m k)) e6 e5 (Ev (V w j o u) y c3 (BE d e l++e4) F):=by
 obtain⟨c5,d5,d6,d7,d8⟩:=l
 have i0:0<=d5:=g8.i0
 have i1:d5<=d6:=g8.i1
 have i2:d6<=d.length:=g8.i2
 have j2:0<=d7:=g8.j0
 have j3:d7<=d8:=g8.j1
 have j4:d8<=e.length:=g8.j2
 have m1:Room 10 (A.over (BH m k) e6):=(HD r .nil a8 ⟨rfl,λ_ g3=>nomatch g3⟩ (by show g7+5*(0+1)<=y; lia)).mono (by show 10<=y-g7-5*(0+1); omega)
 have f8:=RepF.sel [1,1] f3 rfl
 refine Ng O (v:=Cj) (d:=DV m) m1 f8 λm3 i4=>?_
 have m0:=RepF.into i4
 have g0:RepF (V w j o u) [(m,f6),(a,Ar (a,(c5,d5,d6,d7,d8),d9,e0,e1,e2,e3)),(h,I (J d) s),(i,I (J e) t)] [] (At ([(k,A6 c (n.length+1)),(c,I (n ++ .ref a::c4) b1)]++E.1,E.2) F) m3:=RepF.toH m0 (List.perm_append_comm (l₁:=[_,_]))
 have h2:∀f9 f g,Nu w.params K h i H c b7 x f9->RepF (V w j o u) [(m,f9),(a,Ar (a,(c5,d5,d6,d7,d8),d9,e0,e1,e2,e3)),(h,I (J d) s),(i,I (J e) t)] [] (At ([(k,A6 c (n.length+1)),(c,I (n ++ .ref a::c4) b1)]++E.1,E.2) f) g->∀A,Room y A->SegX (model pw w) A (BH m k) (denote table (BH m k)) e6 g (Ev (V w j o u) y c3 e4 f):=
  λf9 f g j0 p A r=>f7 f9 f g j0 (RepF.ord [0,3,3] (RepF.fromH p) rfl) A r
 have k2:∀(b2 b3 b4 b5 b6:Nat) (d1:List DictEntry) (q:Nat) (l0:List Str),c5 = .rep->Cp w.params d1->∀f g,RepF (V w j o u) [(m,B5 w.params K h i H c b7 x b2 b3 b4 b5 b6 (AC c5) d5 d6 d7 d8 d9 e0 e1 e2 e3 d1 q),(a,Ar (a,(c5,d5,d6,d7,d8),d9,e0,e1,e2,e3)),(h,I (J d) s),(i,I (J e) t)] [] (At ([(k,A6 c (n.length+1)),(c,I (n ++ .ref a::c4) b1)]++E.1,E.2) f) g->∀A,Room y A ->
   SegX (model pw w) A (BH m k) (Kk m k) e6 g (Ev (V w j o u) y c3 (BY 1 (Be d d5 d6)++(BY 2 (Be e d7 d8)++e4)) f):=by
  intro b2 b3 b4 b5 b6 d1 q _ h8 f4 f g p A r
  subst h8
  refine OG O (m:=.rep) (b4:=true) p rfl λx h4=>?_
  refine Tk O a8 m6 f4 m7 f5 i0 i1 i2 (RepF.toH (e8:=[_,_]) (e5:=[_,_]) h4 (List.Perm.cons _ (List.perm_append_comm (l₁:=[_]) (l₂:=[_]) |>.append_right [_]))) (λg9 g6 l3 m2 g5 i7 l2 i9=>?_) r
  have i8:=RepF.fromH i7
  refine OO O (m:=.rep) (b4:=true) i8 rfl λk3 h5=>?_
  refine V4 O a8 m6 g5 m8 g1 j2 j3 j4 (RepF.toH (e8:=[_,_]) (e5:=[_,_]) h5 (List.Perm.cons _ (List.perm_append_comm (l₁:=[_,_]) (l₂:=[_])))) (λCs h3 h1 h9 j1 h6 h0 h7=>?_) i9
  exact h2 _ h1 h9 (.b _ _ _ _ _ _ _ _ _ _ _ _ _ _ _ Cs h3 j1) (RepF.ord [0,2,1,0] (RepF.fromH h6) rfl) h0 h7
 have k0:∀(b2 b3 b4 b5 b6:Nat) (d1:List DictEntry) (q:Nat) (l0:List Str),c5 = .del->Cp w.params d1->∀f g,RepF (V w j o u) [(m,B5 w.params K h i H c b7 x b2 b3 b4 b5 b6 (AC c5) d5 d6 d7 d8 d9 e0 e1 e2 e3 d1 q),(a,Ar (a,(c5,d5,d6,d7,d8),d9,e0,e1,e2,e3)),(h,I (J d) s),(i,I (J e) t)] [] (At ([(k,A6 c (n.length+1)),(c,I (n ++ .ref a::c4) b1)]++E.1,E.2) f) g->∀A,Room y A ->
   SegX (model pw w) A (BH m k) (Kk m k) e6 g (Ev (V w j o u) y c3 (BY 1 (Be d d5 d6)++e4) f):=by
  intro b2 b3 b4 b5 b6 d1 q _ h8 f4 f g p A r
  subst h8
  refine OG O (m:=.del) (b4:=true) p rfl λx h4=>?_
  refine Tk O a8 m6 f4 m7 f5 i0 i1 i2 (RepF.toH (e8:=[_,_]) (e5:=[_,_]) h4 (List.Perm.cons _ (List.perm_append_comm (l₁:=[_]) (l₂:=[_]) |>.append_right [_]))) (λg9 g6 l3 m2 g5 i7 l2 i9=>?_) r
  have i8:=RepF.fromH i7
  refine OO O (m:=.del) (b4:=false) i8 rfl λk3 h5=>?_
  refine VW O a8 m6 (RepF.toH (e8:=[_]) (e5:=[_,_,_]) h5 (List.Perm.refl _)) (λh1 h9 h6 h0 h7=>?_) i9
  exact h2 _ h1 h9 (.b _ _ _ _ _ _ _ _ _ _ _ _ _ _ _ g9 g6 g5) (RepF.ord [0,1,0,0] (RepF.fromH h6) rfl) h0 h7
 have k1:∀(b2 b3 b4 b5 b6:Nat) (d1:List DictEntry) (q:Nat) (l0:List Str),c5 = .ins->Cp w.params d1->∀f g,RepF (V w j o u) [(m,B5 w.params K h i H c b7 x b2 b3 b4 b5 b6 (AC c5) d5 d6 d7 d8 d9 e0 e1 e2 e3 d1 q),(a,Ar (a,(c5,d5,d6,d7,d8),d9,e0,e1,e2,e3)),(h,I (J d) s),(i,I (J e) t)] [] (At ([(k,A6 c (n.length+1)),(c,I (n ++ .ref a::c4) b1)]++E.1,E.2) f) g->∀A,Room y A ->
   SegX (model pw w) A (BH m k) (Kk m k) e6 g (Ev (V w j o u) y c3 (BY 2 (Be e d7 d8)++e4) f):=by
  intro b2 b3 b4 b5 b6 d1 q _ h8 f4 f g p A r
  subst h8
  refine OG O (m:=.ins) (b4:=false) p rfl λx h4=>?_
  refine OO O (m:=.ins) (b4:=true) h4 rfl λk3 h5=>?_
  refine V4 O a8 m6 f4 m8 g1 j2 j3 j4 (RepF.toH (e8:=[_,_]) (e5:=[_,_]) h5 (List.Perm.cons _ (List.perm_append_comm (l₁:=[_,_]) (l₂:=[_])))) (λCs h3 h1 h9 j1 h6 h0 h7=>?_) r
  exact h2 _ h1 h9 (.b _ _ _ _ _ _ _ _ _ _ _ _ _ _ _ Cs h3 j1) (RepF.ord [0,1,1,0] (RepF.fromH h6) rfl) h0 h7
 cases i3 with
 |a q=>
  cases c5 with
  |eql=>exact Tf O a8 m6 m7 f5 i0 i1 i2 (by decide +kernel) g0 (λb2 b3 b4 b5 b6 g9 g6 f g g5 p D z=>h2 _ f g (.b _ _ _ _ _ _ _ _ _ _ _ _ _ _ _ g9 g6 g5) p D z) r
  |rep=>
   rw[show BE d e (.rep,d5,d6,d7,d8)++e4=BY 1 (Be d d5 d6)++(BY 2 (Be e d7 d8)++e4) from List.append_assoc ..]
   exact Ox O a8 m6 (by decide +kernel) g0 (λb2 b3 b4 b5 b6 f g p D z=>k2 b2 b3 b4 b5 b6 [] _ [] rfl .s0 f g p D z) r
  |del=>exact Ox O a8 m6 (by decide +kernel) g0 (λb2 b3 b4 b5 b6 f g p D z=>k0 b2 b3 b4 b5 b6 [] _ [] rfl .s0 f g p D z) r
  |ins=>exact Ox O a8 m6 (by decide +kernel) g0 (λb2 b3 b4 b5 b6 f g p D z=>k1 b2 b3 b4 b5 b6 [] _ [] rfl .s0 f g p D z) r
 |b b2 b3 b4 b5 b6 k4 j6 j7 j8 j9 k5 k6 k7 k8 k9 d1 q f4=>
  cases c5 with
  |eql=>exact UF O a8 m6 f4 m7 f5 i0 i1 i2 (by decide +kernel) g0 (λg9 g6 f g g5 p D z=>h2 _ f g (.b _ _ _ _ _ _ _ _ _ _ _ _ _ _ _ g9 g6 g5) p D z) r
  |rep=>
   rw[show BE d e (.rep,d5,d6,d7,d8)++e4=BY 1 (Be d d5 d6)++(BY 2 (Be e d7 d8)++e4) from List.append_assoc ..]
   exact On O a8 m6 (by decide +kernel) g0 (λf g p D z=>k2 b2 b3 b4 b5 b6 d1 _ [] rfl f4 f g p D z) r
  |del=>exact On O a8 m6 (by decide +kernel) g0 (λf g p D z=>k0 b2 b3 b4 b5 b6 d1 _ [] rfl f4 f g p D z) r
  |ins=>exact On O a8 m6 (by decide +kernel) g0 (λf g p D z=>k1 b2 b3 b4 b5 b6 d1 _ [] rfl f4 f g p D z) r
theorem Jv{E:AK}{e4:List Str}:∀(c4 n:List Cy) {f6:Obj},Nu w.params K h i H c b7 x f6->(∀e7∈c4,D2 d e e7.2.1)->∀{F:AK} {e5:Shared},
  RepF (V w j o u) ([(m,f6),(k,A6 c (A3 n).length),(c,I (A3 n++A3 c4) b1),(h,I (J d) s),(i,I (J e) t)]++oP c4) [] (At E F) e5 ->
  (∀f g,RepF (V w j o u) [(h,I (J d) s),(i,I (J e) t)] [] (At E f) g->∀A g2,Room y A->SegX (model pw w) A g2 (leafOf (.ok .next)) e6 g (Ev (V w j o u) y c3 e4 f)) ->
  ∀{A:Around},Room y A->SegX (model pw w) A (BH m k) (denote table (BH m k)) e6 e5 (Ev (V w j o u) y c3 ((c4.flatMap λe7=>BE d e e7.2.1)++e4) F):=by
 intro P
 induction P with
 |nil=>
  intro n f6 i3 g4 F e5 f3 f7 A r
  have i6:A3 n++A3 []=A3 n:=List.append_nil _
  rw[i6] at f3
  have f8:RepF (V w j o u) [(k,A6 c (A3 n).length),(c,I (A3 n) b1),(h,I (J d) s),(i,I (J e) t)] [] (At E F) e5:=RepF.sub f3 (.cons _ (List.Sublist.refl _))
  exact run_genB O (n:=60) (e9:=100) a8 m6 (b:=[(k,A6 c (A3 n).length),(c,I (A3 n) b1),(h,I (J d) s),(i,I (J e) t)]) (t:=[]) (z:=[]) (e8:=λ_=>[]) (E:=[]) (d7:=e4) (H:=[1,1,5,0]) (K:=[(λm5=>Cm k c (A3 n) b1,[0,1],[])]) (l:=[2,3]) (b7:=[]) (d3:=λ_=>.ret (.ok .next)) (c1:=λ_=>[(h,I (J d) s),(i,I (J e) t)]) (b8:=λ_=>[]) (Bo (Bw O)) trivial (by kernel_rfl) f8 (λl4 f g p D z g2=>f7 f g p D g2 z) r
 |cons M c4 N=>
  obtain⟨a,l,d9,e0,e1,e2,e3⟩:=M
  intro n f6 i3 g4 F e5 f3 f7 A r
  have f8:RepF (V w j o u) [(m,f6),(k,A6 c (A3 n).length),(c,I (A3 n ++ .ref a::A3 c4) b1),(a,Ar (a,l,d9,e0,e1,e2,e3)),(h,I (J d) s),(i,I (J e) t)] [] (At (oP c4++E.1,E.2) F) e5:=by
   refine RepF.toH f3 ?_
   show List.Perm (_::_::_::_::_::(a,_)::oP c4) _
   exact List.Perm.cons _ (List.Perm.cons _ (List.Perm.cons _ (List.perm_append_comm (l₁:=[_,_]) (l₂:=[_]) |>.append_right (oP c4))))
  rw[List.flatMap_cons,List.append_assoc]
  refine QM O a8 m6 m7 m8 f5 g1 i3 (g4 _ (List.mem_cons_self ..)) f8 (λf9 f g j0 p D z=>?_) r
  have i4:=RepF.fromH p
  have l8:A3 n ++ .ref a::A3 c4=A3 (n++[(a,l,d9,e0,e1,e2,e3)])++A3 c4:=by simp[A3]
  have l6:((A3 n).length:Int)+1=((A3 (n++[(a,l,d9,e0,e1,e2,e3)])).length:Int):=by simp[A3]
  rw[l8,l6] at i4
  refine N (n++[(a,l,d9,e0,e1,e2,e3)]) j0 (λe7 g3=>g4 e7 (List.mem_cons_of_mem _ g3)) (RepF.sub i4 ?_) f7 z
  exact List.Sublist.cons_cons _ (List.Sublist.cons_cons _ (List.Sublist.cons_cons _ (.cons _ (List.Sublist.refl _))))
end
noncomputable def OX(c3:Params)(K:Nat->Nat)(h i:Nat)(H:Int)(c:Nat)(b7 x:Str)(m k q b1 s t:Nat)(d e:List (Str×Nat))(a:Nat)(l:Bd)(c6 c7 c8 c9 d0:Nat):Spec×List Str:=
 ({code:=BH m k,d:=100,drop:=true,upd:=λ_=>[],fp:=[(m,Je c3 K h i H c b7 x q),(k,A6 c 0),(c,I [.ref a] b1),(h,I (J d) s),(i,I (J e) t),(a,Ar (a,l,c6,c7,c8,c9,d0))],pool:=true,pre:=[],new:=λm4=>[(h,I (J d) s),(i,I (J e) t)],res:=λ_=>.ok .next},[l].flatMap (BE d e))
noncomputable def P7(c3:Params)(K:Nat->Nat)(h i:Nat)(H:Int)(c:Nat)(b7 x:Str)(m k q b1 s t:Nat)(d e:List (Str×Nat))(a:Nat)(l:Bd)(c6 c7 c8 c9 d0:Nat)(d2:Nat)(d3:Bd)(e8 e9 f0 f1 f2:Nat)(b0:List Bd)(d4:Nat):Spec×List Str:=
 ({code:=BH m k,d:=100,drop:=true,upd:=λ_=>[],fp:=[(m,Je c3 K h i H c b7 x q),(k,A6 c 0),(c,I (.ref a::(A3 (Ac b0 d4)++[.ref d2])) b1),(h,I (J d) s),(i,I (J e) t),(a,Ar (a,l,c6,c7,c8,c9,d0)),(d2,Ar (d2,d3,e8,e9,f0,f1,f2))],pool:=true,pre:=oP (Ac b0 d4),new:=λm4=>[(h,I (J d) s),(i,I (J e) t)],res:=λ_=>.ok .next},(l::(b0++[d3])).flatMap (BE d e))
section
variable{K:Nat->Nat}{h i:Nat}{H:Int}{c:Nat}{b7 x:Str}{m k q b1 s t:Nat}{d e:List (Str×Nat)}(m7:CF d)(m8:CF e)(f5:d.length<=sizeLine)(g1:e.length<=sizeLine)
include O m7 m8 f5 g1
theorem PH{a:Nat}{l:Bd}{c6 c7 c8 c9 d0:Nat}(g4:D2 d e l):(OX w.params K h i H c b7 x m k q b1 s t d e a l c6 c7 c8 c9 d0).1.GOk (V w j o u) ([l].flatMap (BE d e)):=
 ⟨Spec.lenOkD rfl λ_=>rfl,λ_=>rfl,λE e6 g7 y c3 l1 a8 m6 F e5 f3 f7 A r=>by
  have f8:RepF (V w j o u) ([(m,Je w.params K h i H c b7 x q),(k,A6 c (A3 []).length),(c,I (A3 []++A3 [(a,l,c6,c7,c8,c9,d0)]) b1),(h,I (J d) s),(i,I (J e) t)]++oP [(a,l,c6,c7,c8,c9,d0)]) [] (At E F) e5:=f3
  have i5:=Jv O a8 m6 m7 m8 f5 g1 [(a,l,c6,c7,c8,c9,d0)] [] (.a q) (λe7 g3=>by rw[List.mem_singleton.mp g3]; exact g4) f8 (λf g p D g2 z=>f7 [] f g rfl p D g2 z) r
  exact i5⟩
theorem PJ{a:Nat}{l:Bd}{c6 c7 c8 c9 d0:Nat}{d2:Nat}{d3:Bd}{e8 e9 f0 f1 f2:Nat}{b0:List Bd}{d4:Nat}(g4:∀e7∈l::(b0++[d3]),D2 d e e7):(P7 w.params K h i H c b7 x m k q b1 s t d e a l c6 c7 c8 c9 d0 d2 d3 e8 e9 f0 f1 f2 b0 d4).1.GOk (V w j o u) ((l::(b0++[d3])).flatMap (BE d e)):=
 ⟨Spec.lenOkD rfl λ_=>rfl,λ_=>rfl,λE e6 g7 y c3 l1 a8 m6 F e5 f3 f7 A r=>by
  have l7:=D6 b0 d4
  have j5:((a,l,c6,c7,c8,c9,d0)::(Ac b0 d4++[(d2,d3,e8,e9,f0,f1,f2)])).map (·.2.1)=l::(b0++[d3]):=by simp[l7]
  have l9:A3 ((a,l,c6,c7,c8,c9,d0)::(Ac b0 d4++[(d2,d3,e8,e9,f0,f1,f2)])) = .ref a::(A3 (Ac b0 d4)++[.ref d2]):=by simp[A3]
  have l5:oP ((a,l,c6,c7,c8,c9,d0)::(Ac b0 d4++[(d2,d3,e8,e9,f0,f1,f2)]))=(a,Ar (a,l,c6,c7,c8,c9,d0))::(oP (Ac b0 d4)++[(d2,Ar (d2,d3,e8,e9,f0,f1,f2))]):=by simp[oP]
  have f8:RepF (V w j o u) ([(m,Je w.params K h i H c b7 x q),(k,A6 c (A3 []).length),(c,I (A3 []++A3 ((a,l,c6,c7,c8,c9,d0)::(Ac b0 d4++[(d2,d3,e8,e9,f0,f1,f2)]))) b1),(h,I (J d) s),(i,I (J e) t)]++oP ((a,l,c6,c7,c8,c9,d0)::(Ac b0 d4++[(d2,d3,e8,e9,f0,f1,f2)]))) [] (At E F) e5:=by
   have i6:A3 []++A3 ((a,l,c6,c7,c8,c9,d0)::(Ac b0 d4++[(d2,d3,e8,e9,f0,f1,f2)])) = .ref a::(A3 (Ac b0 d4)++[.ref d2]):=l9
   rw[i6,l5]
   refine RepF.perm f3 ?_
   exact List.Perm.append_left [_,_,_,_,_,_] (List.perm_append_comm (l₂:=[_]))
  have i5:=Jv O a8 m6 m7 m8 f5 g1 ((a,l,c6,c7,c8,c9,d0)::(Ac b0 d4++[(d2,d3,e8,e9,f0,f1,f2)])) [] (.a q) (λe7 g3=>g4 _ (by rw[<-j5]; exact List.mem_map.mpr ⟨e7,g3,rfl⟩)) f8 (λf g p D g2 z=>f7 [] f g rfl p D g2 z) r
  have h3:((a,l,c6,c7,c8,c9,d0)::(Ac b0 d4++[(d2,d3,e8,e9,f0,f1,f2)])).flatMap (λe7=>BE d e e7.2.1)=(l::(b0++[d3])).flatMap (BE d e):=by
   rw[<-j5,List.flatMap_map]
  rw[h3] at i5
  exact i5⟩
end
end
section
theorem NH:Ld "generator":=⟨by decide,by decide,by rw[typeLookup_type,builtinLookup_eq_fast]; kernel_rfl,by rw[typeLookup_type,builtinLookup_eq_fast]; kernel_rfl,
 ⟨_,slot_gen_next⟩,⟨_,slot_gen_iter,entry_gen_iter,args_gen_iter⟩⟩
theorem HT{w:World}{a4:Value}{c2:List Value}{f:Shared}{a2 a6:VP}(a0:codeAny (model pw w) (A.mark none) (.call a4 ⟨c2,[]⟩) (λH c=>match H with |.ok (.ret H)=>a2 H c |.ok _=>False |.error q=>a6 q c) f):wpAny (model pw w) A (call a4 c2) a2 a6 f:=by
 have D:wpAny (model pw w) A (.call (.call a4 ⟨c2,[]⟩) none false [] .pure) (λH c=>match H with |.ok (.ret H)=>a2 H c |.ok _=>False |.error q=>a6 q c) (λ_ _=>False) f:=
  y_start _ _ _ _ _ _ _ _ _ _ _ _ (λx=>by cases x) (codeAny_mono a0 λH c b6=>wpAny_pure b6)
 intro Γ B a0Γ
 have d9:=D Γ B a0Γ
 rw[call,Sem.wp_runValue]
 refine wpCode_mono (λH c b6=>?_) d9
 cases H with
 |error q=>exact b6
 |ok a4=>cases a4 <;> first |exact b6 |exact b6.elim
noncomputable def Ey(b0:Cx)(k:Nat)(S:AK->End->Shared->Prop)(r:List Str)(h:An)(p:Gs):Gp:=λv=>
 ∃y z X,((v = .fresh y/\z=denote table y/\X=[])∨∃l g B b1,v = .suspended l g y B X b1/\z=l (.send .none)) /\
  ∀P c,RepF b0 h p P c->∀A,Room k A->SegX (model pw b0.w) A y z X c (Ev b0 k S r P)
noncomputable def Db(b0:Cx)(i:An):AK->End->Shared->Prop:=λF q f=>q = .ret (.ok (.ret .none))/\RepF b0 i [] F f
section
variable{ga a k:Nat}{d e:Value}{S:AK->End->Shared->Prop}{h:An}{p:Gs}{F:AK}{f:Shared}{R:RP}{A:Around}
theorem Rk{a9:Gp}(m:RepF (V w j o u) ((ga,AN a d e)::h) ((a,a9)::p) F f):RepF (V w j o u) h p ((ga,AN a d e)::F.1,(a,BJ)::F.2) (f.setGen a .running):=by
 have D:RepF (V w j o u) ((ga,AN a d e)::h) ((a,BJ)::p) F (f.setGen a .running):=RepF.setGen m rfl trivial
 have b7:=RepF.out (a8:=[(ga,AN a d e)]) (c3:=h) D (List.perm_append_comm (l₁:=[_]))
 exact Rep.gperm b7 (List.perm_middle (l₁:=p))
theorem Pi{i:An}{a8:Gs}{v:GenState}{a9:Gp}{t:Shared}(d1:v.bare=true)(N:a9 v)(m:RepF (V w j o u) i a8 ((ga,AN a d e)::F.1,(a,BJ)::F.2) t):RepF (V w j o u) ((ga,AN a d e)::i) ((a,a9)::a8) F (t.setGen a v):=by
 have G:Rep (V w j o u) (i++(ga,AN a d e)::F.1) (a8++(a,BJ)::F.2) t:=m
 have D:Rep (V w j o u) (((ga,AN a d e)::i)++F.1) (((a,BJ)::a8)++F.2) t:=(G.perm (List.perm_middle.symm)).gperm (List.perm_middle.symm)
 exact RepF.setGen (show RepF (V w j o u) ((ga,AN a d e)::i) ((a,BJ)::a8) F t from D) d1 N
include O
theorem L3{x:Str}{r:List Str}(E:Room (k+10) A)(m:RepF (V w j o u) ((ga,AN a d e)::h) ((a,Ey (V w j o u) k S (x::r) h p)::p) F f)(M:∀K Q a7 c,RepF (V w j o u) ((ga,AN a d e)::Q) ((a,Ey (V w j o u) k S r Q a7)::a7) F c->R (.ok (.ret (.str x K))) c):codeAny (model pw w) A (.call (.builtin "generator.__next__") ⟨[.ref ga],[]⟩) R f:=by
 obtain⟨c9,b8,y,z,X,b9,b4⟩:=Rep.gens m _ (List.mem_cons_self ..)
 refine Ef (t:=z) (n:=y) (r:=X) (p:=Ev (V w j o u) k S (x::r) ((ga,AN a d e)::F.1,(a,BJ)::F.2)) E b8 (RepF.get0 m) (Rep.noLimit O m) ?_ (λa5 b3=>b4 _ _ (Rk m) a5 b3) λq t c4 N=>?_
 ·rcases b9 with a0 |⟨l,g,B,b1,b2,L⟩
  ·exact .inl a0
  ·exact .inr ⟨l,g,B,b1,b2,L⟩
 ·obtain⟨K,g,l,c7,B,c8,Q,c6,rfl,n,d3⟩:=N
  exact M K Q c6 _ (Pi (End.bare_of_quiet c4) ⟨c7,_,c8,.inr ⟨l,g,B,_,rfl,rfl⟩,λP c G a5 b3=>d3 P c G a5 b3⟩ n)
theorem M7{i:An}(E:Room (k+10) A)(m:RepF (V w j o u) ((ga,AN a d e)::h) ((a,Ey (V w j o u) k (Db (V w j o u) i) [] h p)::p) F f)(M:∀z q c,RepF (V w j o u) ((ga,AN a d e)::(i++[(q,Bp z)])) [(a,BJ)] F c->R (.error (.ref q)) c):codeAny (model pw w) A (.call (.builtin "generator.__next__") ⟨[.ref ga],[]⟩) R f:=by
 obtain⟨c9,b8,y,z,X,b9,b4⟩:=Rep.gens m _ (List.mem_cons_self ..)
 refine Ef (t:=z) (n:=y) (r:=X) (p:=Ev (V w j o u) k (Db (V w j o u) i) [] ((ga,AN a d e)::F.1,(a,BJ)::F.2)) E b8 (RepF.get0 m) (Rep.noLimit O m) ?_ (λa5 b3=>b4 _ _ (Rk m) a5 b3) λq t c4 N=>?_
 ·rcases b9 with a0 |⟨l,g,B,b1,b2,L⟩
  ·exact .inl a0
  ·exact .inr ⟨l,g,B,b1,b2,L⟩
 ·obtain⟨rfl,n⟩:=N
  refine⟨rfl,M t.heap.objs.size _ _ ?_⟩
  have D:=RepF.push (RepF.push (Pi (v:=.finished) (a9:=BJ) rfl trivial n) (o:=Aa []) rfl) (o:=Bp t.heap.objs.size) rfl
  have q:(t.heap.push (Aa [])).objs.size=t.heap.objs.size+1:=Heap.size_push ..
  have b7:RepF (V w j o u) (((ga,AN a d e)::i++[(t.heap.objs.size,Aa [])])++[((t.heap.push (Aa [])).objs.size,Bp t.heap.objs.size)]) [(a,BJ)] F {t.setGen a .finished with heap:=(t.heap.push (Aa [])).push (Bp t.heap.objs.size)}:=D
  rw[q] at b7
  refine RepF.sub b7 ?_
  rw[List.append_assoc]
  exact List.Sublist.append_left (l:=(ga,AN a d e)::i) (.cons _ (List.Sublist.refl _))
theorem JN{i:An}{g:Nat}:∀(r:List Str) {s:List (Str×Nat)} {l:Nat} {h:An} {p:Gs},s.length+r.length<sizeLine->∀{A:Around},Room (k+10) A.in1->∀{F:AK} {f:Shared} {R:RP},
  RepF (V w j o u) ((g,I (J s) l)::(ga,AN a d e)::h) ((a,Ey (V w j o u) k (Db (V w j o u) i) r h p)::p) F f ->
  (∀b5 a3 c,a3.map (·.1)=s.map (·.1)++r->RepF (V w j o u) ((g,I (J a3) b5)::(ga,AN a d e)::i) [(a,BJ)] F c->R (.ok (.ret .none)) c)->codeAny (model pw w) A (CI g ga) R f:=by
 intro e1
 induction e1 with
 |nil=>
  intro s l h p c3 A E F f R m M
  refine codeAny_builtin PySem.F.entry_extend_loop ?_
  rw[Around.under_plainId PySem.F.plain_extend_loop _]
  show wpAny _ _ (pyNext (.ref ga)>>=_) _ _ f
  refine wpAny_bind ?_
  unfold pyNext
  have c0:f.TypeIs (.ref ga) "generator":=⟨_,RepF.get1 m,rfl⟩
  have n:RepF (V w j o u) ((ga,AN a d e)::h) ((a,Ey (V w j o u) k (Db (V w j o u) i) [] h p)::p) ([(g,I (J s) l)]++F.1,F.2) f:=RepF.out m (List.perm_append_comm (l₁:=[_]) (l₂:=_))
  refine wpAny_bind (wpAny_attempt (wpAny_callSpecial?_slot c0 slot_gen_next (HT (M7 O E.mark n λz q c G=>?_))))
  have a1:=RepF.into G
  have d6:c.heap.get? q=some (Bp z):=Rep.get a1 (q,Bp z) (List.mem_append_left _ (by simp))
  refine wpAny_bind (wpAny_isInstance (T:= "StopIteration") (b:=true) ⟨_,d6,rfl⟩ isSubtype_stop ?_)
  refine wpAny_pure (wpAny_pure (M l s c (List.append_nil _).symm ?_))
  have d5:RepF (V w j o u) ((g,I (J s) l)::((ga,AN a d e)::(i++[(q,Bp z)]))) [(a,BJ)] F c:=RepF.perm a1 (List.perm_append_comm (l₁:=[_]) (l₂:=_))
  exact RepF.sub d5 (List.Sublist.cons_cons _ (List.Sublist.cons_cons _ (List.sublist_append_left _ _)))
 |cons x r e0=>
  intro s l h p c3 A E F f R m M
  simp only[List.length_cons] at c3
  have d2:(J s).length<sizeLine:=by simp[J]; lia
  refine codeAny_builtin PySem.F.entry_extend_loop ?_
  rw[Around.under_plainId PySem.F.plain_extend_loop _]
  show wpAny _ _ (pyNext (.ref ga)>>=_) _ _ f
  refine wpAny_bind ?_
  unfold pyNext
  have c0:f.TypeIs (.ref ga) "generator":=⟨_,RepF.get1 m,rfl⟩
  have n:RepF (V w j o u) ((ga,AN a d e)::h) ((a,Ey (V w j o u) k (Db (V w j o u) i) (x::r) h p)::p) ([(g,I (J s) l)]++F.1,F.2) f:=RepF.out m (List.perm_append_comm (l₁:=[_]) (l₂:=_))
  refine wpAny_bind (wpAny_attempt (wpAny_callSpecial?_slot c0 slot_gen_next (HT (L3 O E.mark n λK Q a7 c G=>?_))))
  refine wpAny_pure ?_
  have a1:RepF (V w j o u) ((g,I (J s) l)::(ga,AN a d e)::Q) ((a,Ey (V w j o u) k (Db (V w j o u) i) r Q a7)::a7) F c:=RepF.perm (RepF.into G) (List.perm_append_comm (l₁:=[_]) (l₂:=_))
  show wpAny _ _ (Builtin.List.listUpdate (.ref g) (·.push (.str x K))>>=λ_=>again (CI g ga)) _ _ c
  refine wpAny_bind (listUpdate_at (RepF.get0 a1) rfl ?_ (Nat.le_of_lt d2) (by simp; exact Nat.le_of_lt ‹_›))
  refine wpAny_pure ⟨plainId_quiet PySem.F.plain_extend_loop _,?_⟩
  have D:=RepF.upd0 O a1 (x:=Obj.mapSeq (·.push (.str x K))) rfl
  rw[Cu (J s) l _ (J s++[.str x K]) (by simp) (by simp)] at D
  have q:J s++[.str x K]=J (s++[(x,K)]):=by simp[J]
  rw[q] at D
  refine e0 (s:=s++[(x,K)]) (by simp; lia) E D λb5 a3 d8 L d4=>M b5 a3 d8 ?_ d4
  rw[L]; simp
theorem list_gen{i:An}{r:List Str}{y:Code}{a2 a6:VP}(d7:r.length<sizeLine)(E:Room (k+20) A)(m:RepF (V w j o u) ((ga,AN a d e)::h) [(a,Cl y)] F f)(b4:∀P c,RepF (V w j o u) h [] P c->∀A,Room k A->SegX (model pw w) A y (denote table y) [] c (Ev (V w j o u) k (Db (V w j o u) i) r P))(M:∀g l c1 c,RepF (V w j o u) ((g,I (J (toks r c1)) l)::(ga,AN a d e)::i) [(a,BJ)] F c->a2 (.ref g) c):wpAny (model pw w) A (call (.type "list") [.ref ga]) a2 a6 f:=by
 refine FE O NH (c:=ga) (p:=AN a d e) rfl m λg l c5 n=>?_
 have d0:Room (k+10) A.in1.in1:=((E.under (c:=CI 0 0) rfl (show 5<=k+20 by exact Nat.le_add_left ..)).under (c:=CI 0 0) rfl (by show 5<=k+20-5; exact Nat.le_add_left ..)).mono (by show k+10<=k+20-5-5; simp)
 have a1:RepF (V w j o u) ((g,I (J []) l)::(ga,AN a d e)::h) ((a,Ey (V w j o u) k (Db (V w j o u) i) r h [])::[]) F c5:=by
  have n:Rep (V w j o u) (((g,I [] l)::(ga,AN a d e)::h)++F.1) ((a,Cl y)::F.2) c5:=n
  refine⟨n.get,n.nd,n.hi,n.old,n.size,λB N=>?_,n.gnd,n.bare,n.os⟩
  rcases List.mem_cons.mp N with rfl |N
  ·obtain⟨v,b2,L⟩:=n.gens _ (List.mem_cons_self ..)
   exact⟨v,b2,y,_,[],.inl ⟨L,rfl,rfl⟩,b4⟩
  ·exact n.gens B (List.mem_cons_of_mem _ N)
 refine JN O r (s:=[]) (by simpa using d7) d0 a1 λb5 a3 c L G=>⟨rfl,?_⟩
 obtain⟨c1,en⟩:=Dz a3
 rw[L] at en
 rw[<-en] at G
 exact M g b5 c1 c G
end
end
section
section
variable{r s t Y x y z D f g:Nat}{k:Int}{q n E h i:Nat}{e c:List (Str×Nat)}{b l:Bd}{K:List Bd}(N:(c.map (·.1)).Nodup)(a7:e.length<=63)(a8:c.length<=63)(c3:CF e)(c4:CF c)
include O N a7 a8 c3 c4
theorem Ve(a1:Bs e c=[])(c0:k=0)(F:AK)(M:Shared)(a3:RepF (V w j o u) [(n,Bl (u8 w.params r s t Y x y z D f g k q) E),(f,I (J e) h),(g,I (J c) i)] [] F M)(A:Around)(a2:Room 648 A) :
  SegX (model pw w) A (Ft n) (denote table (Ft n)) [] M (Ev (V w j o u) 648 (Db (V w j o u) [(f,I (J e) h),(g,I (J c) i)]) ([]) F):=by
 have b5:sizeLine=16777216:=sizeLine_eq
 have S:(J e).length<=sizeLine:=by simp[J]; lia
 have T:(J c).length<=sizeLine:=by simp[J]; lia
 have m:=run_genB O (o:=([],[])) (d0:=[]) (g1:=0) (a8:=648) (e9:=648) (d9:=Db (V w j o u) [(f,I (J e) h),(g,I (J c) i)]) C9.nil (by exact Nat.le_add_left ..) (n:=162) (w:=Ft n) (b:=[(n,Bl (u8 w.params r s t Y x y z D f g k q) E),(f,I (J e) h),(g,I (J c) i)]) (t:=[]) (z:=[]) (E:=[]) (d7:=[]) (H:=hd 0x1001041041041001001040041000044000004000004000000105040000000008200208249040249009045) (K:=[(λa=>P8 f g h i e c 603 604 605 606 608,[1,2],[]),(λa=>JF w.params f g h i e c,[1,2],[]),(λa=>MO w.params (C a 25) (C a 22) (C a 19) (C a 20) (C a 21) k q 2 (C a 3) (C a 2) f g h i (C a 14) (C a 15) (C a 16) (vl [W 0 a 4,W 0 a 5,W 0 a 6,W 0 a 7,W 0 a 8,W 0 a 9,W 0 a 10,W 0 a 11,W 0 a 12,W 0 a 13]) c.length e (Dy c (C a 17) (C a 18)) c (.str N7 (C a 23)) (.str N8 (C a 24)),[8,7,3,4,1,2,5,6],[0])]) (l:=[2,3]) (b7:=[]) (d3:=λ_=>.ret (.ok (.ret .none))) (c1:=λ_=>[(f,I (J e) h),(g,I (J c) i)]) (e8:=λ_=>[]) (b8:=λ_=>[]) (GH (Ha O S T) (FP O N (by lia)) (OT O N a7 a8 (F4 c _ _).symm a1 c0)) trivial (by kernel_rfl) (f:=F) a3
  (λQ b1 a5 a4 b0 b4 X=>s_end _ _ _ _ _ a5 _ _ rfl ⟨rfl,a4⟩) a2
 have a0:(Dh []).flatten++[]=[]:=by simp[Dh]
 rw[a0] at m
 exact m
theorem Un(a1:Bs e c=[b])(p:((AC b.1).cps.toList==Bj)=true)(a6:∀m∈Bs e c,m.2.2.1-m.2.1<=k/\m.2.2.2.2-m.2.2.2.1<=k/\0<=k)(F:AK)(M:Shared)(a3:RepF (V w j o u) [(n,Bl (u8 w.params r s t Y x y z D f g k q) E),(f,I (J e) h),(g,I (J c) i)] [] F M)(A:Around)(a2:Room 648 A) :
  SegX (model pw w) A (Ft n) (denote table (Ft n)) [] M (Ev (V w j o u) 648 (Db (V w j o u) [(f,I (J e) h),(g,I (J c) i)]) ([]) F):=by
 have b5:sizeLine=16777216:=sizeLine_eq
 have S:(J e).length<=sizeLine:=by simp[J]; lia
 have T:(J c).length<=sizeLine:=by simp[J]; lia
 have m:=run_genB O (o:=([],[])) (d0:=[]) (g1:=0) (a8:=648) (e9:=648) (d9:=Db (V w j o u) [(f,I (J e) h),(g,I (J c) i)]) C9.nil (by exact Nat.le_add_left ..) (n:=162) (w:=Ft n) (b:=[(n,Bl (u8 w.params r s t Y x y z D f g k q) E),(f,I (J e) h),(g,I (J c) i)]) (t:=[]) (z:=[]) (E:=[]) (d7:=[]) (H:=hd 0x1001041041041001001040041000044000004000004000000105040000000008200208249040249009045) (K:=[(λa=>P8 f g h i e c 603 604 605 606 608,[1,2],[]),(λa=>JF w.params f g h i e c,[1,2],[]),(λa=>MO w.params (C a 25) (C a 22) (C a 19) (C a 20) (C a 21) k q 2 (C a 3) (C a 2) f g h i (C a 14) (C a 15) (C a 16) (vl [W 0 a 4,W 0 a 5,W 0 a 6,W 0 a 7,W 0 a 8,W 0 a 9,W 0 a 10,W 0 a 11,W 0 a 12,W 0 a 13]) c.length e (Dy c (C a 17) (C a 18)) c (.str N7 (C a 23)) (.str N8 (C a 24)),[8,7,3,4,1,2,5,6],[0])]) (l:=[2,3]) (b7:=[]) (d3:=λ_=>.ret (.ok (.ret .none))) (c1:=λ_=>[(f,I (J e) h),(g,I (J c) i)]) (e8:=λ_=>[]) (b8:=λ_=>[]) (GH (Ha O S T) (FP O N (by lia)) (Nf O N a7 a8 (F4 c _ _).symm a1 p a6)) trivial (by kernel_rfl) (f:=F) a3
  (λQ b1 a5 a4 b0 b4 X=>s_end _ _ _ _ _ a5 _ _ rfl ⟨rfl,a4⟩) a2
 have a0:(Dh []).flatten++[]=[]:=by simp[Dh]
 rw[a0] at m
 exact m
theorem VZ(a1:Bs e c=[b])(c1:((AC b.1).cps.toList==Bj)=false)(a6:∀m∈Bs e c,m.2.2.1-m.2.1<=k/\m.2.2.2.2-m.2.2.2.1<=k/\0<=k)(p:D2 e c b)(F:AK)(M:Shared)(a3:RepF (V w j o u) [(n,Bl (u8 w.params r s t Y x y z D f g k q) E),(f,I (J e) h),(g,I (J c) i)] [] F M)(A:Around)(a2:Room 648 A) :
  SegX (model pw w) A (Ft n) (denote table (Ft n)) [] M (Ev (V w j o u) 648 (Db (V w j o u) [(f,I (J e) h),(g,I (J c) i)]) ([N5,N6,H7 (Bx b.2.1 b.2.2.1) (Bx b.2.2.2.1 b.2.2.2.2)]++[b].flatMap (BE e c)) F):=by
 have b5:sizeLine=16777216:=sizeLine_eq
 have S:(J e).length<=sizeLine:=by simp[J]; lia
 have T:(J c).length<=sizeLine:=by simp[J]; lia
 have b2:(Bx b.2.1 b.2.2.1).length<=1000000:=Gj p.i0 p.i1 (by have:=p.i2; lia)
 have b3:(Bx b.2.2.2.1 b.2.2.2.2).length<=1000000:=Gj p.j0 p.j1 (by have:=p.j2; lia)
 have m:=run_genB O (o:=([],[])) (d0:=[]) (g1:=0) (a8:=648) (e9:=648) (d9:=Db (V w j o u) [(f,I (J e) h),(g,I (J c) i)]) C9.nil (by exact Nat.le_add_left ..) (n:=456) (w:=Ft n) (b:=[(n,Bl (u8 w.params r s t Y x y z D f g k q) E),(f,I (J e) h),(g,I (J c) i)]) (t:=[]) (z:=[]) (E:=[.one N5,.one N6,.one (H7 (Bx b.2.1 b.2.2.1) (Bx b.2.2.2.1 b.2.2.2.2)),.many (λa=>(OX w.params (vl [r,s,t,Y,x,y,z,D,q,(C a 1),(C a 34),(C a 39),(C a 43),(C a 55),(C a 56),(C a 60),(C a 64),(C a 38),(C a 42),(C a 28),(C a 28),(C a 59),(C a 63)]) f g k (C a 26) (Bx b.2.1 b.2.2.1) (Bx b.2.2.2.1 b.2.2.2.2) n (C a 67) (E+8) (C a 27) h i e c (C a 28) b (C a 29) (C a 30) (C a 31) (C a 32) (C a 33)).1) [0,10,4,2,3,5] [] ([b].flatMap (BE e c))]) (d7:=[]) (H:=hd 0x10010410410410010010400410000440000040000040000001050400000000082002082490402490090400410400410400000410400000410410400410400451450051410051450051471c70401c820020820720820020820720820020820720828004100104004618600618118618018600100104004618600618118618018600100104104104114504014b081048) (K:=[(λa=>P8 f g h i e c 603 604 605 606 608,[1,2],[]),(λa=>JF w.params f g h i e c,[1,2],[]),(λa=>Rc w.params (C a 25) (C a 22) (C a 19) (C a 20) (C a 21) k q 2 (C a 3) (C a 2) f g h i (C a 14) (C a 15) (C a 16) (vl [W 0 a 4,W 0 a 5,W 0 a 6,W 0 a 7,W 0 a 8,W 0 a 9,W 0 a 10,W 0 a 11,W 0 a 12,W 0 a 13]) c.length e (Dy c (C a 17) (C a 18)) c (.str N7 (C a 23)) (.str N8 (C a 24)) b,[8,7,3,4,1,2,5,6],[0]),(λa=>K6 b.2.1 b.2.2.1 (C a 30) (C a 31),[],[]),(λa=>K6 b.2.2.2.1 b.2.2.2.2 (C a 32) (C a 33),[],[]),(λa=>Pb (Bx b.2.1 b.2.2.1) (Bx b.2.2.2.1 b.2.2.2.2) (C a 65) (C a 59) (C a 63) 608,[],[]),(λa=>OS (C a 25) (C a 22) (.str N7 (C a 23)) (.str N8 (C a 24)),[0],[0])]) (l:=[5,6]) (b7:=[]) (d3:=λ_=>.ret (.ok (.ret .none))) (c1:=λ_=>[(f,I (J e) h),(g,I (J c) i)]) (e8:=λ_=>[]) (b8:=λ_=>[]) (Fa (Ha O S T) (FP O N (by lia)) (PG O N a7 a8 (F4 c _ _).symm a1 c1 a6) (Hl O p.i0 p.i1 (by have:=p.i2; lia)) (Hl O p.j0 p.j1 (by have:=p.j2; lia)) (K5 O b2 b3) (JI O)) ⟨λa=>PH O c3 c4 (by lia) (by lia) p,trivial⟩ (by kernel_rfl) (f:=F) a3
  (λQ b1 a5 a4 b0 b4 X=>s_end _ _ _ _ _ a5 _ _ rfl ⟨rfl,a4⟩) a2
 have a0:(Dh [.one N5,.one N6,.one (H7 (Bx b.2.1 b.2.2.1) (Bx b.2.2.2.1 b.2.2.2.2)),.many (λa=>(OX w.params (vl [r,s,t,Y,x,y,z,D,q,(C a 1),(C a 34),(C a 39),(C a 43),(C a 55),(C a 56),(C a 60),(C a 64),(C a 38),(C a 42),(C a 28),(C a 28),(C a 59),(C a 63)]) f g k (C a 26) (Bx b.2.1 b.2.2.1) (Bx b.2.2.2.1 b.2.2.2.2) n (C a 67) (E+8) (C a 27) h i e c (C a 28) b (C a 29) (C a 30) (C a 31) (C a 32) (C a 33)).1) [0,10,4,2,3,5] [] ([b].flatMap (BE e c))]).flatten++[]=[N5,N6,H7 (Bx b.2.1 b.2.2.1) (Bx b.2.2.2.1 b.2.2.2.2)]++[b].flatMap (BE e c):=by simp[Dh]
 rw[a0] at m
 exact m
theorem VV(a1:Bs e c=b::(K++[l]))(b9:K.length<900)(a6:∀m∈Bs e c,m.2.2.1-m.2.1<=k/\m.2.2.2.2-m.2.2.2.1<=k/\0<=k)(b6:∀c2∈b::(K++[l]),D2 e c c2)(b7:b.2.1<=l.2.2.1)(b8:b.2.2.2.1<=l.2.2.2.2)(F:AK)(M:Shared)(a3:RepF (V w j o u) [(n,Bl (u8 w.params r s t Y x y z D f g k q) E),(f,I (J e) h),(g,I (J c) i)] [] F M)(A:Around)(a2:Room 648 A) :
  SegX (model pw w) A (Ft n) (denote table (Ft n)) [] M (Ev (V w j o u) 648 (Db (V w j o u) [(f,I (J e) h),(g,I (J c) i)]) ([N5,N6,H7 (Bx b.2.1 l.2.2.1) (Bx b.2.2.2.1 l.2.2.2.2)]++(b::(K++[l])).flatMap (BE e c)) F):=by
 have b5:sizeLine=16777216:=sizeLine_eq
 have S:(J e).length<=sizeLine:=by simp[J]; lia
 have T:(J c).length<=sizeLine:=by simp[J]; lia
 have p:D2 e c b:=b6 _ (List.mem_cons_self ..)
 have a9:D2 e c l:=b6 _ (by simp)
 have b2:(Bx b.2.1 l.2.2.1).length<=1000000:=Gj p.i0 b7 (by have:=a9.i2; lia)
 have b3:(Bx b.2.2.2.1 l.2.2.2.2).length<=1000000:=Gj p.j0 b8 (by have:=a9.j2; lia)
 have m:=run_genB O (o:=([],[])) (d0:=[]) (g1:=0) (a8:=648) (e9:=648) (d9:=Db (V w j o u) [(f,I (J e) h),(g,I (J c) i)]) C9.nil (by exact Nat.le_add_left ..) (n:=452) (w:=Ft n) (b:=[(n,Bl (u8 w.params r s t Y x y z D f g k q) E),(f,I (J e) h),(g,I (J c) i)]) (t:=[]) (z:=[]) (E:=[.one N5,.one N6,.one (H7 (Bx b.2.1 l.2.2.1) (Bx b.2.2.2.1 l.2.2.2.2)),.many (λa=>(P7 w.params (vl [r,s,t,Y,x,y,z,D,q,(C a 1),(C a 41),(C a 46),(C a 50),(C a 62),(C a 63),(C a 67),(C a 71),(C a 45),(C a 49),(C a 28),(C a 34),(C a 66),(C a 70)]) f g k (C a 26) (Bx b.2.1 l.2.2.1) (Bx b.2.2.2.1 l.2.2.2.2) n (C a 74) (E+8) (C a 27) h i e c (C a 28) b (C a 29) (C a 30) (C a 31) (C a 32) (C a 33) (C a 34) l (C a 35) (C a 36) (C a 37) (C a 38) (C a 39) K (C a 40)).1) [0,11,4,2,3,5,6] [] ((b::(K++[l])).flatMap (BE e c))]) (d7:=[]) (H:=hd 0x10010410410410010010400410000440000040000040000001050400000000082002082490402490090400410400410400000410400000410410400410400451450051410051450482080402092402492482492402492482492402492482492c00410010400461860061811c71c01c70010010400461860061811c71c01c700100104104104114504014c081048) (K:=[(λa=>P8 f g h i e c 603 604 605 606 608,[1,2],[]),(λa=>JF w.params f g h i e c,[1,2],[]),(λa=>Rp w.params (C a 25) (C a 22) (C a 19) (C a 20) (C a 21) k q 2 (C a 3) (C a 2) f g h i (C a 14) (C a 15) (C a 16) (vl [W 0 a 4,W 0 a 5,W 0 a 6,W 0 a 7,W 0 a 8,W 0 a 9,W 0 a 10,W 0 a 11,W 0 a 12,W 0 a 13]) c.length e (Dy c (C a 17) (C a 18)) c (.str N7 (C a 23)) (.str N8 (C a 24)) b l K,[8,7,3,4,1,2,5,6],[0]),(λa=>EE (C a 26) (C a 27) (C a 57) (.ref (C a 28)) (A3 (Ac K (C a 40))) (.ref (C a 34)),[4],[]),(λa=>K6 b.2.1 l.2.2.1 (C a 30) (C a 37),[],[]),(λa=>K6 b.2.2.2.1 l.2.2.2.2 (C a 32) (C a 39),[],[]),(λa=>Pb (Bx b.2.1 l.2.2.1) (Bx b.2.2.2.1 l.2.2.2.2) (C a 72) (C a 66) (C a 70) 608,[],[]),(λa=>OS (C a 25) (C a 22) (.str N7 (C a 23)) (.str N8 (C a 24)),[0],[0])]) (l:=[5,6]) (b7:=[]) (d3:=λ_=>.ret (.ok (.ret .none))) (c1:=λ_=>[(f,I (J e) h),(g,I (J c) i)]) (e8:=λ_=>[]) (b8:=λ_=>[]) (G7 (Ha O S T) (FP O N (by lia)) (O4 O N a7 a8 (F4 c _ _).symm a1 b9 a6) (CZ O) (Hl O p.i0 b7 (by have:=a9.i2; lia)) (Hl O p.j0 b8 (by have:=a9.j2; lia)) (K5 O b2 b3) (JI O)) ⟨λa=>PJ O c3 c4 (by lia) (by lia) b6,trivial⟩ (by kernel_rfl) (f:=F) a3
  (λQ b1 a5 a4 b0 b4 X=>s_end _ _ _ _ _ a5 _ _ rfl ⟨rfl,a4⟩) a2
 have a0:(Dh [.one N5,.one N6,.one (H7 (Bx b.2.1 l.2.2.1) (Bx b.2.2.2.1 l.2.2.2.2)),.many (λa=>(P7 w.params (vl [r,s,t,Y,x,y,z,D,q,(C a 1),(C a 41),(C a 46),(C a 50),(C a 62),(C a 63),(C a 67),(C a 71),(C a 45),(C a 49),(C a 28),(C a 34),(C a 66),(C a 70)]) f g k (C a 26) (Bx b.2.1 l.2.2.1) (Bx b.2.2.2.1 l.2.2.2.2) n (C a 74) (E+8) (C a 27) h i e c (C a 28) b (C a 29) (C a 30) (C a 31) (C a 32) (C a 33) (C a 34) l (C a 35) (C a 36) (C a 37) (C a 38) (C a 39) K (C a 40)).1) [0,11,4,2,3,5,6] [] ((b::(K++[l])).flatMap (BE e c))]).flatten++[]=[N5,N6,H7 (Bx b.2.1 l.2.2.1) (Bx b.2.2.2.1 l.2.2.2.2)]++(b::(K++[l])).flatMap (BE e c):=by simp[Dh]
 rw[a0] at m
 exact m
end
end
section
noncomputable def Chn(d c:List (Str×Nat)):Int->Int->List B3->Prop
 |_,_,[]=>True
 |i,f,b::e=>i<=b.1/\f<=b.2.1/\0<=b.2.2/\b.1+b.2.2<=d.length/\b.2.1+b.2.2<=c.length/\(∀g,0<=g->g<b.2.2->Ao d (b.1+g)=Ao c (b.2.1+g))/\Chn d c (b.1+b.2.2) (b.2.1+b.2.2) e
section
variable{d c:List (Str×Nat)}
theorem Chn.mono{i f a9 b0:Int}(Q:a9<=i)(z:b0<=f):∀{e:List B3},Chn d c i f e->Chn d c a9 b0 e
 |[],_=>trivial
 |b::e,⟨n,p,t⟩=>⟨Int.le_trans Q n,Int.le_trans z p,t⟩
theorem GS:∀(e:List B3) {i f:Int},(∀b∈e,L8 d c b)->Ea e->(e.Pairwise λL b=>FY (DO L) (DO b))->(∀b∈e,i<=b.1/\f<=b.2.1)->Chn d c i f e
 |[],_,_,_,_,_,_=>trivial
 |b::e,i,f,m,c2,c1,a8=>by
  have N:=m b (List.mem_cons_self ..)
  obtain⟨c9,d0⟩:=List.pairwise_cons.mp c2
  obtain⟨c7,c8⟩:=List.pairwise_cons.mp c1
  have d6:=N.pos
  refine⟨(a8 b (List.mem_cons_self ..)).1,(a8 b (List.mem_cons_self ..)).2,by exact Int.le_of_lt ‹_›,N.i1,N.j1,N.eq,GS e (λa y=>m a (List.mem_cons_of_mem _ y)) d0 c8 λa y=>?_⟩
  have d1:=(m a (List.mem_cons_of_mem _ y)).pos
  have d5:=c9 a y
  rcases c7 a y with⟨a3,b2⟩ |⟨a3,b2⟩
  ·exact⟨a3,b2⟩
  ·have:a.1+a.2.2<=b.1:=a3
   lia
theorem EX{b3 b4:List B3}(t:∀i f,Chn d c i f b3->Chn d c i f b4):∀(k:List B3) {i f:Int},Chn d c i f (k++b3)->Chn d c i f (k++b4)
 |[],i,f,a=>t i f a
 |b::k,i,f,y=>by
  obtain⟨n,p,x,B,D,E,G⟩:=y
  exact⟨n,p,x,B,D,E,EX t k G⟩
theorem Ny{i f:Int}{a b:B3}{e:List B3}(a5:a.1+a.2.2=b.1)(a6:a.2.1+a.2.2=b.2.1):Chn d c i f (a::b::e)->Chn d c i f ((a.1,a.2.1,a.2.2+b.2.2)::e):=λy=>by
  obtain⟨n,p,x,B,D,E,X,g2,g3,d2,d3,b7,b8⟩:=y
  refine⟨n,p,by show 0<=a.2.2+b.2.2; lia,by show a.1+(a.2.2+b.2.2)<=_; lia,by show a.2.1+(a.2.2+b.2.2)<=_; lia,λg a4 K=>?_,?_⟩
  ·show Ao d (a.1+g)=Ao c (a.2.1+g)
   have K:g<a.2.2+b.2.2:=K
   by_cases c4:g<a.2.2
   ·exact E g a4 c4
   ·have:=b7 (g-a.2.2) (by lia) (by lia)
    rw[show b.1+(g-a.2.2)=a.1+g by lia,show b.2.1+(g-a.2.2)=a.2.1+g by lia] at this
    exact this
  ·show Chn d c (a.1+(a.2.2+b.2.2)) (a.2.1+(a.2.2+b.2.2)) e
   rw[show a.1+(a.2.2+b.2.2)=b.1+b.2.2 by lia,show a.2.1+(a.2.2+b.2.2)=b.2.1+b.2.2 by lia]
   exact b8
theorem IW{i f:Int}{a:B3}{e:List B3}(b6:a.2.2=0):Chn d c i f (a::e)->Chn d c i f e:=λy=>by
  obtain⟨n,p,x,B,D,E,G⟩:=y
  rw[b6,Int.add_zero,Int.add_zero] at G
  exact G.mono n p
theorem GO:∀(e:List B3) {i f:Int},i<=d.length->f<=c.length->Chn d c i f e->Chn d c i f (e++[(((d.length:Nat):Int),((c.length:Nat):Int),(0:Int))])
 |[],i,f,Q,z,_=>⟨Q,z,Int.le_refl _,by show((d.length:Nat):Int)+0<=_; simp,by show((c.length:Nat):Int)+0<=_; simp,λg a4 K=>by have:g<0:=K; lia,trivial⟩
 |b::e,i,f,Q,z,y=>by
  obtain⟨n,p,x,B,D,E,G⟩:=y
  exact⟨n,p,x,B,D,E,GO e B D G⟩
theorem FO{P:Int->Int->Prop}:∀(e:List B3) (a:B3) (k:List B3),Chn d c 0 0 (k++a::e)->(∀h l,P h l->∃b∈k++a::e,NJ b h l)->(∀b∈k,b.2.2≠0) ->
  Chn d c 0 0 ((CA (a,k) e).2++[(CA (a,k) e).1])/\(∀h l,P h l->∃b∈(CA (a,k) e).2++[(CA (a,k) e).1],NJ b h l)/\(∀b∈(CA (a,k) e).2,b.2.2≠0):=by
 intro e0
 induction e0 with
 |nil=>
  intro a k n p x
  exact⟨n,p,x⟩
 |cons b e d9=>
  intro a k n p x
  show Chn d c 0 0 ((CA (Co (a,k) b) e).2++[(CA (Co (a,k) b) e).1])/\(∀h l,P h l->∃T∈(CA (Co (a,k) b) e).2++[(CA (Co (a,k) b) e).1],NJ T h l)/\(∀T∈(CA (Co (a,k) b) e).2,T.2.2≠0)
  unfold Co
  dsimp only
  by_cases z:a.1+a.2.2=b.1/\a.2.1+a.2.2=b.2.1
  ·rw[if_pos z]
   refine d9 (a.1,a.2.1,a.2.2+b.2.2) k (EX (λi f=>Ny z.1 z.2) k n) (λh l g=>?_) x
   obtain⟨q,d8,s⟩:=p h l g
   have d4:0<=b.2.2/\0<=a.2.2:=by
    have b5:∀(k:List B3) {i f:Int},Chn d c i f (k++a::b::e)->0<=b.2.2/\0<=a.2.2:=by
     intro k
     induction k with
     |nil=>intro i f t; exact⟨t.2.2.2.2.2.2.2.2.1,t.2.2.1⟩
     |cons d7 k c5=>intro i f t; exact c5 t.2.2.2.2.2.2
    exact b5 k n
   rcases List.mem_append.mp d8 with d8 |d8
   ·exact⟨q,List.mem_append_left _ d8,s⟩
   ·obtain⟨H,M,a2⟩:=s
    rcases List.mem_cons.mp d8 with rfl |d8
    ·exact⟨(q.1,q.2.1,q.2.2+b.2.2),List.mem_append_right _ (List.mem_cons_self ..),H,by show h<q.1+(q.2.2+b.2.2); lia,a2⟩
    ·rcases List.mem_cons.mp d8 with rfl |d8
     ·exact⟨(a.1,a.2.1,a.2.2+q.2.2),List.mem_append_right _ (List.mem_cons_self ..),by show a.1<=h; lia,by show h<a.1+(a.2.2+q.2.2); lia,by show l=a.2.1+(h-a.1); lia⟩
     ·exact⟨q,List.mem_append_right _ (List.mem_cons_of_mem _ d8),H,M,a2⟩
  ·rw[if_neg z]
   by_cases r:a.2.2≠0
   ·rw[if_pos r]
    refine d9 b (k++[a]) (by rw[List.append_assoc]; exact n) (λh l g=>by rw[List.append_assoc]; exact p h l g) (λq d8=>?_)
    rcases List.mem_append.mp d8 with d8 |d8
    ·exact x q d8
    ·rw[List.mem_singleton.mp d8]; exact r
   ·rw[if_neg r]
    have r:a.2.2=0:=Decidable.of_not_not r
    refine d9 b k (EX (λi f=>IW r) k n) (λh l g=>?_) x
    obtain⟨q,d8,s⟩:=p h l g
    rcases List.mem_append.mp d8 with d8 |d8
    ·exact⟨q,List.mem_append_left _ d8,s⟩
    ·rcases List.mem_cons.mp d8 with rfl |d8
     ·obtain⟨H,M,a2⟩:=s
      lia
     ·exact⟨q,List.mem_append_right _ d8,s⟩
noncomputable def UX(d c:List (Str×Nat))(h l:Int):Prop:=0<=h/\h<d.length/\0<=l/\l<c.length/\Ao d h=Ao c l
theorem Gg(b1:(c.map (·.1)).Nodup)(n:d.length<=63)(p:c.length<=63) :
  ∃e:List B3,Dm d c=e++[(((d.length:Nat):Int),((c.length:Nat):Int),(0:Int))]/\Chn d c 0 0 (Dm d c)/\(∀b∈e,b.2.2≠0)/\(K4 d c->∀h l,UX d c h l->∃b∈e,NJ b h l):=by
 have S:=JV b1 (show d.length<=100 by lia) (show c.length<=100 by lia)
 have a1:=CJ (BK d c)
 have c3:(Bh (BK d c)).Pairwise λL b=>FY (DO L) (DO b):=by
  have c6:(BK d c).Pairwise λL b=>FY (DO L) (DO b):=List.pairwise_map.mp S.sep
  exact(a1.pairwise_iff (λt=>FY.symm t)).mpr c6
 have a0:∀b∈Bh (BK d c),L8 d c b:=λb m=>S.blk b (a1.mem_iff.mp m)
 have b9:Chn d c 0 0 (Bh (BK d c)):=GS _ a0 (E4 (Ib b1 (by lia) (by lia))) c3 λb m=>⟨(a0 b m).i0,(a0 b m).j0⟩
 have c0:Chn d c 0 0 ([]++((0:Int),(0:Int),(0:Int))::Bh (BK d c)):=⟨Int.le_refl _,Int.le_refl _,Int.le_refl _,by show(0:Int)+0<=_; simp,by show(0:Int)+0<=_; simp,λg a4 K=>by have:g<0:=K; lia,b9⟩
 obtain⟨X,g2,g3⟩:=FO (P:=λh l=>K4 d c/\UX d c h l) (Bh (BK d c)) (0,0,0) [] c0 (λh l g=>by
  rcases S.cov g.1 h l g.2.1 g.2.2.1 g.2.2.2.1 g.2.2.2.2.1 g.2.2.2.2.2 with⟨b,m,s⟩ |⟨b,m,_⟩
  ·exact⟨b,List.mem_cons_of_mem _ (a1.mem_iff.mpr m),s⟩
  ·cases m) (λb m=>nomatch m)
 have a5:(J d).length=d.length:=by simp[J]
 have a6:(J c).length=c.length:=by simp[J]
 unfold Dm
 rw[a5,a6]
 show ∃e:List B3,(if(Dg d c).1.2.2≠0 then _ else _)=_/\Chn d c 0 0 (if(Dg d c).1.2.2≠0 then _ else _)/\_
 by_cases r:(Dg d c).1.2.2≠0
 ·rw[if_pos r]
  refine⟨(Dg d c).2++[(Dg d c).1],rfl,GO _ (by simp) (by simp) X,λb m=>?_,λy h l g=>g2 h l ⟨y,g⟩⟩
  rcases List.mem_append.mp m with m |m
  ·exact g3 b m
  ·rw[List.mem_singleton.mp m]; exact r
 ·rw[if_neg r]
  have r:(Dg d c).1.2.2=0:=Decidable.of_not_not r
  have a7:Chn d c 0 0 ((Dg d c).2++[]):=EX (λi f=>IW r) (Dg d c).2 X
  rw[List.append_nil] at a7
  refine⟨(Dg d c).2,rfl,GO _ (by simp) (by omega) a7,g3,λy h l g=>?_⟩
  obtain⟨b,m,s⟩:=g2 h l ⟨y,g⟩
  rcases List.mem_append.mp m with m |m
  ·exact⟨b,m,s⟩
  ·rw[List.mem_singleton.mp m] at s
   obtain⟨H,M,_⟩:=s
   have H:(Dg d c).1.1<=h:=H
   have M:h<(Dg d c).1.1+(Dg d c).1.2.2:=M
   omega
end
end
section
noncomputable def C0(A:List Str)(i a:Int):List Str:=(A.drop i.toNat).take (a.toNat-i.toNat)
theorem P1(c:List (Str×Nat))(i a:Int):(Be c i a).map (·.1)=C0 (c.map (·.1)) i a:=by
 unfold Be C0
 rw[List.map_take,List.map_drop]
theorem D8(A:List Str){i a:Int}(p:a<=i):C0 A i a=[]:=by
 unfold C0
 rw[show a.toNat-i.toNat=0 by omega,List.take_zero]
theorem Do(A:List Str){i a:Int}(D:0<=i)(p:i<=a):C0 A i a++A.drop a.toNat=A.drop i.toNat:=by
 unfold C0
 have m:A.drop a.toNat=(A.drop i.toNat).drop (a.toNat-i.toNat):=by
  rw[List.drop_drop]
  congr 1
  lia
 rw[m]
 exact List.take_append_drop _ _
noncomputable def Ek(A a6:List Str):Int->Int->List B3->List (Sg Str)
 |_,_,[]=>[]
 |i,a,b::e=>(C0 A i b.1,C0 a6 a b.2.1,C0 A b.1 (b.1+b.2.2))::Ek A a6 (b.1+b.2.2) (b.2.1+b.2.2) e
noncomputable def GE(k:List (Sg Str)):List Str:=k.flatMap λh=>h.1.map (AV 1 ++ ·)++(h.2.1.map (AV 2 ++ ·)++h.2.2.map (AV 0 ++ ·))
section
variable{c d:List (Str×Nat)}
theorem Qd{z B H:Int}(s:0<=z)(t:0<=B)(G:z+H<=c.length)(y:B+H<=d.length)(p:∀h,0<=h->h<H->Ao c (z+h)=Ao d (B+h)) :
  C0 (c.map (·.1)) z (z+H)=C0 (d.map (·.1)) B (B+H):=by
 by_cases a3:H<=0
 ·rw[D8 _ (by lia),D8 _ (by lia)]
 ·apply List.ext_getElem?
  intro h
  unfold C0
  rw[List.getElem?_take,List.getElem?_take]
  by_cases c6:h<H.toNat
  ·rw[if_pos (by lia),if_pos (by lia),List.getElem?_drop,List.getElem?_drop]
   have m:=p (h:Nat) (by simp) (by lia)
   obtain⟨S,a0⟩:=DU (a:=c) (x:=z+(h:Nat)) (by lia) (by lia)
   obtain⟨b,b7⟩:=DU (a:=d) (x:=B+(h:Nat)) (by lia) (by lia)
   rw[a0,b7] at m
   have b2:z.toNat+h=(z+(h:Nat)).toNat:=by lia
   have b3:B.toNat+h=(B+(h:Nat)).toNat:=by lia
   rw[b2,b3,List.getElem?_eq_getElem S,List.getElem?_eq_getElem b,m]
  ·rw[if_neg (by omega),if_neg (by omega)]
noncomputable abbrev Dx(c d:List (Str×Nat)):B3:=(((c.length:Nat):Int),((d.length:Nat):Int),(0:Int))
theorem Hc:∀(e:List B3) {i a:Int},0<=i->i<=c.length->Chn c d i a (e++[Dx c d])->fA (Ek (c.map (·.1)) (d.map (·.1)) i a (e++[Dx c d]))=(c.map (·.1)).drop i.toNat:=by
 intro c9
 induction c9 with
 |nil=>
  intro i a D p _
  show(C0 _ i (c.length:Nat)++C0 _ (c.length:Nat) (((c.length:Nat):Int)+0))++[]=_
  rw[List.append_nil,D8 _ (by simp:((c.length:Nat):Int)+0<=((c.length:Nat):Int)),List.append_nil]
  have:=Do (c.map (·.1)) D p
  rw[List.drop_eq_nil_of_le (by simp),List.append_nil] at this
  exact this
 |cons b e c8=>
  intro i a D p c7
  obtain⟨s,t,G,y,E,K,q⟩:=c7
  show(C0 _ i b.1++C0 _ b.1 (b.1+b.2.2))++fA (Ek _ _ (b.1+b.2.2) (b.2.1+b.2.2) (e++[Dx c d]))=_
  rw[c8 (by lia) y q,List.append_assoc,Do _ (by lia) (by lia),Do _ D s]
theorem H9:∀(e:List B3) {i a:Int},0<=i->0<=a->a<=d.length->Chn c d i a (e++[Dx c d])->fB (Ek (c.map (·.1)) (d.map (·.1)) i a (e++[Dx c d]))=(d.map (·.1)).drop a.toNat:=by
 intro c9
 induction c9 with
 |nil=>
  intro i a Q D p _
  show(C0 _ a (d.length:Nat)++C0 _ (c.length:Nat) (((c.length:Nat):Int)+0))++[]=_
  rw[List.append_nil,D8 _ (by simp:((c.length:Nat):Int)+0<=((c.length:Nat):Int)),List.append_nil]
  have:=Do (d.map (·.1)) D p
  rw[List.drop_eq_nil_of_le (by simp),List.append_nil] at this
  exact this
 |cons b e c8=>
  intro i a Q D p c7
  obtain⟨s,t,G,y,E,K,q⟩:=c7
  show(C0 _ a b.2.1++C0 _ b.1 (b.1+b.2.2))++fB (Ek _ _ (b.1+b.2.2) (b.2.1+b.2.2) (e++[Dx c d]))=_
  rw[c8 (by lia) (by lia) E q,Qd (by lia) (by lia) y E K,List.append_assoc,Do _ (by lia) (by lia),Do _ D t]
theorem IK:∀(e:List B3) {i a:Int},0<=i->Chn c d i a (e++[Dx c d])->(∀b∈e,b.2.2≠0)->HM (Ek (c.map (·.1)) (d.map (·.1)) i a (e++[Dx c d])):=by
 intro c9
 induction c9 with
 |nil=>
  intro i a _ _ _
  exact⟨λ_ _=>rfl,trivial⟩
 |cons b e c8=>
  intro i a Q c7 a3
  obtain⟨s,t,G,y,E,K,q⟩:=c7
  refine⟨λ_ a2=>?_,c8 (by lia) q λx P=>a3 x (List.mem_cons_of_mem _ P)⟩
  have b0:=a3 b (List.mem_cons_self ..)
  have a2:C0 (c.map (·.1)) b.1 (b.1+b.2.2)=[]:=a2
  have:=congrArg List.length a2
  unfold C0 at this
  simp at this
  lia
theorem KA:∀(e:List B3) {i a r b6:Int},0<=i->Chn c d i a (e++[Dx c d])->(∃b∈e,NJ b r b6)->Ao c r∈fE (Ek (c.map (·.1)) (d.map (·.1)) i a (e++[Dx c d]))
 |[],_,_,_,_,_,_,⟨b,b0,_⟩=>nomatch b0
 |b::e,i,a,r,b6,Q,c7,⟨x,P,b1⟩=>by
  obtain⟨s,t,G,y,E,K,q⟩:=c7
  show Ao c r∈C0 _ b.1 (b.1+b.2.2)++fE (Ek _ _ (b.1+b.2.2) (b.2.1+b.2.2) (e++[Dx c d]))
  rcases List.mem_cons.mp P with rfl |P
  ·refine List.mem_append_left _ ?_
   obtain⟨b2,b3,_⟩:=b1
   obtain⟨S,a0⟩:=DU (a:=c) (x:=r) (by lia) (by exact Int.le_trans ‹_› ‹_›)
   rw[a0]
   unfold C0
   refine List.mem_of_getElem? (i:=(r-x.1).toNat) ?_
   rw[List.getElem?_take,if_pos (by lia),List.getElem?_drop,show x.1.toNat+(r-x.1).toNat=r.toNat by lia,List.getElem?_eq_getElem S]
  ·exact List.mem_append_right _ (KA e (by lia) q ⟨x,P,b1⟩)
theorem R1(i:Nat)(b4:List (Str×Nat)):BY i b4=(b4.map (·.1)).map (AV i ++ ·):=by
 unfold BY; rw[List.map_map]; rfl
theorem Dc(c d:List (Str×Nat))(n:Bd):BE c d n=match n.1 with
 |.eql=>(C0 (c.map (·.1)) n.2.1 n.2.2.1).map (AV 0 ++ ·)
 |.rep=>(C0 (c.map (·.1)) n.2.1 n.2.2.1).map (AV 1 ++ ·)++(C0 (d.map (·.1)) n.2.2.2.1 n.2.2.2.2).map (AV 2 ++ ·)
 |.del=>(C0 (c.map (·.1)) n.2.1 n.2.2.1).map (AV 1 ++ ·)
 |.ins=>(C0 (d.map (·.1)) n.2.2.2.1 n.2.2.2.2).map (AV 2 ++ ·):=by
 unfold BE
 cases n.1 <;> simp only[R1,P1]
theorem Nm{i a:Int}{b:B3}(s:i<=b.1)(t:a<=b.2.1):(DS i a b).flatMap (BE c d)=(C0 (c.map (·.1)) i b.1).map (AV 1 ++ ·)++(C0 (d.map (·.1)) a b.2.1).map (AV 2 ++ ·):=by
 unfold DS
 by_cases a9:i<b.1
 ·rw[if_pos a9]
  by_cases M:a<b.2.1
  ·rw[if_pos M,List.flatMap_singleton,Dc]
  ·rw[if_neg M,List.flatMap_singleton,Dc,D8 (d.map (·.1)) (by lia:b.2.1<=a)]
   simp
 ·rw[if_neg a9,D8 (c.map (·.1)) (by lia:b.1<=i)]
  by_cases M:a<b.2.1
  ·rw[if_pos M,List.flatMap_singleton,Dc]
   simp
  ·rw[if_neg M,D8 (d.map (·.1)) (by lia:b.2.1<=a)]
   simp
theorem Nr{b:B3}(p:0<=b.2.2):(DR b).flatMap (BE c d)=(C0 (c.map (·.1)) b.1 (b.1+b.2.2)).map (AV 0 ++ ·):=by
 unfold DR
 by_cases x:b.2.2≠0
 ·rw[if_pos x,List.flatMap_singleton,Dc]
 ·rw[if_neg x,D8 (c.map (·.1)) (by lia:b.1+b.2.2<=b.1)]
  simp
theorem IG:∀(e:List B3) {i a:Int} (l:List Bd),Chn c d i a e->(CV ((i,a),l) e).2.flatMap (BE c d)=l.flatMap (BE c d)++GE (Ek (c.map (·.1)) (d.map (·.1)) i a e)
 |[],i,a,l,_=>(List.append_nil _).symm
 |b::e,i,a,l,c7=>by
  obtain⟨s,t,G,y,E,K,q⟩:=c7
  show(CV ((b.1+b.2.2,b.2.1+b.2.2),l++DS i a b++DR b) e).2.flatMap (BE c d)=_
  rw[IG e _ q,List.flatMap_append,List.flatMap_append,Nm s t,Nr G]
  show _=_++((C0 _ i b.1).map (AV 1 ++ ·)++((C0 _ a b.2.1).map (AV 2 ++ ·)++(C0 _ b.1 (b.1+b.2.2)).map (AV 0 ++ ·))++GE (Ek _ _ (b.1+b.2.2) (b.2.1+b.2.2) e))
  simp only[List.append_assoc]
noncomputable def KQ(f L:Bd):Prop:=f.2.1<=L.2.2.1/\f.2.2.2.1<=L.2.2.2.2
theorem WN{f:Bd->Bd->Prop}{o:List Bd}(p:o.length<=1):o.Pairwise f:=by
 cases o with
 |nil=>exact .nil
 |cons S e=>cases e with
  |nil=>exact List.pairwise_singleton _ _
  |cons b e=>exact absurd p (Nat.not_le.mpr (Nat.le_add_left 2 _))
theorem MF:∀(e:List B3) {i a:Int} (l:List Bd),0<=i->0<=a->Chn c d i a e->(∀f∈l,D2 c d f/\f.2.1<=i/\f.2.2.2.1<=a)->l.Pairwise KQ ->
  (∀f∈(CV ((i,a),l) e).2,D2 c d f)/\(CV ((i,a),l) e).2.Pairwise KQ:=by
 intro c9
 induction c9 with
 |nil=>
  intro i a l _ _ _ N a4
  exact⟨λf g=>(N f g).1,a4⟩
 |cons b e c8=>
  intro i a l Q c1 c7 N a4
  obtain⟨s,t,G,y,E,K,q⟩:=c7
  show(∀f∈(CV ((b.1+b.2.2,b.2.1+b.2.2),l++DS i a b++DR b) e).2,D2 c d f)/\(CV ((b.1+b.2.2,b.2.1+b.2.2),l++DS i a b++DR b) e).2.Pairwise KQ
  have T:∀f∈DS i a b,f.2=(i,b.1,a,b.2.1):=by
   intro f g
   unfold DS at g
   split at g <;> split at g <;> first |(rw[List.mem_singleton.mp g]) |cases g
  have a1:∀f∈DR b,f.2=(b.1,b.1+b.2.2,b.2.1,b.2.1+b.2.2):=by
   intro f g
   unfold DR at g
   split at g <;> first |(rw[List.mem_singleton.mp g]) |cases g
  have c0:(DS i a b).length<=1:=by
   unfold DS
   split <;> split <;> simp
  have b9:(DR b).length<=1:=by
   unfold DR
   split <;> simp
  refine c8 _ (by lia) (by lia) q (λf g=>?_) ?_
  ·rcases List.mem_append.mp g with g |g
   ·rcases List.mem_append.mp g with g |g
    ·obtain⟨X,a7,a8⟩:=N f g
     exact⟨X,by lia,by lia⟩
    ·have m:=T f g
     obtain⟨b8,c2,c3,c4,c5⟩:=f
     cases m
     exact⟨⟨Q,s,by show b.1<=_; lia,c1,t,by show b.2.1<=_; lia⟩,by show i<=_; lia,by show a<=_; lia⟩
   ·have m:=a1 f g
    obtain⟨b8,c2,c3,c4,c5⟩:=f
    cases m
    exact⟨⟨by show 0<=b.1; lia,by show b.1<=b.1+b.2.2; lia,y,by show 0<=b.2.1; lia,by show b.2.1<=b.2.1+b.2.2; lia,E⟩,by show b.1<=_; lia,by show b.2.1<=_; lia⟩
  ·refine List.pairwise_append.mpr ⟨List.pairwise_append.mpr ⟨a4,WN c0,λf g L a5=>?_⟩,WN b9,λf g L a5=>?_⟩
   ·obtain⟨X,a7,a8⟩:=N f g
    have m:=T L a5
    unfold KQ
    rw[m]
    exact⟨by show f.2.1<=b.1; exact Int.le_trans ‹_› ‹_›,by show f.2.2.2.1<=b.2.1; exact Int.le_trans ‹_› ‹_›⟩
   ·have m:=a1 L a5
    unfold KQ
    rw[m]
    rcases List.mem_append.mp g with g |g
    ·obtain⟨X,a7,a8⟩:=N f g
     exact⟨by show f.2.1<=b.1+b.2.2; lia,by show f.2.2.2.1<=b.2.1+b.2.2; lia⟩
    ·rw[T f g]
     exact⟨by show i<=b.1+b.2.2; lia,by show a<=b.2.1+b.2.2; lia⟩
theorem Kn:∀(e:List B3) (k:(Int×Int)×List Bd),(CV k e).2.length<=k.2.length+2*e.length:=by
 intro c9
 induction c9 with
 |nil=>
  intro k
  show k.2.length<=_; simp
 |cons b e c8=>
  intro k
  have:=c8 (Gi k b)
  have T:(DS k.1.1 k.1.2 b).length<=1:=by
   unfold DS
   split <;> split <;> simp
  have a1:(DR b).length<=1:=by
   unfold DR
   split <;> simp
  have m:(Gi k b).2.length=k.2.length+(DS k.1.1 k.1.2 b).length+(DR b).length:=by simp[Gi]; lia
  show(CV (Gi k b) e).2.length<=_
  rw[List.length_cons]
  lia
end
end
section
noncomputable def Fx:List Bd->List Bd
 |[]=>[]
 |[x]=>if((AC x.1).cps.toList==Bj)=true then[] else[x]
 |x::D::c=>x::D::c
noncomputable def Ms:List Bd->List Str
 |[]=>[]
 |x::c=>[N5,N6,H7 (Bx x.2.1 (c.getLastD x).2.2.1) (Bx x.2.2.2.1 (c.getLastD x).2.2.2.2)]
noncomputable def By(b a:List (Str×Nat)):List Str:=(Fx (Bs b a)).flatMap (BE b a)
noncomputable def DJ(b a:List (Str×Nat)):List Str:=Ms (Fx (Bs b a))++By b a
structure RR(b a:List (Str×Nat)):Prop where
 row:∀z∈Bs b a,D2 b a z
 ord:(Bs b a).Pairwise KQ
 len:(Bs b a).length<900
 rows:(Bs b a).flatMap (BE b a)=GE (Ek (b.map (·.1)) (a.map (·.1)) 0 0 (Dm b a))
theorem Hb{b a:List (Str×Nat)}(h:(a.map (·.1)).Nodup)(a6:b.length<=63)(b5:a.length<=63):RR b a:=by
 obtain⟨c,N,m,a8,e9⟩:=Gg h a6 b5
 obtain⟨e2,e3⟩:=MF (Dm b a) [] (Int.le_refl 0) (Int.le_refl 0) m (λ_ M=>nomatch M) .nil
 refine⟨e2,e3,?_,?_⟩
 ·have:=Kn (Dm b a) ((0,0),[])
  have e7:=JH (Kf h a6 (show a.length<=100 by lia))
  unfold Bs
  simp only[List.length_nil] at this
  lia
 ·have:=IG (Dm b a) [] m
  exact this
theorem O3{b a:List (Str×Nat)}(h:(a.map (·.1)).Nodup)(a6:b.length<=63)(b5:a.length<=63):(DJ b a).length<sizeLine:=by
 have K:=Hb h a6 b5
 have c8:(Fx (Bs b a)).length<=(Bs b a).length:=by
  have:∀o:List Bd,(Fx o).length<=o.length:=λo=>by
   unfold Fx
   split <;> (try split) <;> simp
  exact this _
 have a7:∀c:List Bd,((c.flatMap (BE b a)).length<=200*c.length):=by
  intro c
  induction c with
  |nil=>simp
  |cons x c f8=>
   rw[List.flatMap_cons,List.length_append,List.length_cons]
   have:(BE b a x).length<=200:=by
    rw[Dc]
    have c4:∀b1 b2,(C0 (b.map (·.1)) b1 b2).length<=63:=λb1 b2=>by
     unfold C0
     rw[List.length_take,List.length_drop,List.length_map]
     omega
    have d8:∀b1 b2,(C0 (a.map (·.1)) b1 b2).length<=63:=λb1 b2=>by
     unfold C0
     rw[List.length_take,List.length_drop,List.length_map]
     omega
    split
    ·rw[List.length_map]; exact Nat.le_trans (c4 _ _) (by decide)
    ·rw[List.length_append,List.length_map,List.length_map]
     have:=c4 x.2.1 x.2.2.1
     have:=d8 x.2.2.2.1 x.2.2.2.2
     lia
    ·rw[List.length_map]; exact Nat.le_trans (c4 _ _) (by decide)
    ·rw[List.length_map]; exact Nat.le_trans (d8 _ _) (by decide)
   lia
 have f7:(Ms (Fx (Bs b a))).length<=3:=by
  unfold Ms
  split <;> simp
 have:=a7 (Fx (Bs b a))
 have:=K.len
 rw[sizeLine_eq]
 unfold DJ By
 rw[List.length_append]
 omega
theorem Spec.of_callD{b4:Cx}{S:Spec}{i:Value}{d7:List Value}(f9:S.drop=true)(m:S.code = .call i ⟨d7,[]⟩)(N:∀f,S.upd f=[])(c8:∀f,(S.gupd f).length=S.gfp.length)(M:∀A,Room S.d A->∀(F:AK) (n:Shared) (b9:VP),RepF b4 (S.fp++S.ins) S.gfp F n ->
   (∀f p z,f.length=S.nf->S.res f = .ok (.ret z)->RepF b4 (S.new f++S.outs f) (Am S.gfp (S.gupd f)++S.gnew f) F p->b9 z p)->wpAny (model pw b4.w) A (call i d7) b9 (λ_ _=>False) n):S.Ok b4:=by
 refine⟨Spec.lenOkD f9 N,c8,λA E F n R f0 a8 H c=>?_⟩
 have e:=M A E F n (λz p=>R (.ok (.ret z)) p) f0 λf p z f1 g a9=>g▸a8 f p f1 (by
  have e4:Am S.fp (S.upd f)=[]:=by rw[N f]; cases S.fp <;> rfl
  rw[e4,List.nil_append]; exact a9)
 intro Γ f3 MΓ
 have D:=e Γ f3 MΓ
 rw[call,Sem.wp_runValue] at D
 rw[m]
 exact wpCode_mono (λz p c3=>by
  cases z with
  |error g=>exact c3.elim
  |ok i=>cases i <;> first |exact c3 |exact c3.elim) D
noncomputable def Q6(e1:Params)(ga H:Nat)(b6 b7:Value)(i X a0 a1 Y a2 a3 a4 a5 k l:Nat)(q:Int)(b3 g r s:Nat)(b a:List (Str×Nat))(b8:List Str):Spec:=
 {code:=.call (.type "list") ⟨[.ref ga],[]⟩,fp:=[(ga,AN H b6 b7),(i,Bl (u8 e1 X a0 a1 Y a2 a3 a4 a5 k l q b3) g),(k,I (J b) r),(l,I (J a) s)],gfp:=[(H,Cl (Ft i))],gupd:=λ_=>[BJ],drop:=true,upd:=λ_=>[],nf:=3,d:=668,
  new:=λf=>[(k,I (J b) r),(l,I (J a) s),(W 0 f 0,I (J (toks b8 (W 0 f 1))) (W 0 f 2))],res:=λf=>.ok (.ret (.ref (W 0 f 0)))}
section
variable{ga H:Nat}{b6 b7:Value}{i X a0 a1 Y a2 a3 a4 a5 k l:Nat}{q:Int}{b3 g r s:Nat}{b a:List (Str×Nat)}(h:(a.map (·.1)).Nodup)(t:b.length<=63)(y:a.length<=63)(g0:CF b)(g1:CF a)(d0:q=b.length+a.length)
include O h t y g0 g1 d0
theorem Qu(F:AK)(n:Shared)(Q:RepF (V w j o u) [(i,Bl (u8 w.params X a0 a1 Y a2 a3 a4 a5 k l q b3) g),(k,I (J b) r),(l,I (J a) s)] [] F n)(A:Around)(E:Room 648 A) :
  SegX (model pw w) A (Ft i) (denote table (Ft i)) [] n (Ev (V w j o u) 648 (Db (V w j o u) [(k,I (J b) r),(l,I (J a) s)]) (DJ b a) F):=by
 have K:=Hb h t y
 have a7:∀e∈Bs b a,e.2.2.1-e.2.1<=q/\e.2.2.2.2-e.2.2.2.1<=q/\0<=q:=λe T=>by
  have:=K.row e T
  have a6:=this.i0; have b5:=this.i2; have e7:=this.j0; have f6:=this.j2
  lia
 unfold DJ By
 match P:Bs b a with
 |[]=>
  by_cases e6:q=0
  ·exact Ve O h t y g0 g1 P e6 F n Q A E
  ·exfalso
   obtain⟨c,N,m,a8,e9⟩:=Gg h t y
   have d3:=K.rows
   rw[P] at d3
   have c1:=Hc c (Int.le_refl 0) (by simp) (N▸m)
   have c2:=H9 c (Int.le_refl 0) (Int.le_refl 0) (by simp) (N▸m)
   rw[<-N] at c1 c2
   have T:∀B∈Ek (b.map (·.1)) (a.map (·.1)) 0 0 (Dm b a),B.1=[]/\B.2.1=[]/\B.2.2=[]:=λB b0=>by
    have M:=List.flatMap_eq_nil_iff.mp d3.symm B b0
    simpa using M
   have r:fA (Ek (b.map (·.1)) (a.map (·.1)) 0 0 (Dm b a))=[]:=List.flatMap_eq_nil_iff.mpr λB b0=>by
    obtain⟨c5,c6,c0⟩:=T B b0
    rw[c5,c0]; rfl
   have s:fB (Ek (b.map (·.1)) (a.map (·.1)) 0 0 (Dm b a))=[]:=List.flatMap_eq_nil_iff.mpr λB b0=>by
    obtain⟨c5,c6,c0⟩:=T B b0
    rw[c6,c0]; rfl
   rw[r] at c1
   rw[s] at c2
   have k:=congrArg List.length c1
   have l:=congrArg List.length c2
   simp at k l
   lia
 |[x]=>
  have f2:D2 b a x:=K.row x (by rw[P]; exact List.mem_cons_self ..)
  cases m:((AC x.1).cps.toList==Bj) with
  |true=>
   have g:Fx [x]=[]:=if_pos m
   rw[g]
   exact Un O h t y g0 g1 P m a7 F n Q A E
  |false=>
   have g:Fx [x]=[x]:=if_neg (by rw[m]; exact Bool.false_ne_true)
   rw[g]
   exact VZ O h t y g0 g1 P m a7 f2 F n Q A E
 |x::D::c=>
  obtain⟨G,e,c7⟩:∃G e,D::c=G++[e]:=⟨(D::c).dropLast,(D::c).getLast (by simp),(List.dropLast_concat_getLast (by simp)).symm⟩
  have d1:Bs b a=x::(G++[e]):=by rw[P,c7]
  have g:Fx (x::D::c)=x::(G++[e]):=by rw[<-c7]; rfl
  rw[g]
  have d2:=K.ord
  have c9:=K.len
  have d4:=K.row
  rw[d1] at d2 c9 d4
  obtain⟨f4,f5⟩:=(List.pairwise_cons.mp d2).1 e (by simp)
  have e5:Ms (x::(G++[e]))=[N5,N6,H7 (Bx x.2.1 e.2.2.1) (Bx x.2.2.2.1 e.2.2.2.2)]:=by
   have:(G++[e]).getLastD x=e:=by simp
   show[N5,N6,H7 (Bx x.2.1 ((G++[e]).getLastD x).2.2.1) (Bx x.2.2.2.1 ((G++[e]).getLastD x).2.2.2.2)]=_
   rw[this]
  rw[e5]
  exact VV O h t y g0 g1 d1 (by simp at c9; lia) a7 d4 f4 f5 F n Q A E
theorem Hf{b8:List Str}(T:b8=DJ b a):(Q6 w.params ga H b6 b7 i X a0 a1 Y a2 a3 a4 a5 k l q b3 g r s b a b8).Ok (V w j o u):=by
 subst T
 exact Spec.of_callD rfl rfl (λ_=>rfl) (λ_=>rfl) λA E F n b9 Q a8=>
  list_gen O (k:=648) (O3 h t y) E (h:=[(i,Bl (u8 w.params X a0 a1 Y a2 a3 a4 a5 k l q b3) g),(k,I (J b) r),(l,I (J a) s)]) Q (λe0 p a9 d9 e8=>Qu O h t y g0 g1 d0 e0 p a9 d9 e8) λc d5 d6 p a9=>by
   refine a8 [c,d6,d5] p _ rfl rfl ?_
   have e:RepF (V w j o u) ([(c,I (J (toks (DJ b a) d6)) d5)]++((ga,AN H b6 b7)::[(k,I (J b) r),(l,I (J a) s)])) [(H,BJ)] F p:=a9
   exact RepF.sub (RepF.ord [2,2,0] e rfl) (List.sublist_append_left [_,_,_] _)
end
end
section
open StrLaws
noncomputable def F9(a:Str):Str:=⟨⟨a.cps.toList.take 1⟩⟩
noncomputable def BG(a:Str):Str:=⟨⟨a.cps.toList.drop 1⟩⟩
noncomputable def IB(a:Str)(g n l:Nat):Spec:={code:=.call (.builtin "str.__getitem__") ⟨[.str a g,.ref n],[]⟩,fp:=[(n,Hz .none (.int 1 l))],upd:=λ_=>[Hz .none (.int 1 l)],nf:=1,res:=λa6=>.ok (.ret (.str (F9 a) (W 0 a6 0))),d:=20}
noncomputable def IS(a:Str)(g n l:Nat):Spec:={code:=.call (.builtin "str.__getitem__") ⟨[.str a g,.ref n],[]⟩,fp:=[(n,Hz (.int 1 l) .none)],upd:=λ_=>[Hz (.int 1 l) .none],nf:=1,res:=λa6=>.ok (.ret (.str (BG a) (W 0 a6 0))),d:=20}
noncomputable def E6(b f:List (Str×Nat)):Bool:=decide (b.map (·.1)=f.map (·.1))
section
variable{a7:Cx}
theorem EI{a:Str}{g n l:Nat}(p:1<=a.cps.toList.length)(b6:a.length<=sizeLine):(IB a g n l).Ok a7:=Spec.of_call rfl (λ_=>rfl) (λ_=>rfl) λA b4 a9 e a0 L i=>by
 have k:sliceText a none (some 1)=F9 a:=by
  rw[sliceText_to ⟨by decide,by lia⟩]
  rfl
 refine call_meets F.slot_str_getitem (typeIs_str e a g) F.entry_str_getitem (F.args_str_getitem_2 _ _) (meets_str_getitem_slice a g n none (some (1,l)) none rfl) ⟨⟨_,RepF.get0 L,rfl,rfl⟩,?_⟩
 refine post_val_or_str ⟨?_,λN a3=>?_⟩
 ·have m:sliceText a none (some 1)=F9 a:=k
  show(sliceText a none (some 1)).length<=sizeLine
  rw[m]
  show(a.cps.toList.take 1).length<=sizeLine
  exact Nat.le_trans (List.length_take_le 1 _) (by decide)
 ·have m:sliceText a none (some 1)=F9 a:=k
  show a0 (.str (sliceText a none (some 1)) N) _
  rw[m]
  exact i [N] _ _ rfl rfl (RepF.toks L a3)
theorem EJ{a:Str}{g n l:Nat}(p:1<=a.cps.toList.length)(b6:a.length<=sizeLine):(IS a g n l).Ok a7:=Spec.of_call rfl (λ_=>rfl) (λ_=>rfl) λA b4 a9 e a0 L i=>by
 have k:sliceText a (some 1) none=BG a:=by
  rw[sliceText_from ⟨by decide,by lia⟩]
  have r:((a.cps.toList.length:Int)-1).toNat=(a.cps.toList.drop 1).length:=by rw[List.length_drop]; simp
  rw[r]
  show(⟨((a.cps.toList.drop 1).take (a.cps.toList.drop 1).length).toArray⟩:Str)=_
  rw[List.take_length]
  rfl
 refine call_meets F.slot_str_getitem (typeIs_str e a g) F.entry_str_getitem (F.args_str_getitem_2 _ _) (meets_str_getitem_slice a g n (some (1,l)) none none rfl) ⟨⟨_,RepF.get0 L,rfl,rfl⟩,?_⟩
 refine post_val_or_str ⟨?_,λN a3=>?_⟩
 ·show(sliceText a (some 1) none).length<=sizeLine
  rw[k]
  show(a.cps.toList.drop 1).length<=sizeLine
  have:a.cps.toList.length=a.length:=by simp[Str.length]
  rw[List.length_drop]; lia
 ·show a0 (.str (sliceText a (some 1) none) N) _
  rw[k]
  exact i [N] _ _ rfl rfl (RepF.toks L a3)
theorem NV{b f:List (Str×Nat)}(p:b.length=f.length):((List.range b.length).all λc=>(As b c).1.cps.toList==(As f c).1.cps.toList)=E6 b f:=by
 unfold E6
 rw[Bool.eq_iff_iff,List.all_eq_true,decide_eq_true_iff]
 have P:∀(X:List (Str×Nat)) (c:Nat) (K:c<X.length),(As X (c:Nat)).1=(X.map (·.1))[c]'(by simpa using K):=λX c K=>by simp[As,List.getD,K]
 constructor
 ·intro b5
  apply List.ext_getElem
  ·simp[p]
  ·intro c E Q
   have M:c<b.length:=by simpa using E
   have a2:c<f.length:=by simpa using Q
   have:=b5 c (List.mem_range.mpr M)
   rw[P b c M,P f c a2] at this
   have this:=eq_of_beq this
   exact Str.ext' (by rw[<-Array.toList_inj]; exact this)
 ·intro k c K
  have M:c<b.length:=List.mem_range.mp K
  have a2:c<f.length:=p▸M
  rw[P b c M,P f c a2]
  simp only[k]
  exact beq_self_eq_true _
theorem MS{b:List (Str×Nat)}{c:Nat}(p:c<(⟨J b⟩:Array Value).size):(⟨J b⟩:Array Value)[c] = .str (As b (c:Nat)).1 (As b (c:Nat)).2:=by
 have b3:c<b.length:=by simpa[J] using p
 simp[J,As,List.getD,b3]
theorem JJ{b f:List (Str×Nat)}(p:b.length≠f.length):E6 b f=false:=by
 unfold E6
 refine decide_eq_false λk=>p ?_
 have:=congrArg List.length k
 simpa using this
theorem MM{a8:Program}{w:World}{t D a5 a4:Nat}:∀(x y h z:List (Str×Nat)),h.length=z.length->x.length=y.length->∀{A:Around} {e:Shared} {R:RP},e.heap.get? t=some (I (J (h++x)) a5)->e.heap.get? D=some (I (J (z++y)) a4) ->
  R (.ok (.ret (.bool (!E6 x y)))) e->codeAny (model a8 w) A (.builtin "list.__eq__.loop" ⟨[.ref t,.ref D,rawInt (h.length:Nat),rawInt 3],[]⟩) R e
 |[],[],h,z,E,Q,A,e,R,s,q,i=>by
  refine codeAny_builtin MeetsSeq3.entry_eq_loop ?_
  rw[Around.under_plainId MeetsSeq3.plain_eq_loop _]
  show wpAny _ _ (Builtin.List.listItems (.ref t)>>=_) _ _ e
  refine wpAny_bind (listItems_at s rfl (wpAny_bind (listItems_at q rfl ?_)))
  have m:(⟨J (h++[])⟩:Array Value)[((h.length:Nat):Int).toNat]?=none:=by simp[J]
  rw[m]
  refine wpAny_bind (listItems_at s rfl (wpAny_bind (listItems_at q rfl ?_)))
  refine wpAny_pure ?_
  have r:(⟨J (h++[])⟩:Array Value).size=(⟨J (z++[])⟩:Array Value).size:=by simp[J,E]
  show R (.ok (.ret (.bool ((⟨J (h++[])⟩:Array Value).size != (⟨J (z++[])⟩:Array Value).size)))) e
  rw[r]
  have H:(!E6 [] [])=false:=by decide
  rw[H] at i
  simpa using i
 |(a,g)::x,(B,G)::y,h,z,E,Q,A,e,R,s,q,i=>by
  simp only[List.length_cons] at Q
  refine codeAny_builtin MeetsSeq3.entry_eq_loop ?_
  rw[Around.under_plainId MeetsSeq3.plain_eq_loop _]
  show wpAny _ _ (Builtin.List.listItems (.ref t)>>=_) _ _ e
  refine wpAny_bind (listItems_at s rfl (wpAny_bind (listItems_at q rfl ?_)))
  have m:(⟨J (h++(a,g)::x)⟩:Array Value)[((h.length:Nat):Int).toNat]?=some (.str a g):=by simp[J]
  have r:(⟨J (z++(B,G)::y)⟩:Array Value)[((h.length:Nat):Int).toNat]?=some (.str B G):=by simp[J,E]
  rw[m,r]
  refine wpAny_bind (SeqRoads2.EqGives.str a B g G _ _ _ _ _ _ ?_)
  cases a1:(a.cps.toList==B.cps.toList) with
  |true=>
   have b1:a=B:=Str.ext' (Array.toList_inj.mp (eq_of_beq a1))
   refine wpAny_pure ⟨plainId_quiet MeetsSeq3.plain_eq_loop _,?_⟩
   have b0:((h.length:Nat):Int)+1=(((h++[(a,g)]).length:Nat):Int):=by simp
   rw[b0]
   refine MM x y (h++[(a,g)]) (z++[(B,G)]) (by simp[E]) (by lia) (by rw[List.append_assoc]; exact s) (by rw[List.append_assoc]; exact q) ?_
   have H:E6 ((a,g)::x) ((B,G)::y)=E6 x y:=by
    unfold E6
    rw[b1]
    simp
   rw[<-H]; exact i
  |false=>
   show wpAny _ _ (Builtin.List.listItems (.ref t)>>=_) _ _ e
   refine wpAny_bind (listItems_at s rfl (wpAny_bind (listItems_at q rfl ?_)))
   rw[m,r]
   have H:E6 ((a,g)::x) ((B,G)::y)=false:=by
    unfold E6
    refine decide_eq_false λk=>?_
    simp only[List.map_cons,List.cons.injEq] at k
    rw[k.1,beq_self_eq_true] at a1
    cases a1
   rw[H] at i
   exact wpAny_pure i
theorem Oq(t D a5 a4:Nat)(b f:List (Str×Nat)):Meets (Builtin.«list.__ne__» ⟨[.ref t,.ref D],[]⟩) (λ_ R e=>e.heap.get? t=some (I (J b) a5)/\e.heap.get? D=some (I (J f) a4)/\R (.ok (.ret (.bool (!E6 b f)))) e):=by
 intro a8 w A R e p
 obtain⟨s,q,i⟩:=p
 have b2:=AutoSeq1.sub_list_list
 have m:(⟨J b⟩:Array Value).size=b.length:=by simp[J]
 have r:(⟨J f⟩:Array Value).size=f.length:=by simp[J]
 show wpAny _ _ (isInstance (.ref D) (.type "list")>>=_) _ _ e
 refine wpAny_bind (wpAny_isInstance (T:= "list") (b:=true) ⟨_,q,rfl⟩ b2 ?_)
 show wpAny _ _ (Builtin.List.listItems (.ref t)>>=_) _ _ e
 refine wpAny_bind (listItems_at s rfl (wpAny_bind (listItems_at q rfl ?_)))
 by_cases S:b.length=f.length
 ·rw[if_neg (by rw[m,r,S]; simp)]
  exact wpAny_pure ⟨plainId_quiet MeetsSeq3.plain_eq_loop _,MM b f [] [] rfl S s q i⟩
 ·rw[if_pos (by rw[m,r]; simpa using S)]
  refine wpAny_bind (wpAny_rule (wpAny_pure ?_))
  rw[JJ S] at i
  exact i
end
end
section
noncomputable def JL:Stmt->List Stmt
 |.While _ _ a _=>a
 |_=>[]
noncomputable def Cb(h:Nat):Env:=Gq (C2 10) 273 272 (S [95,99,51,95,109,101,114,103,101,46,60,108,111,99,97,108,115,62,46]) h
noncomputable def Fc(d:Nat):Stmt:=W B6 (B2 (C2 10)) d
noncomputable def cC(h:Nat):Code:=.whileLoop (EN (Fc 2)) (CP (Fc 2)) (JL (Fc 2)) (Cb h)
noncomputable def Ju:Str:=S [115,101,113,117,101,110,99,101,115]
noncomputable def Ga:Str:=S [114,101,115,117,108,116]
noncomputable def UB:Str:=S [115,49]
noncomputable def P6:Str:=S [99,97,110,100,105,100,97,116,101]
noncomputable def V9:Str:=S [115,50]
noncomputable def Rh:Str:=S [115,101,113]
noncomputable def Is(b:Params)(f g n m a:Nat):Obj:=Bl [en b Ju f (.ref n),en b Ga g (.ref m)] a
noncomputable def E1(b:Params)(f g s Y t x n m:Nat)(B y D E:Value)(a:Nat):Obj:=Bl [en b Ju f (.ref n),en b Ga g (.ref m),en b UB s B,en b P6 Y y,en b V9 t D,en b Rh x E] a
noncomputable def Gy:PySem.Expr->Scope
 |.ListComp _ _ e _=>e
 |_=>default
noncomputable def HE(a:PySem.Expr)(c:Env)(r:Nat):Env:={scope:=Gy a,locals:=r,globals:=3,cells:=[],qual:=c.qual,code:=c.code,frame:=c.frame}
noncomputable def IY:PySem.Expr->Bool
 |.ListComp _ (⟨_,_,_,0⟩::_) _ _=>true
 |_=>false
theorem BQ{w:World}{a:PySem.Expr}(i:IY a=true){e:Shared}{k l d:Nat}{p:Value}{c:Env}(z:e.heap.get? k=some (A6 l (d:Nat)))(q:codeAny (model pw w) A (.compLoop a 0 (.ref k) p c) R e):codeAny (model pw w) A (.compStart a 0 (.ref k) p c) R e:=by
 cases a with
 |ListComp Q K L N=>cases K with
  |nil=>cases i
  |cons K P=>
   obtain⟨M,g2,g3,H⟩:=K
   cases H with
   |ofNat H=>cases H with
    |zero=>exact codeAny_compStart_list q (wpAny_pyIter_listiter (l:=l) (i:=d) ⟨_,z,rfl,rfl⟩ q)
    |succ H=>cases i
   |negSucc H=>cases i
 |_=>cases i
noncomputable def MT:Stmt->PySem.Expr
 |.Assign _ G _=>G
 |_=>.Constant .none 0 default
noncomputable def eC:PySem.Expr:=MT (W B6 (CP (Fc 2)) 0)
theorem GB:IY eC=true:=by kernel_rfl
noncomputable def KH:Str:=S [115]
end
section
noncomputable def Da(Q:Nat):List (Str×Nat)->List Value
 |[]=>[]
 |_::_=>[.ref Q]
noncomputable def FA(N:Params)(K l h k g a b m f s:Nat)(c q:List (Str×Nat)):Spec:=
 {code:=.compStart eC 0 (.ref l) (.ref h) (HE eC (Cb K) k),d:=40,nf:=1,fp:=[(l,A6 g 0),(h,I [] 0),(k,A5 [] 0),(g,I [.ref a,.ref b] m),(a,I (J c) f),(b,I (J q) s)],
  upd:=λP=>[B1 2,I (Da a c++Da b q) (Da a c++Da b q).length,A5 [en N KH (W 0 P 0) (.ref b)] 1,I [.ref a,.ref b] m,I (J c) f,I (J q) s],res:=λ_=>.ok .next}
noncomputable def RB(N:Params)(K l h k g a m f:Nat)(c:List (Str×Nat)):Spec:=
 {code:=.compStart eC 0 (.ref l) (.ref h) (HE eC (Cb K) k),d:=40,nf:=1,fp:=[(l,A6 g 0),(h,I [] 0),(k,A5 [] 0),(g,I [.ref a] m),(a,I (J c) f)],
  upd:=λP=>[B1 1,I (Da a c) (Da a c).length,A5 [en N KH (W 0 P 0) (.ref a)] 1,I [.ref a] m,I (J c) f],res:=λ_=>.ok .next}
section
variable{K l h k g a b m f s:Nat}
include O
theorem Ca:∀{c q:List (Str×Nat)},c.length<=sizeLine->q.length<=sizeLine->(FA w.params K l h k g a b m f s c q).Ok (V w j o u)
 |[],[],t,H=>Spec.of_code (λ_=>rfl) (λ_=>rfl) λA x F M R r y=>BQ GB (d:=0) (RepF.get0 r) (run_code O (n:=107) x (H:=hd 0x410010411010400c30c51410010010411010400c30c6181001001041101048) (K:=[(λE=>AA a (J []) f,[4],[]),(λE=>AA b (J []) s,[5],[])]) (l:=[0,1,2,3,4,5]) (b7:=[]) (d3:=λ_=>.ret (.ok .next)) (b:=[(l,A6 g 0),(h,I [] 0),(k,A5 [] 0),(g,I [.ref a,.ref b] m),(a,I (J []) f),(b,I (J []) s)]) (t:=[]) (c1:=λe=>[(l,B1 2),(h,I (Da a []++Da b []) (Da a []++Da b []).length),(k,A5 [en w.params KH (e 0) (.ref b)] 1),(g,I [.ref a,.ref b] m),(a,I (J []) f),(b,I (J []) s)]) (b8:=λ_=>[])
   (BI (Ae (by simpa[J] using t)) (Ae (by simpa[J] using H))) (by kernel_rfl) r λe D z=>y [e 0] D rfl z)
 |[],B::q,t,H=>Spec.of_code (λ_=>rfl) (λ_=>rfl) λA x F M R r y=>BQ GB (d:=0) (RepF.get0 r) (run_code O (n:=116) x (H:=hd 0x410010411010400c30c51410010010411010400c30c61810c0082082001001041101048) (K:=[(λE=>AA a (J []) f,[4],[]),(λE=>AA b (J (B::q)) s,[5],[])]) (l:=[0,1,2,3,4,5]) (b7:=[]) (d3:=λ_=>.ret (.ok .next)) (b:=[(l,A6 g 0),(h,I [] 0),(k,A5 [] 0),(g,I [.ref a,.ref b] m),(a,I (J []) f),(b,I (J (B::q)) s)]) (t:=[]) (c1:=λe=>[(l,B1 2),(h,I (Da a []++Da b (B::q)) (Da a []++Da b (B::q)).length),(k,A5 [en w.params KH (e 0) (.ref b)] 1),(g,I [.ref a,.ref b] m),(a,I (J []) f),(b,I (J (B::q)) s)]) (b8:=λ_=>[])
   (BI (Ae (by simpa[J] using t)) (Ae (by simpa[J] using H))) (by kernel_rfl) r λe D z=>y [e 0] D rfl z)
 |p::c,[],t,H=>Spec.of_code (λ_=>rfl) (λ_=>rfl) λA x F M R r y=>BQ GB (d:=0) (RepF.get0 r) (run_code O (n:=116) x (H:=hd 0x410010411010400c30c51410c00820820010010411010400c30c6181001001041101048) (K:=[(λE=>AA a (J (p::c)) f,[4],[]),(λE=>AA b (J []) s,[5],[])]) (l:=[0,1,2,3,4,5]) (b7:=[]) (d3:=λ_=>.ret (.ok .next)) (b:=[(l,A6 g 0),(h,I [] 0),(k,A5 [] 0),(g,I [.ref a,.ref b] m),(a,I (J (p::c)) f),(b,I (J []) s)]) (t:=[]) (c1:=λe=>[(l,B1 2),(h,I (Da a (p::c)++Da b []) (Da a (p::c)++Da b []).length),(k,A5 [en w.params KH (e 0) (.ref b)] 1),(g,I [.ref a,.ref b] m),(a,I (J (p::c)) f),(b,I (J []) s)]) (b8:=λ_=>[])
   (BI (Ae (by simpa[J] using t)) (Ae (by simpa[J] using H))) (by kernel_rfl) r λe D z=>y [e 0] D rfl z)
 |p::c,B::q,t,H=>Spec.of_code (λ_=>rfl) (λ_=>rfl) λA x F M R r y=>BQ GB (d:=0) (RepF.get0 r) (run_code O (n:=125) x (H:=hd 0x410010411010400c30c51410c00820820010010411010400c30c61810c0082082001001041101048) (K:=[(λE=>AA a (J (p::c)) f,[4],[]),(λE=>AA b (J (B::q)) s,[5],[])]) (l:=[0,1,2,3,4,5]) (b7:=[]) (d3:=λ_=>.ret (.ok .next)) (b:=[(l,A6 g 0),(h,I [] 0),(k,A5 [] 0),(g,I [.ref a,.ref b] m),(a,I (J (p::c)) f),(b,I (J (B::q)) s)]) (t:=[]) (c1:=λe=>[(l,B1 2),(h,I (Da a (p::c)++Da b (B::q)) (Da a (p::c)++Da b (B::q)).length),(k,A5 [en w.params KH (e 0) (.ref b)] 1),(g,I [.ref a,.ref b] m),(a,I (J (p::c)) f),(b,I (J (B::q)) s)]) (b8:=λ_=>[])
   (BI (Ae (by simpa[J] using t)) (Ae (by simpa[J] using H))) (by kernel_rfl) r λe D z=>y [e 0] D rfl z)
theorem MV:∀{c:List (Str×Nat)},c.length<=sizeLine->(RB w.params K l h k g a m f c).Ok (V w j o u)
 |[],t=>Spec.of_code (λ_=>rfl) (λ_=>rfl) λA x F M R r y=>BQ GB (d:=0) (RepF.get0 r) (run_code O (n:=82) x (H:=hd 0x410010411010400c30c5141001001041101047) (K:=[(λE=>AA a (J []) f,[4],[])]) (l:=[0,1,2,3,4]) (b7:=[]) (d3:=λ_=>.ret (.ok .next)) (b:=[(l,A6 g 0),(h,I [] 0),(k,A5 [] 0),(g,I [.ref a] m),(a,I (J []) f)]) (t:=[]) (c1:=λe=>[(l,B1 1),(h,I (Da a []) (Da a []).length),(k,A5 [en w.params KH (e 0) (.ref a)] 1),(g,I [.ref a] m),(a,I (J []) f)]) (b8:=λ_=>[])
   (Bo (Ae (by simpa[J] using t))) (by kernel_rfl) r λe D z=>y [e 0] D rfl z)
 |p::c,t=>Spec.of_code (λ_=>rfl) (λ_=>rfl) λA x F M R r y=>BQ GB (d:=0) (RepF.get0 r) (run_code O (n:=91) x (H:=hd 0x410010411010400c30c51410c0082082001001041101047) (K:=[(λE=>AA a (J (p::c)) f,[4],[])]) (l:=[0,1,2,3,4]) (b7:=[]) (d3:=λ_=>.ret (.ok .next)) (b:=[(l,A6 g 0),(h,I [] 0),(k,A5 [] 0),(g,I [.ref a] m),(a,I (J (p::c)) f)]) (t:=[]) (c1:=λe=>[(l,B1 1),(h,I (Da a (p::c)) (Da a (p::c)).length),(k,A5 [en w.params KH (e 0) (.ref a)] 1),(g,I [.ref a] m),(a,I (J (p::c)) f)]) (b8:=λ_=>[])
   (Bo (Ae (by simpa[J] using t))) (by kernel_rfl) r λe D z=>y [e 0] D rfl z)
end
end
section
noncomputable def CR(c e g:Nat)(h:Value)(b:List Value):Spec:={code:=.call (.builtin "list.__delitem__") ⟨[.ref c,.int 0 g],[]⟩,fp:=[(c,I (h::b) e)],upd:=λ_=>[I b (e+1)],res:=λ_=>.ok (.ret .none),d:=10}
section
variable{l:Cx}(k:l.Ok)
include k
theorem BB{c e g:Nat}{h:Value}{b:List Value}(x:b.length<sizeLine):(CR c e g h b).Ok l:=Spec.of_call rfl (λ_=>rfl) (λ_=>rfl) λA y t n s m r=>by
 have i:=RepF.get0 m
 refine wpAny_call_entry PySem.F.slot_list_delitem ⟨_,i,rfl⟩ PySem.F.entry_list_delitem ?_ (PySem.F.args_list_delitem_2 _ _)
 unfold Builtin.«list.__delitem__»
 refine wpAny_bind (wpAny_of_eq (a:=(Value.ref c,[Value.int 0 g])) (by first |rfl |kernel_rfl) ?_)
 show wpAny _ _ (Builtin.List.listSubscript? (.int 0 g)>>=_) _ _ n
 refine wpAny_bind (wpAny_listSubscript_int (fitsIndex_of (by decide) (by decide)) ?_)
 show wpAny _ _ (Builtin.List.listItems (.ref c)>>=_) _ _ n
 refine wpAny_bind (listItems_at i rfl ?_)
 have q:seqIndex? 0 (⟨h::b⟩:Array Value).size=some 0:=by
  unfold seqIndex?
  simp
 rw[q]
 refine wpAny_bind (listUpdate_at i rfl ?_ (by show b.length+1<=sizeLine; assumption) (by simp; lia))
 have p:=RepF.upd0 k m (x:=Obj.mapSeq (·.eraseIdxIfInBounds 0)) rfl
 rw[Cu (h::b) e _ b (by simp) (by simp)] at p
 exact wpAny_pure ⟨.none,rfl,r [] _ _ rfl rfl p⟩
end
end
section
noncomputable def VY(a:Cx)(b:Around)(c:RP)(d:Nat)(e:AK):Md where
 Mean:=(TP a b c d e).Mean
 K:=λb2 F b0 i=>b2=[]/\F=e->match b0 with
  |.ret q=>c q i
  |.again g=>codeAny (model pw a.w) b g c i
  |.yld ..=>False
  |.tree g κ s=>wpOwn (model pw a.w) (ar b κ) g s (postC pw a.w (ar b κ) (Hu a.w b c κ)) (postE (Hu a.w b c κ)) i
 d:=d
theorem MP(a:Cx)(b:Around)(c:RP)(d:Nat)(e:AK)(h:Room d b):(VY a b c d e).Ok a where
 cmd0:=(CC a b c d e h).cmd0
 cmd:=(CC a b c d e h).cmd
 point:=(CC a b c d e h).point
 alive:=(CC a b c d e h).alive
 handled:=(CC a b c d e h).handled
 call:=(CC a b c d e h).call
 again:=(CC a b c d e h).again
 stop:=(CC a b c d e h).stop
 stopY:=λy m=>(y m).elim
 stopT:=λy z=>y z
 pop:=(CC a b c d e h).pop
 done:=(CC a b c d e h).done
 yld:=λ_ _ _ m=>by cases m.1
 many:=λ_ _ _ _ _ _ m=>by cases m.1
theorem run_codeT{a:Cx}(O:a.Ok){d E:Nat}(a2:Room d A){g G:Code}{s:Sem Fin}{l:An}{k:Gs}{B:List Nat}{r:List ((List Nat->Spec)×List Nat×List Nat)}{a8 M:List Nat}{x:(Nat->Nat)->An}{t:(Nat->Nat)->Gs}(a7:∀b1∈r,∀a9,(b1.1 a9).Ok a)(L:qA a.w.params a.kt d E g (D g) l [] k [] B r a8 M=qB a.w.params a.kt d E g (D g) l [] k [] B r (λ_=>.tree G [] s) x (λ_=>[]) t){i:Shared}(a4:RepF a l k F i)(a3:∀f n,RepF a (x f) (t f) F n->wpOwn (model pw a.w) A G s (postC pw a.w A R) (postE R) n):codeAny (model pw a.w) A g R i:=by
 have a6:RepF a (l++[]) k F i:=by rw[List.append_nil]; exact a4
 have b3:=(Cd O (MP a A R d F a2) E g [] (D g) l [] k 0 [] [] [] B r (λ_=>0) a7 trivial λf _=>?_).2 F i a6
 ·refine y_code _ _ _ _ _ _ ?_
  have p:=b3 ⟨rfl,rfl⟩
  rw[<-GZ] at p
  exact p
 ·obtain⟨q,N,P,Q,S,T,X,b4,a0,a1⟩:=EY (congrFun L f)
  refine⟨q,N,P,λH n a5 z=>?_⟩
  obtain⟨_,rfl⟩:=z
  have p:RepF a (x f++q.B) (t f) H n:=Rep.gpicked (Rep.pickedB a5 a0 S) a1 X
  rw[T,List.append_nil] at p
  have:=a3 f n p
  rw[Q]
  exact this
end
section
noncomputable abbrev Jy(b:Value)(a:Env):Sem Unit:=PySem.W.Fast.tw17872113653443481271 b a
noncomputable def OE(v:Stmt)(a:Env)(f:Flow):Sem Fin:=match f with
 |.next=>.pure (.again (.whileLoop (EN v) (CP v) (JL v) a))
 |.cont=>.pure (.again (.whileLoop (EN v) (CP v) (JL v) a))
 |.brk=>.pure (.done .next)
 |.ret e=>.pure (.done (.ret e))
noncomputable def Mt(f:Flow)(b:Sem Flow):Sem Flow:=match f with
 |.next=>b
 |f=>pure f
noncomputable def Li(v:Stmt)(a:Env)(c d:List Stmt):Sem Fin:=
 PySem.W.R.onRaiseR (PySem.W.R.bindR (PySem.W.R.bindR (CN c a) λf=>Mt f (CN d a)) (OE v a)) (λb=>PySem.W.R.bindR (Jy b a) λ_=>PySem.W.Fast.tw1623429502029203251 b)
theorem Na(v:Stmt)(a:Env)(c d:List Stmt):Li v a c d=(((execs c a).bind λf=>Mt f (execs d a)).bind (OE v a)).onRaise (λb=>do noteFrame b a; theTreesLotGoes b):=by
 unfold Li CN Jy
 rw[<-PySem.W.R.onRaiseR_eq,<-PySem.W.R.bindR_eq,<-PySem.W.Fast.te12563942051412417395,<-PySem.W.Fast.te17872113653443481271,<-PySem.W.Fast.te1623429502029203251]
 rfl
noncomputable def Lj(f:Nat):Sem Fin:=Li (Fc 2) (Cb f) (Im (W B6 (CP (Fc 2)) 3)) [W B6 (CP (Fc 2)) 4,W B6 (CP (Fc 2)) 5]
end
section
inductive Ei(b6:Params)(i:Nat):Nat->Obj->Prop
 |b (D E T Y X a0 z:Nat) (b0 a8 b1 a7:Value) (G:Nat):Ei b6 i z (E1 b6 D E T Y X a0 z i b0 a8 b1 a7 G)
section
variable{k D E T Y X a0 z i y d e K s x G f m:Nat}{c h:Str}{b0 a8 b1 a7:Value}{r l p:List (Str×Nat)}(b7:l.length<200)(b8:p.length<200)(b9:r.length<400)
include O b7 b8 b9
theorem Tc(a1:AG c l=false)(M:Room 60 A){B:Shared}(P:RepF (V w j o u) [(k,Is w.params D E z i G),(i,I (J r) y),(z,I [.ref d,.ref e] K),(d,I (J ((c,f)::l)) s),(e,I (J []) x)] [] F B)(N:∀q L H a4 a3 a2 a5,Ei w.params i L H->RepF (V w j o u) [(k,H),(i,I (J (r++[(c,f)])) a3),(L,I [.ref d] a4),(d,I (J l) a2),(e,I (J []) a5)] [] F q->codeAny (model pw w) A (cC k) R q):codeAny (model pw w) A (cC k) R B:=by
 refine Bn O M _ 316 0x410c30400c60400412082011c70411c70401c90090092491c92400410441040041000410471c100728028028a28728a00104104410404c30128028a28728a3810420820810411c70401cf00f00f3cf1cf3c00410441040041010410441013c03cf3c73cf441 [(λa=>FA w.params k (C a 0) (C a 1) (C a 2) z d e K s x ((c,f)::l) [],[5,6,7,2,3,4],[]),(λa=>AA (C a 1) [Value.ref d] 1,[6],[]),(λa=>BD d s (C a 13) ((c,f)::l) 1 (C a 12),[3,10],[]),(λa=>Af (C a 14) l 0 c f false,[11],[]),(λa=>AJ i (J r) y (Value.str c f),[1],[]),(λa=>AY c c f f true,[],[]),(λa=>CR d s (C a 20) (.str c f) (J l),[3],[])] [0,1,6,3,4] (Fa (Ca O (by rw[sizeLine_eq]; simp; lia) (by rw[sizeLine_eq]; simp)) (Ae (by rw[sizeLine_eq]; simp)) (AH O (by rw[sizeLine_eq]; simp; lia) (by decide)) (A7 O a1) (Ag O (by rw[sizeLine_eq]; simp[J]; lia)) (Ai O (beq_self_eq_true _)) (BB O (by rw[sizeLine_eq]; simp[J]; lia))) (λg=>[(k,E1 w.params D E (g 7) (g 9) (g 11) (g 18) (g 1) i (.ref d) (.str (c) f) (.ref d) (.ref d) ((((G+1)+1)+1)+1)),(i,I (J r++[.str c f]) (y+1)),(g 1,I [.ref d] 1),(d,I (J l) (s+1)),(e,I (J []) x)]) P λg q Q=>N q (g 1) _ 1 (y+1) (s+1) x (.b D E (g 7) (g 9) (g 11) (g 18) (g 1) (.ref d) (.str (c) f) (.ref d) (.ref d) ((((G+1)+1)+1)+1)) ?_
 rw[show J (r++[(c,f)])=J r++[.str c f] by simp[J]]
 exact Q
theorem U7(b3:AG h p=false)(M:Room 60 A){B:Shared}(P:RepF (V w j o u) [(k,Is w.params D E z i G),(i,I (J r) y),(z,I [.ref d,.ref e] K),(d,I (J []) s),(e,I (J ((h,m)::p)) x)] [] F B)(N:∀q L H a4 a3 a2 a5,Ei w.params i L H->RepF (V w j o u) [(k,H),(i,I (J (r++[(h,m)])) a3),(L,I [.ref e] a4),(d,I (J []) a2),(e,I (J p) a5)] [] F q->codeAny (model pw w) A (cC k) R q):codeAny (model pw w) A (cC k) R B:=by
 refine Bn O M _ 316 0x410c30400c60400412082011c70411c70401c90090092491c92400410451450051400410471c100728028028a28728a00104104514504c30128028a28728a3810420820810411c70401cf00f00f3cf1cf3c00410451450051410410451413c03cf3c73cf441 [(λa=>FA w.params k (C a 0) (C a 1) (C a 2) z d e K s x [] ((h,m)::p),[5,6,7,2,3,4],[]),(λa=>AA (C a 1) [Value.ref e] 1,[6],[]),(λa=>BD e x (C a 13) ((h,m)::p) 1 (C a 12),[4,10],[]),(λa=>Af (C a 14) p 0 h m false,[11],[]),(λa=>AJ i (J r) y (Value.str h m),[1],[]),(λa=>AY h h m m true,[],[]),(λa=>CR e x (C a 20) (.str h m) (J p),[4],[])] [0,1,6,3,4] (Fa (Ca O (by rw[sizeLine_eq]; simp) (by rw[sizeLine_eq]; simp; lia)) (Ae (by rw[sizeLine_eq]; simp)) (AH O (by rw[sizeLine_eq]; simp; lia) (by decide)) (A7 O b3) (Ag O (by rw[sizeLine_eq]; simp[J]; lia)) (Ai O (beq_self_eq_true _)) (BB O (by rw[sizeLine_eq]; simp[J]; lia))) (λg=>[(k,E1 w.params D E (g 7) (g 9) (g 11) (g 18) (g 1) i (.ref e) (.str (h) m) (.ref e) (.ref e) ((((G+1)+1)+1)+1)),(i,I (J r++[.str h m]) (y+1)),(g 1,I [.ref e] 1),(d,I (J []) s),(e,I (J p) (x+1))]) P λg q Q=>N q (g 1) _ 1 (y+1) s (x+1) (.b D E (g 7) (g 9) (g 11) (g 18) (g 1) (.ref e) (.str (h) m) (.ref e) (.ref e) ((((G+1)+1)+1)+1)) ?_
 rw[show J (r++[(h,m)])=J r++[.str h m] by simp[J]]
 exact Q
theorem Rv(a1:AG c l=false)(a6:AG c p=false)(a9:(h.cps.toList==c.cps.toList)=true)(M:Room 60 A){B:Shared}(P:RepF (V w j o u) [(k,Is w.params D E z i G),(i,I (J r) y),(z,I [.ref d,.ref e] K),(d,I (J ((c,f)::l)) s),(e,I (J ((h,m)::p)) x)] [] F B)(N:∀q L H a4 a3 a2 a5,Ei w.params i L H->RepF (V w j o u) [(k,H),(i,I (J (r++[(c,f)])) a3),(L,I [.ref d,.ref e] a4),(d,I (J l) a2),(e,I (J p) a5)] [] F q->codeAny (model pw w) A (cC k) R q):codeAny (model pw w) A (cC k) R B:=by
 refine Bn O M _ 397 0x10430c10031810010482080471c10471c10072402402492472490010411041001040010411c70401ca00a00a28a1ca28004104110410130c04a00a28a1ca28004104114514138e04a00a28a1ca2900410820820410471c10074404404514474510010411041001040410411040510114511d14400410451450051410410451414404514474514c1 [(λa=>FA w.params k (C a 0) (C a 1) (C a 2) z d e K s x ((c,f)::l) ((h,m)::p),[5,6,7,2,3,4],[]),(λa=>AA (C a 1) [Value.ref d,Value.ref e] 2,[6],[]),(λa=>BD d s (C a 13) ((c,f)::l) 1 (C a 12),[3,10],[]),(λa=>Af (C a 14) l 0 c f false,[11],[]),(λa=>BD e x (C a 17) ((h,m)::p) 1 (C a 16),[4,12],[]),(λa=>Af (C a 18) p 0 c f false,[13],[]),(λa=>AJ i (J r) y (Value.str c f),[1],[]),(λa=>AY c c f f true,[],[]),(λa=>CR d s (C a 24) (.str c f) (J l),[3],[]),(λa=>AY h c m f true,[],[]),(λa=>CR e x (C a 27) (.str h m) (J p),[4],[])] [0,1,6,3,4] (Od (Ca O (by rw[sizeLine_eq]; simp; lia) (by rw[sizeLine_eq]; simp; lia)) (Ae (by rw[sizeLine_eq]; simp)) (AH O (by rw[sizeLine_eq]; simp; lia) (by decide)) (A7 O a1) (AH O (by rw[sizeLine_eq]; simp; lia) (by decide)) (A7 O a6) (Ag O (by rw[sizeLine_eq]; simp[J]; lia)) (Ai O (beq_self_eq_true _)) (BB O (by rw[sizeLine_eq]; simp[J]; lia)) (Ai O a9) (BB O (by rw[sizeLine_eq]; simp[J]; lia))) (λg=>[(k,E1 w.params D E (g 7) (g 9) (g 11) (g 22) (g 1) i (.ref d) (.str (c) f) (.ref e) (.ref e) ((((G+1)+1)+1)+1)),(i,I (J r++[.str c f]) (y+1)),(g 1,I [.ref d,.ref e] 2),(d,I (J l) (s+1)),(e,I (J p) (x+1))]) P λg q Q=>N q (g 1) _ 2 (y+1) (s+1) (x+1) (.b D E (g 7) (g 9) (g 11) (g 22) (g 1) (.ref d) (.str (c) f) (.ref e) (.ref e) ((((G+1)+1)+1)+1)) ?_
 rw[show J (r++[(c,f)])=J r++[.str c f] by simp[J]]
 exact Q
theorem Sa(a1:AG c l=false)(a6:AG c p=false)(a9:(h.cps.toList==c.cps.toList)=false)(M:Room 60 A){B:Shared}(P:RepF (V w j o u) [(k,Is w.params D E z i G),(i,I (J r) y),(z,I [.ref d,.ref e] K),(d,I (J ((c,f)::l)) s),(e,I (J ((h,m)::p)) x)] [] F B)(N:∀q L H a4 a3 a2 a5,Ei w.params i L H->RepF (V w j o u) [(k,H),(i,I (J (r++[(c,f)])) a3),(L,I [.ref d,.ref e] a4),(d,I (J l) a2),(e,I (J ((h,m)::p)) a5)] [] F q->codeAny (model pw w) A (cC k) R q):codeAny (model pw w) A (cC k) R B:=by
 refine Bn O M _ 389 0x10430c10031810010482080471c10471c10072402402492472490010411041001040010411c70401ca00a00a28a1ca28004104110410130c04a00a28a1ca28004104114514138e04a00a28a1ca2900410820820410471c10074404404514474510010411041001040410411040510114511d14400410451450051410414404514474514c1 [(λa=>FA w.params k (C a 0) (C a 1) (C a 2) z d e K s x ((c,f)::l) ((h,m)::p),[5,6,7,2,3,4],[]),(λa=>AA (C a 1) [Value.ref d,Value.ref e] 2,[6],[]),(λa=>BD d s (C a 13) ((c,f)::l) 1 (C a 12),[3,10],[]),(λa=>Af (C a 14) l 0 c f false,[11],[]),(λa=>BD e x (C a 17) ((h,m)::p) 1 (C a 16),[4,12],[]),(λa=>Af (C a 18) p 0 c f false,[13],[]),(λa=>AJ i (J r) y (Value.str c f),[1],[]),(λa=>AY c c f f true,[],[]),(λa=>CR d s (C a 24) (.str c f) (J l),[3],[]),(λa=>AY h c m f false,[],[])] [0,1,6,3,4] (H4 (Ca O (by rw[sizeLine_eq]; simp; lia) (by rw[sizeLine_eq]; simp; lia)) (Ae (by rw[sizeLine_eq]; simp)) (AH O (by rw[sizeLine_eq]; simp; lia) (by decide)) (A7 O a1) (AH O (by rw[sizeLine_eq]; simp; lia) (by decide)) (A7 O a6) (Ag O (by rw[sizeLine_eq]; simp[J]; lia)) (Ai O (beq_self_eq_true _)) (BB O (by rw[sizeLine_eq]; simp[J]; lia)) (Ai O a9)) (λg=>[(k,E1 w.params D E (g 7) (g 9) (g 11) (g 22) (g 1) i (.ref d) (.str (c) f) (.ref e) (.ref e) ((((G+1)+1)+1)+1)),(i,I (J r++[.str c f]) (y+1)),(g 1,I [.ref d,.ref e] 2),(d,I (J l) (s+1)),(e,I (J ((h,m)::p)) x)]) P λg q Q=>N q (g 1) _ 2 (y+1) (s+1) x (.b D E (g 7) (g 9) (g 11) (g 22) (g 1) (.ref d) (.str (c) f) (.ref e) (.ref e) ((((G+1)+1)+1)+1)) ?_
 rw[show J (r++[(c,f)])=J r++[.str c f] by simp[J]]
 exact Q
theorem S8(a1:AG c l=false)(a6:AG c p=true)(b2:AG h l=false)(b3:AG h p=false)(a9:(c.cps.toList==h.cps.toList)=false)(M:Room 60 A){B:Shared}(P:RepF (V w j o u) [(k,Is w.params D E z i G),(i,I (J r) y),(z,I [.ref d,.ref e] K),(d,I (J ((c,f)::l)) s),(e,I (J ((h,m)::p)) x)] [] F B)(N:∀q L H a4 a3 a2 a5,Ei w.params i L H->RepF (V w j o u) [(k,H),(i,I (J (r++[(h,m)])) a3),(L,I [.ref d,.ref e] a4),(d,I (J ((c,f)::l)) a2),(e,I (J p) a5)] [] F q->codeAny (model pw w) A (cC k) R q):codeAny (model pw w) A (cC k) R B:=by
 refine Bn O M _ 523 0x10430c10031810010482080471c10471c10072402402492472490010411041001040010411c70401ca00a00a28a1ca28004104110410130c04a00a28a1ca28004104114514138e0400412402492472490010411451401450010411c70401cf00f00f3cf1cf3c004104110410145104f00f3cf1cf3c00410411451414d304f00f3cf1cf3d50410820820410471c10075805805965875960010411041001040410560165961d6580041045145005141041045141580596587596601 [(λa=>FA w.params k (C a 0) (C a 1) (C a 2) z d e K s x ((c,f)::l) ((h,m)::p),[5,6,7,2,3,4],[]),(λa=>AA (C a 1) [Value.ref d,Value.ref e] 2,[6],[]),(λa=>BD d s (C a 13) ((c,f)::l) 1 (C a 12),[3,10],[]),(λa=>Af (C a 14) l 0 c f false,[11],[]),(λa=>BD e x (C a 17) ((h,m)::p) 1 (C a 16),[4,12],[]),(λa=>Af (C a 18) p 0 c f true,[13],[]),(λa=>BD d s (C a 26) ((c,f)::l) 1 (C a 25),[3,15],[]),(λa=>Af (C a 27) l 0 h m false,[16],[]),(λa=>BD e x (C a 30) ((h,m)::p) 1 (C a 29),[4,17],[]),(λa=>Af (C a 31) p 0 h m false,[18],[]),(λa=>AJ i (J r) y (Value.str h m),[1],[]),(λa=>AY c h f m false,[],[]),(λa=>AY h h m m true,[],[]),(λa=>CR e x (C a 39) (.str h m) (J p),[4],[])] [0,1,6,3,4] (PM (Ca O (by rw[sizeLine_eq]; simp; lia) (by rw[sizeLine_eq]; simp; lia)) (Ae (by rw[sizeLine_eq]; simp)) (AH O (by rw[sizeLine_eq]; simp; lia) (by decide)) (A7 O a1) (AH O (by rw[sizeLine_eq]; simp; lia) (by decide)) (A7 O a6) (AH O (by rw[sizeLine_eq]; simp; lia) (by decide)) (A7 O b2) (AH O (by rw[sizeLine_eq]; simp; lia) (by decide)) (A7 O b3) (Ag O (by rw[sizeLine_eq]; simp[J]; lia)) (Ai O a9) (Ai O (beq_self_eq_true _)) (BB O (by rw[sizeLine_eq]; simp[J]; lia))) (λg=>[(k,E1 w.params D E (g 7) (g 9) (g 11) (g 35) (g 1) i (.ref e) (.str (h) m) (.ref e) (.ref e) ((((G+1)+1)+1)+1)),(i,I (J r++[.str h m]) (y+1)),(g 1,I [.ref d,.ref e] 2),(d,I (J ((c,f)::l)) s),(e,I (J p) (x+1))]) P λg q Q=>N q (g 1) _ 2 (y+1) s (x+1) (.b D E (g 7) (g 9) (g 11) (g 35) (g 1) (.ref e) (.str (h) m) (.ref e) (.ref e) ((((G+1)+1)+1)+1)) ?_
 rw[show J (r++[(h,m)])=J r++[.str h m] by simp[J]]
 exact Q
theorem U1(M:Room 60 A){B:Shared}(P:RepF (V w j o u) [(k,Is w.params D E z i G),(i,I (J r) y),(z,I [.ref d,.ref e] K),(d,I (J []) s),(e,I (J []) x)] [] F B)(N:∀q,RepF (V w j o u) [(i,I (J r) y)] [] F q->R (.ok (.ret (.ref i))) q):codeAny (model pw w) A (cC k) R B:=
 IX O M _ 102 0x410c30400c60400412082011c7041 [(λa=>FA w.params k (C a 0) (C a 1) (C a 2) z d e K s x [] [],[5,6,7,2,3,4],[]),(λa=>AA (C a 1) [] 0,[6],[])] [1] (λ_=>.ret (.ok (.ret (.ref i)))) (BI (Ca O (by rw[sizeLine_eq]; simp) (by rw[sizeLine_eq]; simp)) (Ae (by rw[sizeLine_eq]; simp))) (λg=>[(i,I (J r) y)]) P λg q Q=>N q Q
theorem Ub(a1:AG c l=false)(M:Room 60 A){B:Shared}(P:RepF (V w j o u) [(k,E1 w.params D E T Y X a0 z i b0 a8 b1 a7 G),(i,I (J r) y),(z,I [.ref d,.ref e] K),(d,I (J ((c,f)::l)) s),(e,I (J []) x)] [] F B)(N:∀q L H a4 a3 a2 a5,Ei w.params i L H->RepF (V w j o u) [(k,H),(i,I (J (r++[(c,f)])) a3),(L,I [.ref d] a4),(d,I (J l) a2),(e,I (J []) a5)] [] F q->codeAny (model pw w) A (cC k) R q):codeAny (model pw w) A (cC k) R B:=by
 refine Bn O M _ 316 0x410c30400c60400412082011c70411c70401c90090092491c92400410441040041000410471c100728028028a28728a00104104410404c30128028a28728a3810420820810411c70401cf00f00f3cf1cf3c00410441040041010410441013c03cf3c73cf441 [(λa=>FA w.params k (C a 0) (C a 1) (C a 2) z d e K s x ((c,f)::l) [],[5,6,7,2,3,4],[]),(λa=>AA (C a 1) [Value.ref d] 1,[6],[]),(λa=>BD d s (C a 13) ((c,f)::l) 1 (C a 12),[3,10],[]),(λa=>Af (C a 14) l 0 c f false,[11],[]),(λa=>AJ i (J r) y (Value.str c f),[1],[]),(λa=>AY c c f f true,[],[]),(λa=>CR d s (C a 20) (.str c f) (J l),[3],[])] [0,1,6,3,4] (Fa (Ca O (by rw[sizeLine_eq]; simp; lia) (by rw[sizeLine_eq]; simp)) (Ae (by rw[sizeLine_eq]; simp)) (AH O (by rw[sizeLine_eq]; simp; lia) (by decide)) (A7 O a1) (Ag O (by rw[sizeLine_eq]; simp[J]; lia)) (Ai O (beq_self_eq_true _)) (BB O (by rw[sizeLine_eq]; simp[J]; lia))) (λg=>[(k,E1 w.params D E T Y X a0 (g 1) i (.ref d) (.str (c) f) (.ref d) (.ref d) G),(i,I (J r++[.str c f]) (y+1)),(g 1,I [.ref d] 1),(d,I (J l) (s+1)),(e,I (J []) x)]) P λg q Q=>N q (g 1) _ 1 (y+1) (s+1) x (.b D E T Y X a0 (g 1) (.ref d) (.str (c) f) (.ref d) (.ref d) G) ?_
 rw[show J (r++[(c,f)])=J r++[.str c f] by simp[J]]
 exact Q
theorem Uu(b3:AG h p=false)(M:Room 60 A){B:Shared}(P:RepF (V w j o u) [(k,E1 w.params D E T Y X a0 z i b0 a8 b1 a7 G),(i,I (J r) y),(z,I [.ref d,.ref e] K),(d,I (J []) s),(e,I (J ((h,m)::p)) x)] [] F B)(N:∀q L H a4 a3 a2 a5,Ei w.params i L H->RepF (V w j o u) [(k,H),(i,I (J (r++[(h,m)])) a3),(L,I [.ref e] a4),(d,I (J []) a2),(e,I (J p) a5)] [] F q->codeAny (model pw w) A (cC k) R q):codeAny (model pw w) A (cC k) R B:=by
 refine Bn O M _ 316 0x410c30400c60400412082011c70411c70401c90090092491c92400410451450051400410471c100728028028a28728a00104104514504c30128028a28728a3810420820810411c70401cf00f00f3cf1cf3c00410451450051410410451413c03cf3c73cf441 [(λa=>FA w.params k (C a 0) (C a 1) (C a 2) z d e K s x [] ((h,m)::p),[5,6,7,2,3,4],[]),(λa=>AA (C a 1) [Value.ref e] 1,[6],[]),(λa=>BD e x (C a 13) ((h,m)::p) 1 (C a 12),[4,10],[]),(λa=>Af (C a 14) p 0 h m false,[11],[]),(λa=>AJ i (J r) y (Value.str h m),[1],[]),(λa=>AY h h m m true,[],[]),(λa=>CR e x (C a 20) (.str h m) (J p),[4],[])] [0,1,6,3,4] (Fa (Ca O (by rw[sizeLine_eq]; simp) (by rw[sizeLine_eq]; simp; lia)) (Ae (by rw[sizeLine_eq]; simp)) (AH O (by rw[sizeLine_eq]; simp; lia) (by decide)) (A7 O b3) (Ag O (by rw[sizeLine_eq]; simp[J]; lia)) (Ai O (beq_self_eq_true _)) (BB O (by rw[sizeLine_eq]; simp[J]; lia))) (λg=>[(k,E1 w.params D E T Y X a0 (g 1) i (.ref e) (.str (h) m) (.ref e) (.ref e) G),(i,I (J r++[.str h m]) (y+1)),(g 1,I [.ref e] 1),(d,I (J []) s),(e,I (J p) (x+1))]) P λg q Q=>N q (g 1) _ 1 (y+1) s (x+1) (.b D E T Y X a0 (g 1) (.ref e) (.str (h) m) (.ref e) (.ref e) G) ?_
 rw[show J (r++[(h,m)])=J r++[.str h m] by simp[J]]
 exact Q
theorem SV(a1:AG c l=false)(a6:AG c p=false)(a9:(h.cps.toList==c.cps.toList)=true)(M:Room 60 A){B:Shared}(P:RepF (V w j o u) [(k,E1 w.params D E T Y X a0 z i b0 a8 b1 a7 G),(i,I (J r) y),(z,I [.ref d,.ref e] K),(d,I (J ((c,f)::l)) s),(e,I (J ((h,m)::p)) x)] [] F B)(N:∀q L H a4 a3 a2 a5,Ei w.params i L H->RepF (V w j o u) [(k,H),(i,I (J (r++[(c,f)])) a3),(L,I [.ref d,.ref e] a4),(d,I (J l) a2),(e,I (J p) a5)] [] F q->codeAny (model pw w) A (cC k) R q):codeAny (model pw w) A (cC k) R B:=by
 refine Bn O M _ 397 0x10430c10031810010482080471c10471c10072402402492472490010411041001040010411c70401ca00a00a28a1ca28004104110410130c04a00a28a1ca28004104114514138e04a00a28a1ca2900410820820410471c10074404404514474510010411041001040410411040510114511d14400410451450051410410451414404514474514c1 [(λa=>FA w.params k (C a 0) (C a 1) (C a 2) z d e K s x ((c,f)::l) ((h,m)::p),[5,6,7,2,3,4],[]),(λa=>AA (C a 1) [Value.ref d,Value.ref e] 2,[6],[]),(λa=>BD d s (C a 13) ((c,f)::l) 1 (C a 12),[3,10],[]),(λa=>Af (C a 14) l 0 c f false,[11],[]),(λa=>BD e x (C a 17) ((h,m)::p) 1 (C a 16),[4,12],[]),(λa=>Af (C a 18) p 0 c f false,[13],[]),(λa=>AJ i (J r) y (Value.str c f),[1],[]),(λa=>AY c c f f true,[],[]),(λa=>CR d s (C a 24) (.str c f) (J l),[3],[]),(λa=>AY h c m f true,[],[]),(λa=>CR e x (C a 27) (.str h m) (J p),[4],[])] [0,1,6,3,4] (Od (Ca O (by rw[sizeLine_eq]; simp; lia) (by rw[sizeLine_eq]; simp; lia)) (Ae (by rw[sizeLine_eq]; simp)) (AH O (by rw[sizeLine_eq]; simp; lia) (by decide)) (A7 O a1) (AH O (by rw[sizeLine_eq]; simp; lia) (by decide)) (A7 O a6) (Ag O (by rw[sizeLine_eq]; simp[J]; lia)) (Ai O (beq_self_eq_true _)) (BB O (by rw[sizeLine_eq]; simp[J]; lia)) (Ai O a9) (BB O (by rw[sizeLine_eq]; simp[J]; lia))) (λg=>[(k,E1 w.params D E T Y X a0 (g 1) i (.ref d) (.str (c) f) (.ref e) (.ref e) G),(i,I (J r++[.str c f]) (y+1)),(g 1,I [.ref d,.ref e] 2),(d,I (J l) (s+1)),(e,I (J p) (x+1))]) P λg q Q=>N q (g 1) _ 2 (y+1) (s+1) (x+1) (.b D E T Y X a0 (g 1) (.ref d) (.str (c) f) (.ref e) (.ref e) G) ?_
 rw[show J (r++[(c,f)])=J r++[.str c f] by simp[J]]
 exact Q
theorem Sd(a1:AG c l=false)(a6:AG c p=false)(a9:(h.cps.toList==c.cps.toList)=false)(M:Room 60 A){B:Shared}(P:RepF (V w j o u) [(k,E1 w.params D E T Y X a0 z i b0 a8 b1 a7 G),(i,I (J r) y),(z,I [.ref d,.ref e] K),(d,I (J ((c,f)::l)) s),(e,I (J ((h,m)::p)) x)] [] F B)(N:∀q L H a4 a3 a2 a5,Ei w.params i L H->RepF (V w j o u) [(k,H),(i,I (J (r++[(c,f)])) a3),(L,I [.ref d,.ref e] a4),(d,I (J l) a2),(e,I (J ((h,m)::p)) a5)] [] F q->codeAny (model pw w) A (cC k) R q):codeAny (model pw w) A (cC k) R B:=by
 refine Bn O M _ 389 0x10430c10031810010482080471c10471c10072402402492472490010411041001040010411c70401ca00a00a28a1ca28004104110410130c04a00a28a1ca28004104114514138e04a00a28a1ca2900410820820410471c10074404404514474510010411041001040410411040510114511d14400410451450051410414404514474514c1 [(λa=>FA w.params k (C a 0) (C a 1) (C a 2) z d e K s x ((c,f)::l) ((h,m)::p),[5,6,7,2,3,4],[]),(λa=>AA (C a 1) [Value.ref d,Value.ref e] 2,[6],[]),(λa=>BD d s (C a 13) ((c,f)::l) 1 (C a 12),[3,10],[]),(λa=>Af (C a 14) l 0 c f false,[11],[]),(λa=>BD e x (C a 17) ((h,m)::p) 1 (C a 16),[4,12],[]),(λa=>Af (C a 18) p 0 c f false,[13],[]),(λa=>AJ i (J r) y (Value.str c f),[1],[]),(λa=>AY c c f f true,[],[]),(λa=>CR d s (C a 24) (.str c f) (J l),[3],[]),(λa=>AY h c m f false,[],[])] [0,1,6,3,4] (H4 (Ca O (by rw[sizeLine_eq]; simp; lia) (by rw[sizeLine_eq]; simp; lia)) (Ae (by rw[sizeLine_eq]; simp)) (AH O (by rw[sizeLine_eq]; simp; lia) (by decide)) (A7 O a1) (AH O (by rw[sizeLine_eq]; simp; lia) (by decide)) (A7 O a6) (Ag O (by rw[sizeLine_eq]; simp[J]; lia)) (Ai O (beq_self_eq_true _)) (BB O (by rw[sizeLine_eq]; simp[J]; lia)) (Ai O a9)) (λg=>[(k,E1 w.params D E T Y X a0 (g 1) i (.ref d) (.str (c) f) (.ref e) (.ref e) G),(i,I (J r++[.str c f]) (y+1)),(g 1,I [.ref d,.ref e] 2),(d,I (J l) (s+1)),(e,I (J ((h,m)::p)) x)]) P λg q Q=>N q (g 1) _ 2 (y+1) (s+1) x (.b D E T Y X a0 (g 1) (.ref d) (.str (c) f) (.ref e) (.ref e) G) ?_
 rw[show J (r++[(c,f)])=J r++[.str c f] by simp[J]]
 exact Q
theorem Sr(a1:AG c l=false)(a6:AG c p=true)(b2:AG h l=false)(b3:AG h p=false)(a9:(c.cps.toList==h.cps.toList)=false)(M:Room 60 A){B:Shared}(P:RepF (V w j o u) [(k,E1 w.params D E T Y X a0 z i b0 a8 b1 a7 G),(i,I (J r) y),(z,I [.ref d,.ref e] K),(d,I (J ((c,f)::l)) s),(e,I (J ((h,m)::p)) x)] [] F B)(N:∀q L H a4 a3 a2 a5,Ei w.params i L H->RepF (V w j o u) [(k,H),(i,I (J (r++[(h,m)])) a3),(L,I [.ref d,.ref e] a4),(d,I (J ((c,f)::l)) a2),(e,I (J p) a5)] [] F q->codeAny (model pw w) A (cC k) R q):codeAny (model pw w) A (cC k) R B:=by
 refine Bn O M _ 523 0x10430c10031810010482080471c10471c10072402402492472490010411041001040010411c70401ca00a00a28a1ca28004104110410130c04a00a28a1ca28004104114514138e0400412402492472490010411451401450010411c70401cf00f00f3cf1cf3c004104110410145104f00f3cf1cf3c00410411451414d304f00f3cf1cf3d50410820820410471c10075805805965875960010411041001040410560165961d6580041045145005141041045141580596587596601 [(λa=>FA w.params k (C a 0) (C a 1) (C a 2) z d e K s x ((c,f)::l) ((h,m)::p),[5,6,7,2,3,4],[]),(λa=>AA (C a 1) [Value.ref d,Value.ref e] 2,[6],[]),(λa=>BD d s (C a 13) ((c,f)::l) 1 (C a 12),[3,10],[]),(λa=>Af (C a 14) l 0 c f false,[11],[]),(λa=>BD e x (C a 17) ((h,m)::p) 1 (C a 16),[4,12],[]),(λa=>Af (C a 18) p 0 c f true,[13],[]),(λa=>BD d s (C a 26) ((c,f)::l) 1 (C a 25),[3,15],[]),(λa=>Af (C a 27) l 0 h m false,[16],[]),(λa=>BD e x (C a 30) ((h,m)::p) 1 (C a 29),[4,17],[]),(λa=>Af (C a 31) p 0 h m false,[18],[]),(λa=>AJ i (J r) y (Value.str h m),[1],[]),(λa=>AY c h f m false,[],[]),(λa=>AY h h m m true,[],[]),(λa=>CR e x (C a 39) (.str h m) (J p),[4],[])] [0,1,6,3,4] (PM (Ca O (by rw[sizeLine_eq]; simp; lia) (by rw[sizeLine_eq]; simp; lia)) (Ae (by rw[sizeLine_eq]; simp)) (AH O (by rw[sizeLine_eq]; simp; lia) (by decide)) (A7 O a1) (AH O (by rw[sizeLine_eq]; simp; lia) (by decide)) (A7 O a6) (AH O (by rw[sizeLine_eq]; simp; lia) (by decide)) (A7 O b2) (AH O (by rw[sizeLine_eq]; simp; lia) (by decide)) (A7 O b3) (Ag O (by rw[sizeLine_eq]; simp[J]; lia)) (Ai O a9) (Ai O (beq_self_eq_true _)) (BB O (by rw[sizeLine_eq]; simp[J]; lia))) (λg=>[(k,E1 w.params D E T Y X a0 (g 1) i (.ref e) (.str (h) m) (.ref e) (.ref e) G),(i,I (J r++[.str h m]) (y+1)),(g 1,I [.ref d,.ref e] 2),(d,I (J ((c,f)::l)) s),(e,I (J p) (x+1))]) P λg q Q=>N q (g 1) _ 2 (y+1) s (x+1) (.b D E T Y X a0 (g 1) (.ref e) (.str (h) m) (.ref e) (.ref e) G) ?_
 rw[show J (r++[(h,m)])=J r++[.str h m] by simp[J]]
 exact Q
theorem UM(M:Room 60 A){B:Shared}(P:RepF (V w j o u) [(k,E1 w.params D E T Y X a0 z i b0 a8 b1 a7 G),(i,I (J r) y),(z,I [.ref d,.ref e] K),(d,I (J []) s),(e,I (J []) x)] [] F B)(N:∀q,RepF (V w j o u) [(i,I (J r) y)] [] F q->R (.ok (.ret (.ref i))) q):codeAny (model pw w) A (cC k) R B:=
 IX O M _ 102 0x410c30400c60400412082011c7041 [(λa=>FA w.params k (C a 0) (C a 1) (C a 2) z d e K s x [] [],[5,6,7,2,3,4],[]),(λa=>AA (C a 1) [] 0,[6],[])] [1] (λ_=>.ret (.ok (.ret (.ref i)))) (BI (Ca O (by rw[sizeLine_eq]; simp) (by rw[sizeLine_eq]; simp)) (Ae (by rw[sizeLine_eq]; simp))) (λg=>[(i,I (J r) y)]) P λg q Q=>N q Q
theorem Vu(a1:AG c l=false)(M:Room 60 A){B:Shared}(P:RepF (V w j o u) [(k,E1 w.params D E T Y X a0 z i b0 a8 b1 a7 G),(i,I (J r) y),(z,I [.ref d] K),(d,I (J ((c,f)::l)) s)] [] F B)(N:∀q L H a4 a3 a2,Ei w.params i L H->RepF (V w j o u) [(k,H),(i,I (J (r++[(c,f)])) a3),(L,I [.ref d] a4),(d,I (J l) a2)] [] F q->codeAny (model pw w) A (cC k) R q):codeAny (model pw w) A (cC k) R B:=by
 refine Bn O M _ 316 0x410c30400c50400411c71c118604118604018800800820818820004104410400410004104618100624024024924624900104104410404b2c124024924624934104208208104118604018e00e00e38e18e38004104410400410104104410138038e38638e401 [(λa=>RB w.params k (C a 0) (C a 1) (C a 2) z d K s ((c,f)::l),[4,5,6,2,3],[]),(λa=>AA (C a 1) [Value.ref d] 1,[5],[]),(λa=>BD d s (C a 13) ((c,f)::l) 1 (C a 12),[3,9],[]),(λa=>Af (C a 14) l 0 c f false,[10],[]),(λa=>AJ i (J r) y (Value.str c f),[1],[]),(λa=>AY c c f f true,[],[]),(λa=>CR d s (C a 20) (.str c f) (J l),[3],[])] [0,1,5,3] (Fa (MV O (by rw[sizeLine_eq]; simp; lia)) (Ae (by rw[sizeLine_eq]; simp)) (AH O (by rw[sizeLine_eq]; simp; lia) (by decide)) (A7 O a1) (Ag O (by rw[sizeLine_eq]; simp[J]; lia)) (Ai O (beq_self_eq_true _)) (BB O (by rw[sizeLine_eq]; simp[J]; lia))) (λg=>[(k,E1 w.params D E T Y X a0 (g 1) i (.ref d) (.str (c) f) (.ref d) (.ref d) G),(i,I (J r++[.str c f]) (y+1)),(g 1,I [.ref d] 1),(d,I (J l) (s+1))]) P λg q Q=>N q (g 1) _ 1 (y+1) (s+1) (.b D E T Y X a0 (g 1) (.ref d) (.str (c) f) (.ref d) (.ref d) G) ?_
 rw[show J (r++[(c,f)])=J r++[.str c f] by simp[J]]
 exact Q
theorem W0(M:Room 60 A){B:Shared}(P:RepF (V w j o u) [(k,E1 w.params D E T Y X a0 z i b0 a8 b1 a7 G),(i,I (J r) y),(z,I [.ref d] K),(d,I (J []) s)] [] F B)(N:∀q,RepF (V w j o u) [(i,I (J r) y)] [] F q->R (.ok (.ret (.ref i))) q):codeAny (model pw w) A (cC k) R B:=
 IX O M _ 102 0x410c30400c50400411c71c1186041 [(λa=>RB w.params k (C a 0) (C a 1) (C a 2) z d K s [],[4,5,6,2,3],[]),(λa=>AA (C a 1) [] 0,[5],[])] [1] (λ_=>.ret (.ok (.ret (.ref i)))) (BI (MV O (by rw[sizeLine_eq]; simp)) (Ae (by rw[sizeLine_eq]; simp))) (λg=>[(i,I (J r) y)]) P λg q Q=>N q Q
theorem RU(a1:AG c l=false)(a6:AG c p=true)(b2:AG h l=true)(M:Room 60 A){B:Shared}(P:RepF (V w j o u) [(k,Is w.params D E z i G),(i,I (J r) y),(z,I [.ref d,.ref e] K),(d,I (J ((c,f)::l)) s),(e,I (J ((h,m)::p)) x)] [] F B)(N:∀q b5 b4,RepF (V w j o u) [(k,Bl b5 b4)] [] F q->wpOwn (model pw w) A (cC k) (Lj k) (postC pw w A R) (postE R) q):codeAny (model pw w) A (cC k) R B:=
 run_codeT O (E:=306) M (B:=hd 0x10430c10031810010482080471c10471c10072402402492472490010411041001040010411c70401ca00a00a28a1ca28004104110410130c04a00a28a1ca28004104114514138e0400412402492472490010411451401450010411c70401cf00f00f3cf1cf3c00410411041014510400412402492472494c1) (r:=[(λa=>FA w.params k (C a 0) (C a 1) (C a 2) z d e K s x ((c,f)::l) ((h,m)::p),[5,6,7,2,3,4],[]),(λa=>AA (C a 1) [Value.ref d,Value.ref e] 2,[6],[]),(λa=>BD d s (C a 13) ((c,f)::l) 1 (C a 12),[3,10],[]),(λa=>Af (C a 14) l 0 c f false,[11],[]),(λa=>BD e x (C a 17) ((h,m)::p) 1 (C a 16),[4,12],[]),(λa=>Af (C a 18) p 0 c f true,[13],[]),(λa=>BD d s (C a 26) ((c,f)::l) 1 (C a 25),[3,15],[]),(λa=>Af (C a 27) l 0 h m true,[16],[])]) (a8:=[0]) (M:=[]) (G:=cC k) (s:=Lj k) (x:=λg=>[(k,(Bl [en w.params Ju D (.ref (g 1)),en w.params Ga E (.ref i),en w.params (S [115,49]) (g 7) (.ref e),en w.params (S [99,97,110,100,105,100,97,116,101]) (g 9) .none,en w.params (S [115,50]) (g 11) (.ref d)] (((G+1)+1)+1)))]) (t:=λ_=>[]) (G7 (Ca O (by rw[sizeLine_eq]; simp; lia) (by rw[sizeLine_eq]; simp; lia)) (Ae (by rw[sizeLine_eq]; simp)) (AH O (by rw[sizeLine_eq]; simp; lia) (by decide)) (A7 O a1) (AH O (by rw[sizeLine_eq]; simp; lia) (by decide)) (A7 O a6) (AH O (by rw[sizeLine_eq]; simp; lia) (by decide)) (A7 O b2)) (by kernel_rfl) P λg q Q=>N q _ _ Q
theorem RL(a1:AG c l=false)(a6:AG c p=true)(b2:AG h l=true)(M:Room 60 A){B:Shared}(P:RepF (V w j o u) [(k,E1 w.params D E T Y X a0 z i b0 a8 b1 a7 G),(i,I (J r) y),(z,I [.ref d,.ref e] K),(d,I (J ((c,f)::l)) s),(e,I (J ((h,m)::p)) x)] [] F B)(N:∀q b5 b4,RepF (V w j o u) [(k,Bl b5 b4)] [] F q->wpOwn (model pw w) A (cC k) (Lj k) (postC pw w A R) (postE R) q):codeAny (model pw w) A (cC k) R B:=
 run_codeT O (E:=306) M (B:=hd 0x10430c10031810010482080471c10471c10072402402492472490010411041001040010411c70401ca00a00a28a1ca28004104110410130c04a00a28a1ca28004104114514138e0400412402492472490010411451401450010411c70401cf00f00f3cf1cf3c00410411041014510400412402492472494c1) (r:=[(λa=>FA w.params k (C a 0) (C a 1) (C a 2) z d e K s x ((c,f)::l) ((h,m)::p),[5,6,7,2,3,4],[]),(λa=>AA (C a 1) [Value.ref d,Value.ref e] 2,[6],[]),(λa=>BD d s (C a 13) ((c,f)::l) 1 (C a 12),[3,10],[]),(λa=>Af (C a 14) l 0 c f false,[11],[]),(λa=>BD e x (C a 17) ((h,m)::p) 1 (C a 16),[4,12],[]),(λa=>Af (C a 18) p 0 c f true,[13],[]),(λa=>BD d s (C a 26) ((c,f)::l) 1 (C a 25),[3,15],[]),(λa=>Af (C a 27) l 0 h m true,[16],[])]) (a8:=[0]) (M:=[]) (G:=cC k) (s:=Lj k) (x:=λg=>[(k,(Bl [en w.params Ju D (.ref (g 1)),en w.params Ga E (.ref i),en w.params UB T (.ref e),en w.params P6 Y .none,en w.params V9 X (.ref d),en w.params Rh a0 a7] G))]) (t:=λ_=>[]) (G7 (Ca O (by rw[sizeLine_eq]; simp; lia) (by rw[sizeLine_eq]; simp; lia)) (Ae (by rw[sizeLine_eq]; simp)) (AH O (by rw[sizeLine_eq]; simp; lia) (by decide)) (A7 O a1) (AH O (by rw[sizeLine_eq]; simp; lia) (by decide)) (A7 O a6) (AH O (by rw[sizeLine_eq]; simp; lia) (by decide)) (A7 O b2)) (by kernel_rfl) P λg q Q=>N q _ _ Q
end
end
section
noncomputable def IR:Str:=S [82,117,110,116,105,109,101,69,114,114,111,114]
noncomputable def OZ:Str:=S [73,110,99,111,110,115,105,115,116,101,110,116,32,104,105,101,114,97,114,99,104,121]
noncomputable def Lw:List Stmt->Nat×List Pos
 |[.Raise (some (.Call (.Name _ h9) [.Constant _ n g9] _ i0)) _ i1]=>(n,[h9,g9,i0,i1])
 |_=>(0,[])
theorem Sl:∃h9 n g9 i0 i1,Im (W B6 (CP (Fc 2)) 3)=[.Raise (some (.Call (.Name IR h9) [.Constant (.str OZ) n g9] [] i0)) none i1]:=
 ⟨W default (Lw (Im (W B6 (CP (Fc 2)) 3))).2 0,(Lw (Im (W B6 (CP (Fc 2)) 3))).1,W default (Lw (Im (W B6 (CP (Fc 2)) 3))).2 1,W default (Lw (Im (W B6 (CP (Fc 2)) 3))).2 2,W default (Lw (Im (W B6 (CP (Fc 2)) 3))).2 3,by kernel_rfl⟩
noncomputable def G4(n:Str)(o:Option Obj):Option (Sem (Option Value)):=o.map (nsLook n)
theorem Fn{n:Str}{o:Option Obj}{a9:Option Value}(g:G4 n o=some (.pure a9)):∃a8,o=some a8/\nsLook n a8 = .pure a9:=by
 cases o with
 |none=>cases g
 |some o=>exact⟨_,rfl,Option.some.inj g⟩
theorem E3{c1:List Env}(g:A.frames=some c1)(h0:Code):(A.under h0).frames=some (h0.envs++c1):=by
 show pushEnvs _ _=_
 rw[pushEnvs_eq,g]; rfl
section
variable{c6:Cx}(f4:c6.Ok)
include f4
theorem Fi{i6:VP}{b8:Env}{d3:Str}{a9:Value}{k:Shared}{e8:VP}(c0:b8.scope.kind = .function)(d0:b8.kindOf d3=some .globalImplicit)(j5:∀E o,c6.h₀.get? E=some o->k.heap.get? E=some o)(f8:G4 d3 (c6.kt.get b8.globals)=some (.pure none))(c8:G4 d3 (c6.kt.get b8.builtins)=some (.pure (some a9)))(g:e8 a9 k):wpAny (model pw c6.w) A (loadName b8 d3) e8 i6 k:=by
 obtain⟨k5,b2,f6⟩:=Fn f8
 obtain⟨k6,e5,i7⟩:=Fn c8
 have h2:∀{b5:Addr} {o:Obj},c6.kt.get b5=some o->k.heap.get? b5=some o:=λ{b5 o} d=>by
  have i5:=KT.Holds.get f4.kt d
  rw[Nat.one_mul,Nat.add_zero] at i5
  exact j5 _ _ i5
 have d:loadName b8 d3=loadGlobal b8 d3:=loadName_read c0 d0
 rw[d]
 unfold loadGlobal nsGet
 refine wpAny_bind (wpAny_bind (wpAny_loadPart (h2 b2) ?_))
 rw[f6]
 refine wpAny_pure ?_
 refine wpAny_bind (wpAny_bind (wpAny_loadPart (h2 e5) ?_))
 rw[i7]
 exact wpAny_pure (wpAny_pure g)
omit f4 in
theorem LA{f5 g e1:Heap}{c1:List Env}(d0:g.FunFrames f5 c1)(B:∀E o,g.get? E=some o->e1.get? E=some o):e1.FunFrames f5 c1:=d0.of_keeps λE o d _=>⟨o,B E o d,rfl⟩
end
section
variable{e:Nat}
include O
theorem IZ{b5:Nat}(g:287<=b5):j.get? b5=none:=Heap.get?_none_of_le (by have d:j.objs.size=287:=O.size; lia)
theorem LV{b3:List Env}{f2:List DictEntry}{f1:Nat}(i:Room 60 A)(d9:A.frames=some (Cb e::b3)){k:Shared}(l:RepF (V w j o u) [(e,Bl f2 f1)] [] F k)(e0:k.heap.FunFrames j b3)(c0:∀d d6 c,Heap.HeldW j (Cb e::b3) d (.type "RuntimeError") d6 e c.heap->k.heap.UpToSlots c.heap->AllBare c.gens->c.os=u->R (.error (.ref d)) c):wpOwn (model pw w) A (cC e) (Lj e) (postC pw w A R) (postE R) k:=by
 unfold Lj
 rw[Na]
 refine wpOwn_of_wpAny ?_
 have h6:(A.under (cC e)).frames=some (Cb e::b3):=E3 d9 (cC e)
 have h7:(A.under (cC e)).handled=none:=i.handled
 generalize A.under (cC e)=A' at h6 h7
 have j9:wpAny (model pw w) A' (execs (Im (W B6 (CP (Fc 2)) 3)) (Cb e)) (λ_ _=>False) (notedBy (model pw w) A' (Cb e) λq c=>R (.error q) c) k:=by
  obtain⟨h9,n,g9,i0,i1,f6⟩:=Sl
  rw[f6,arm_execs_cons]
  refine wpAny_bind (wpAny_mono (Raise_madeB (Q:=λ_ _=>False) PySem.F.excCall_RuntimeError PySem.F.excRaise_RuntimeError h7 ?_) (λ_ _ q=>q.elim) λ_ _ q=>q)
  rw[arm_eval_Name]
  refine wpAny_bind (wpAny_standAt ?_)
  have j4:(IR==("__debug__" : Str))=false:=by decide +kernel
  rw[j4]
  refine Fi (c6:=V w j o u) O (b8:=Cb e) (d3:=IR) (a9:=.type "RuntimeError") (e8:=λe k7=>e = .type "RuntimeError" /\ _) (by kernel_rfl) (by kernel_rfl) (λE o d=>Rep.old l E o d) (by kernel_rfl) (by kernel_rfl) ⟨rfl,?_⟩
  show wpAny _ _ (eval (.Constant (.str OZ) n g9) (Cb e)>>=λa9=>pure [a9]>>=λh5=>holding h5 (pure [])>>=λk3=>pure (h5++k3)) _ _ _
  refine wpAny_bind ?_
  rw[arm_eval_Constant]
  refine wpAny_mkText ?_
  refine wpAny_bind (wpAny_pure (wpAny_bind (wpAny_holding (wpAny_pure (wpAny_pure ⟨by show 1<=sizeLine; decide,λe1 d d7=>?_⟩)))))
  obtain⟨i3,h8,_,_⟩:=d7.there
  have j8:∀E a8,j.get? E=some a8->e1.get? E=some a8:=λE a8 j0=>d7.keeps E a8 (Rep.old l E a8 j0)
  have h4:j.get? d=none:=by
   cases e2:j.get? d with
   |none=>rfl
   |some a8=>
    have:=Rep.old l d a8 e2
    have d1:=d7.new
    rw[show(({k with toks:=k.toks+1}:Shared).heap)=k.heap from rfl] at d1
    rw[this] at d1; cases d1
  have j1:=RepF.get0 l
  have f3:e1.FunFrames j (Cb e::b3):=⟨by rw[show(Cb e).scope.kind = .function from(by kernel_rfl)]; decide,⟨e,_,rfl,IZ O (Rep.hi l _ (List.mem_cons_self ..)),d7.keeps _ _ j1,λk8 j7=>by cases j7⟩,LA e0 d7.keeps⟩
  unfold notedBy noteFrame
  show wpAny _ _ (field (.ref d) 1>>=_) _ _ _
  refine wpAny_bind (wpAny_field h8 rfl (x:=.none) rfl ?_)
  rw[if_neg (by decide)]
  refine wpAny_entryW (base:=j) (oe:=_) h6 f3 rfl h8 j8 h4 rfl (by show 1<6; decide) (a0:=.ref i3) rfl λk4 d8=>?_
  obtain⟨a7,e7,k1,k2⟩:=d8
  exact c0 d (.ref i3) _ ⟨a7,h4,e7,k1⟩ (Heap.UpToSlots.trans (Heap.UpToSlots.of_keeps d7.keeps) k2) (by exact(Rep.bare l:AllBare k.gens)) (by exact(Rep.os l:k.os=u))
 refine wpAny_noted ?_
 exact wpAny_bind (wpAny_bind (wpAny_mono j9 (λ_ _ q=>q.elim) λ_ _ q=>q))
omit O in
theorem CO{q:Str}{a:List (Str×Nat)}:AG q a=decide (q∈a.map (·.1)):=by
 unfold AG
 rw[Bool.eq_iff_iff,List.any_eq_true,decide_eq_true_iff,List.mem_map]
 constructor
 ·rintro ⟨m,e2,d⟩
  exact⟨m,e2,Str.ext' (Array.toList_inj.mp (eq_of_beq d))⟩
 ·rintro ⟨m,e2,rfl⟩
  exact⟨m,e2,beq_self_eq_true _⟩
omit O in
theorem Gm{q i4:Str}:(q.cps.toList==i4.cps.toList)=decide (q=i4):=by
 rw[Bool.eq_iff_iff,decide_eq_true_iff]
 exact⟨λd=>Str.ext' (Array.toList_inj.mp (eq_of_beq d)),λd=>by rw[d]; exact beq_self_eq_true _⟩
theorem KY{t M:Nat}:∀(n:Nat) {a x:List (Str×Nat)} {h:List Str} {y a6 a7 c2:Nat} {a2:Obj},Ei w.params t y a2->Y n (a.map (·.1)) []=some h->(a.map (·.1)).Nodup->a.length<200->x.length+a.length<400 ->
  ∀{A:Around},Room 60 A->∀{F:AK} {k:Shared} {R:RP},RepF (V w j o u) [(e,a2),(t,I (J x) a6),(y,I [.ref M] c2),(M,I (J a) a7)] [] F k ->
  (∀c B D,D.map (·.1)=x.map (·.1)++h->RepF (V w j o u) [(t,I (J D) B)] [] F c->R (.ok (.ret (.ref t))) c)->codeAny (model pw w) A (cC e) R k
 |0,a,x,h,y,a6,a7,c2,a2,_,g,_,_,_,A,i,F,k,R,l,c0=>by cases g
 |n+1,[],x,h,y,a6,a7,c2,a2,p,g,_,_,d0,A,i,F,k,R,l,c0=>by
  have f9:h=[]:=by cases g; rfl
  obtain⟨b0,G,N,Y,e9,f0,y,c3,b6,c4,c5,d⟩:=p
  exact W0 O (l:=[]) (p:=[]) (by decide) (by decide) (by simpa using d0) i l λc s=>c0 c a6 x (by rw[f9,List.append_nil]) s
 |n+1,(f,b4)::a,x,h,y,a6,a7,c2,a2,p,g,j3,j2,d0,A,i,F,k,R,l,c0=>by
  simp only[List.length_cons] at j2 d0
  obtain⟨c7,b7⟩:=List.nodup_cons.mp j3
  have g:(Y n (a.map (·.1)) []).map (f :: ·)=some h:=g
  cases c8:Y n (a.map (·.1)) [] with
  |none=>rw[c8] at g; cases g
  |some k0=>
   rw[c8] at g
   have f9:f::k0=h:=Option.some.inj g
   obtain⟨b0,G,N,Y,e9,f0,y,c3,b6,c4,c5,d⟩:=p
   refine Vu O (l:=a) (p:=[]) (by exact Nat.le_of_lt ‹_›) (by decide) (by lia) (by rw[CO]; exact decide_eq_false c7) i l λc z r L K H a3 s=>?_
   refine KY n a3 c8 b7 (by exact Nat.le_of_lt ‹_›) (by simp; lia) i s λT B D a0 a5=>c0 T B D ?_ a5
   rw[a0,<-f9]; simp
omit O in
theorem Eo:∀(n:Nat) (A:List Str),A.length<n->∃h,Y n A []=some h
 |0,_,g=>by lia
 |n+1,[],_=>⟨[],rfl⟩
 |n+1,b5::A,g=>by
  obtain⟨h,d⟩:=Eo n A (by simp at g; omega)
  exact⟨b5::h,by show(Y n A []).map _=_; rw[d]; rfl⟩
omit O in
theorem Ky:∀(n:Nat) (d5:List Str),Y n [] d5=Y n d5 []
 |0,_=>rfl
 |n+1,[]=>rfl
 |n+1,E::d5=>by
  show(Y n [] d5).map _=(Y n d5 []).map _
  rw[Ky n d5]
theorem SP{t M X:Nat}{b3:List Env}:∀(n:Nat) {a b x:List (Str×Nat)} {y a6 a7 e7 c2:Nat} {a2:Obj},(Ei w.params t y a2∨∃b0 G d,a2=Is w.params b0 G y t d)->(a.map (·.1)).Nodup->(b.map (·.1)).Nodup->a.length<100->b.length<100->x.length+a.length+b.length<300->a.length+b.length<n ->
  ∀{A:Around},Room 60 A->A.frames=some (Cb e::b3)->∀{F:AK} {k:Shared} {R:RP},RepF (V w j o u) [(e,a2),(t,I (J x) a6),(y,I [.ref M,.ref X] c2),(M,I (J a) a7),(X,I (J b) e7)] [] F k ->
  (Y n (a.map (·.1)) (b.map (·.1))=none->∀k:Shared,(∀f∈F.1,k.heap.get? f.1=some f.2)->k.heap.FunFrames j b3) ->
  (∀h,Y n (a.map (·.1)) (b.map (·.1))=some h->∀c B D,D.map (·.1)=x.map (·.1)++h->RepF (V w j o u) [(t,I (J D) B)] [] F c->R (.ok (.ret (.ref t))) c) ->
  (Y n (a.map (·.1)) (b.map (·.1))=none->∀d d6 c (i2:Shared),(∀f∈F.1,i2.heap.get? f.1=some f.2)->Heap.HeldW j (Cb e::b3) d (.type "RuntimeError") d6 e c.heap->i2.heap.UpToSlots c.heap->AllBare c.gens->c.os=u->R (.error (.ref d)) c) ->
  codeAny (model pw w) A (cC e) R k:=by
 intro n
 induction n with
 |zero=>intro a b x y a6 a7 e7 c2 a2 _ _ _ _ _ _ g; lia
 |succ n g0=>
  intro a b x y a6 a7 e7 c2 a2 p g7 g8 g5 g6 e6 d1 A i d9 F k R l e0 c9 d8
  rcases a with _ |⟨⟨f,b4⟩,a⟩ <;> rcases b with _ |⟨⟨m,d4⟩,b⟩
  ·rcases p with p |⟨b0,G,d,rfl⟩
   ·obtain⟨b0,G,N,Y,e9,f0,y,c3,b6,c4,c5,d⟩:=p
    exact UM O (l:=[]) (p:=[]) (by decide) (by decide) (by simpa using by simp at e6; lia) i l λc s=>c9 [] rfl c a6 x (List.append_nil _).symm s
   ·exact U1 O (l:=[]) (p:=[]) (by decide) (by decide) (by simpa using by simp at e6; lia) i l λc s=>c9 [] rfl c a6 x (List.append_nil _).symm s
  ·simp only[List.length_cons,List.length_nil] at g5 g6 e6 d1
   obtain⟨c7,b7⟩:=List.nodup_cons.mp g8
   have e4:AG m b=false:=by rw[CO]; exact decide_eq_false c7
   obtain⟨h,a1⟩:=Eo n (b.map (·.1)) (by simp; lia)
   have f7:Y (n+1) [] ((((m,d4)::b):List (Str×Nat)).map (·.1))=some (m::h):=by
    show(Y n [] (b.map (·.1))).map _=_
    rw[Ky,a1]; rfl
   have P:∀c z r L K H Q,Ei w.params t z r->RepF (V w j o u) [(e,r),(t,I (J (x++[(m,d4)])) K),(z,I [.ref X] L),(M,I (J []) H),(X,I (J b) Q)] [] F c->codeAny (model pw w) A (cC e) R c:=λc z r L K H Q a3 s=>
    KY O n a3 a1 b7 (by lia) (by simp; lia) i (RepF.sub s (List.Sublist.cons_cons _ (List.Sublist.cons_cons _ (List.Sublist.cons_cons _ (.cons _ (List.Sublist.refl _)))))) λT B D a0 a5=>c9 (m::h) f7 T B D (by rw[a0]; simp) a5
   rcases p with p |⟨b0,G,d,rfl⟩
   ·obtain⟨b0,G,N,Y,e9,f0,y,c3,b6,c4,c5,d⟩:=p
    exact Uu O (l:=[]) (p:=b) (by decide) (by lia) (by lia) e4 i l P
   ·exact U7 O (l:=[]) (p:=b) (by decide) (by lia) (by lia) e4 i l P
  ·simp only[List.length_cons,List.length_nil] at g5 g6 e6 d1
   obtain⟨c7,b7⟩:=List.nodup_cons.mp g7
   have a4:AG f a=false:=by rw[CO]; exact decide_eq_false c7
   obtain⟨h,a1⟩:=Eo n (a.map (·.1)) (by simp; lia)
   have f7:Y (n+1) ((((f,b4)::a):List (Str×Nat)).map (·.1)) []=some (f::h):=by
    show(Y n (a.map (·.1)) []).map _=_
    rw[a1]; rfl
   have P:∀c z r L K H Q,Ei w.params t z r->RepF (V w j o u) [(e,r),(t,I (J (x++[(f,b4)])) K),(z,I [.ref M] L),(M,I (J a) H),(X,I (J []) Q)] [] F c->codeAny (model pw w) A (cC e) R c:=λc z r L K H Q a3 s=>
    KY O n a3 a1 b7 (by lia) (by simp; lia) i (RepF.sub s (List.sublist_append_left [_,_,_,_] _)) λT B D a0 a5=>c9 (f::h) f7 T B D (by rw[a0]; simp) a5
   rcases p with p |⟨b0,G,d,rfl⟩
   ·obtain⟨b0,G,N,Y,e9,f0,y,c3,b6,c4,c5,d⟩:=p
    exact Ub O (l:=a) (p:=[]) (by lia) (by decide) (by lia) a4 i l P
   ·exact Tc O (l:=a) (p:=[]) (by lia) (by decide) (by lia) a4 i l P
  ·simp only[List.length_cons] at g5 g6 e6 d1
   obtain⟨c7,b7⟩:=List.nodup_cons.mp g7
   obtain⟨h3,g2⟩:=List.nodup_cons.mp g8
   have a4:AG f a=false:=by rw[CO]; exact decide_eq_false c7
   have e4:AG m b=false:=by rw[CO]; exact decide_eq_false h3
   have eC:Y (n+1) ((((f,b4)::a):List (Str×Nat)).map (·.1)) ((((m,d4)::b):List (Str×Nat)).map (·.1))=if f∈b.map (·.1) then(if m∈a.map (·.1) then none else(Y n ((((f,b4)::a):List (Str×Nat)).map (·.1)) (b.map (·.1))).map (m :: ·)) else if m=f then(Y n (a.map (·.1)) (b.map (·.1))).map (f :: ·) else(Y n (a.map (·.1)) ((((m,d4)::b):List (Str×Nat)).map (·.1))).map (f :: ·):=rfl
   by_cases G:f∈b.map (·.1)
   ·have b1:AG f b=true:=by rw[CO]; exact decide_eq_true G
    rw[if_pos G] at eC
    by_cases N:m∈a.map (·.1)
    ·have e3:AG m a=true:=by rw[CO]; exact decide_eq_true N
     rw[if_pos N] at eC
     have h1:∀c f2 f1,RepF (V w j o u) [(e,Bl f2 f1)] [] F c->wpOwn (model pw w) A (cC e) (Lj e) (postC pw w A R) (postE R) c:=λc f2 f1 s=>
      have f3:∀f∈F.1,c.heap.get? f.1=some f.2:=λf j6=>Rep.get s f (List.mem_append_right _ j6)
      LV O i d9 s (e0 eC c f3) λd d6 T f8 c8 i8 i9=>d8 eC d d6 T c f3 f8 c8 i8 i9
     rcases p with p |⟨d2,b2,d,rfl⟩
     ·obtain⟨d2,b2,e5,g1,g3,g4,y,c3,b6,c4,c5,d⟩:=p
      exact RL O (l:=a) (p:=b) (by lia) (by lia) (by lia) a4 b1 e3 i l h1
     ·exact RU O (l:=a) (p:=b) (by lia) (by lia) (by lia) a4 b1 e3 i l h1
    ·have e3:AG m a=false:=by rw[CO]; exact decide_eq_false N
     rw[if_neg N] at eC
     have b9:(f.cps.toList==m.cps.toList)=false:=by
      rw[Gm]
      exact decide_eq_false λd=>h3 (d▸G)
     have P:∀c z r L K H Q,Ei w.params t z r->RepF (V w j o u) [(e,r),(t,I (J (x++[(m,d4)])) K),(z,I [.ref M,.ref X] L),(M,I (J ((f,b4)::a)) H),(X,I (J b) Q)] [] F c->codeAny (model pw w) A (cC e) R c:=λc z r L K H Q a3 s=>
      g0 (.inl a3) g7 g2 (by simp; omega) (by exact Nat.le_of_lt ‹_›) (by simp; lia) (by simp; lia) i d9 s (λen=>e0 (by rw[eC,en]; rfl)) (λh a1 T B D a0 a5=>c9 (m::h) (by rw[eC,a1]; rfl) T B D (by rw[a0]; simp) a5) λen=>d8 (by rw[eC,en]; rfl)
     rcases p with p |⟨d2,b2,d,rfl⟩
     ·obtain⟨d2,b2,e5,g1,g3,g4,y,c3,b6,c4,c5,d⟩:=p
      exact Sr O (l:=a) (p:=b) (by lia) (by lia) (by lia) a4 b1 e3 e4 b9 i l P
     ·exact S8 O (l:=a) (p:=b) (by lia) (by lia) (by lia) a4 b1 e3 e4 b9 i l P
   ·have b1:AG f b=false:=by rw[CO]; exact decide_eq_false G
    rw[if_neg G] at eC
    by_cases N:m=f
    ·rw[if_pos N] at eC
     have b9:(m.cps.toList==f.cps.toList)=true:=by rw[Gm]; exact decide_eq_true N
     have P:∀c z r L K H Q,Ei w.params t z r->RepF (V w j o u) [(e,r),(t,I (J (x++[(f,b4)])) K),(z,I [.ref M,.ref X] L),(M,I (J a) H),(X,I (J b) Q)] [] F c->codeAny (model pw w) A (cC e) R c:=λc z r L K H Q a3 s=>
      g0 (.inl a3) b7 g2 (by exact Nat.le_of_lt ‹_›) (by exact Nat.le_of_lt ‹_›) (by simp; lia) (by lia) i d9 s (λen=>e0 (by rw[eC,en]; rfl)) (λh a1 T B D a0 a5=>c9 (f::h) (by rw[eC,a1]; rfl) T B D (by rw[a0]; simp) a5) λen=>d8 (by rw[eC,en]; rfl)
     rcases p with p |⟨d2,b2,d,rfl⟩
     ·obtain⟨d2,b2,e5,g1,g3,g4,y,c3,b6,c4,c5,d⟩:=p
      exact SV O (l:=a) (p:=b) (by lia) (by lia) (by lia) a4 b1 b9 i l P
     ·exact Rv O (l:=a) (p:=b) (by lia) (by lia) (by lia) a4 b1 b9 i l P
    ·rw[if_neg N] at eC
     have b9:(m.cps.toList==f.cps.toList)=false:=by rw[Gm]; exact decide_eq_false N
     have P:∀c z r L K H Q,Ei w.params t z r->RepF (V w j o u) [(e,r),(t,I (J (x++[(f,b4)])) K),(z,I [.ref M,.ref X] L),(M,I (J a) H),(X,I (J ((m,d4)::b)) Q)] [] F c->codeAny (model pw w) A (cC e) R c:=λc z r L K H Q a3 s=>
      g0 (.inl a3) b7 g8 (by exact Nat.le_of_lt ‹_›) (by simp; omega) (by simp; lia) (by simp; lia) i d9 s (λen=>e0 (by rw[eC,en]; rfl)) (λh a1 T B D a0 a5=>c9 (f::h) (by rw[eC,a1]; rfl) T B D (by rw[a0]; simp) a5) λen=>d8 (by rw[eC,en]; rfl)
     rcases p with p |⟨d2,b2,d,rfl⟩
     ·obtain⟨d2,b2,e5,g1,g3,g4,y,c3,b6,c4,c5,d⟩:=p
      exact Sd O (l:=a) (p:=b) (by lia) (by lia) (by lia) a4 b1 b9 i l P
     ·exact Sa O (l:=a) (p:=b) (by lia) (by lia) (by lia) a4 b1 b9 i l P
end
end
section
noncomputable def OU(c:Flow):Sem Fin:=match c with
 |.ret N=>ret N
 |_=>ret .none
noncomputable def GL(l:Env)(d:List Stmt):Sem Fin:=PySem.W.R.bindR (PySem.W.R.onRaiseR (CN d l) λf=>PySem.W.R.bindR (Jy f l) λ_=>PySem.W.Fast.tw5670386056902412789 f none) OU
theorem GJ(l:Env)(d:List Stmt):GL l d=((execs d l).onRaise (leaving l)).bind OU:=by
 unfold GL CN Jy
 rw[<-PySem.W.R.onRaiseR_eq,<-PySem.W.R.bindR_eq,<-PySem.W.Fast.te12563942051412417395,<-PySem.W.Fast.te17872113653443481271,<-PySem.W.Fast.te5670386056902412789]
 rfl
noncomputable def TB(c:Nat):Sem Fin:=GL (Cb c) [Fc 2]
theorem De{i:Cx}(O:i.Ok){a3 m:Nat}(G:Room a3 A){E:Code}{c3:(Nat->Nat)->Code}{e0:(Nat->Nat)->Sem Fin}{a0:An}{X:Gs}{b7:List Nat}{b0:List ((List Nat->Spec)×List Nat×List Nat)}{f0 e4:List Nat}{b3:(Nat->Nat)->An}{b2:(Nat->Nat)->Gs}(i2:∀P∈b0,∀c0,(P.1 c0).Ok i)(f5:qA i.w.params i.kt a3 m E (D E) a0 [] X [] b7 b0 f0 e4=qB i.w.params i.kt a3 m E (D E) a0 [] X [] b7 b0 (λa=>.tree (c3 a) [] (e0 a)) b3 (λ_=>[]) b2){b:Shared}(a8:RepF i a0 X F b)(d2:∀a e,RepF i (b3 a) (b2 a) F e->wpOwn (model pw i.w) A (c3 a) (e0 a) (postC pw i.w A R) (postE R) e):codeAny (model pw i.w) A E R b:=by
 have d4:RepF i (a0++[]) X F b:=by rw[List.append_nil]; exact a8
 have i9:=(Cd O (MP i A R a3 F G) m E [] (D E) a0 [] X 0 [] [] [] b7 b0 (λ_=>0) i2 trivial λa _=>?_).2 F b d4
 ·refine y_code _ _ _ _ _ _ ?_
  have Q:=i9 ⟨rfl,rfl⟩
  rw[<-GZ] at Q
  exact Q
 ·obtain⟨f2,a5,g2,c5,g3,g4,g5,j1,g6,g7⟩:=EY (congrFun f5 a)
  refine⟨f2,a5,g2,λf4 e s c6=>?_⟩
  obtain⟨_,rfl⟩:=c6
  have Q:RepF i (b3 a++f2.B) (b2 a) f4 e:=Rep.gpicked (Rep.pickedB s g6 g3) g7 g5
  rw[g4,List.append_nil] at Q
  have:=d2 a e Q
  rw[c5]
  exact this
noncomputable def V2:Stmt->Bool
 |.While ..=>true
 |_=>false
theorem OF{v:Stmt}(a4:V2 v=true):∃z,v = .While (EN v) (CP v) (JL v) z:=by
 cases v <;> first |exact⟨_,rfl⟩ |cases a4
theorem Ma{a1:Heap}{c0:List Env}{f c:Nat}{a2 x:Value}{l:Env}(d0:l.frame=some c){w:World}{b1:VP}{b:Shared}(b6:Heap.HeldW a1 c0 f a2 x c b.heap)(a4:∀r,Heap.HeldW a1 c0 f a2 x c r->b.heap.UpToSlots r->b1 (.ref f) {b with heap:=r}):cameBackBy (model pw w) A l b1 (.ref f) b:=by
 obtain⟨f8,f9,g0,i7,e1,S,j3,f3,c9,h6,hd,a5,e8,e6,c7,b5,c5⟩:=b6
 have e9:3<f3.size:=(Array.getElem?_eq_some_iff.mp c5).1
 have c1:∀d,d≠S->(b.heap.update S (Obj.mapFields (·.setIfInBounds 3 (rawInt c)))).get? d=b.heap.get? d:=λd k=>Heap.get?_update_other _ _ (Ne.symm k)
 have f1:∀d o,b.heap.get? d=some o->(∀e1,o.data ≠ .fields e1)->d≠S:=λd o k a7 d9=>by
  rw[d9,c7] at k; injection k with k; subst k; exact a7 f3 b5
 unfold cameBackBy
 refine wpAny_bind (wpAny_field c9 hd a5 ?_)
 rw[if_neg (show ¬ ((Value.ref S==Value.none)=true) from Bool.false_ne_true)]
 unfold setFlight
 refine wpAny_bind (wpAny_field c9 hd a5 ?_)
 rw[if_pos (show(Value.ref S != Value.none)=true from by simp),d0]
 refine wpAny_setField c7 b5 e9 (a4 _ ⟨λd o c8=>(c1 d λd9=>by rw[d9,e8] at c8; cases c8).trans (f8 d o c8),f9,
  g0.of_keeps λd o k a7=>⟨o,(c1 d (f1 d o k a7)).trans k,rfl⟩,?_⟩ λd o k a7=>⟨o.slots,(c1 d (f1 d o k a7)).trans k⟩)
 exact⟨i7,e1,S,_,_,(c1 f (Ne.symm e6)).trans c9,h6,hd,a5,e8,e6,Heap.get?_update_self _ c7 (Obj.isFreed_of_fields (Obj.data_mapFields b5 _)),Obj.data_mapFields b5 _,by simp[e9]⟩
theorem R7{a1:Heap}{B:List Env}{f c:Nat}{a2 x:Value}{l:Env}(d0:l.frame=some c){w:World}{b1:VP}{e2:Unit->Shared->Prop}{b:Shared}(b6:Heap.HeldW a1 (l::B) f a2 x c b.heap)(a4:∀r,Heap.FlyingW a1 B f a2 x r->b.heap.UpToSlots r->e2 () {b with heap:=r}):wpAny (model pw w) A (leaving l (.ref f)) e2 b1 b:=by
 unfold leaving
 refine wpAny_bind (wpAny_noteFrame_againW d0 b6.2.2.2 ?_)
 refine wpAny_landsW b6 λr h7 i3=>?_
 obtain⟨b8,i4,⟨_,_,i5⟩,b9⟩:=h7
 exact a4 r ⟨b8,i4,i5,b9⟩ i3
section
include O
theorem KN{n p q m L H K:Nat}{B:List Env}{g h:List (Str×Nat)}(d7:(g.map (·.1)).Nodup)(d8:(h.map (·.1)).Nodup)(d5:g.length<100)(d6:h.length<100)(d3:g.length+h.length<m)(G:Room 100 A)(d1:A.frames=some B){b:Shared}(a8:RepF (V w j o u) [(q,I [.ref n,.ref p] L),(n,I (J g) H),(p,I (J h) K)] [] F b)(h9:Y m (g.map (·.1)) (h.map (·.1))=none->∀b:Shared,(∀z∈F.1,b.heap.get? z.1=some z.2)->b.heap.FunFrames j B)(h2:∀y,Y m (g.map (·.1)) (h.map (·.1))=some y->∀e t a9 T,T.map (·.1)=y->RepF (V w j o u) [(t,I (J T) a9)] [] F e->R (.ok (.ret (.ref t))) e)(h1:Y m (g.map (·.1)) (h.map (·.1))=none->∀f x e (c2:Shared),(∀z∈F.1,c2.heap.get? z.1=some z.2)->Heap.FlyingW j B f (.type "RuntimeError") x e.heap->c2.heap.UpToSlots e.heap->AllBare e.gens->e.os=u->R (.error (.ref f)) e) :
  codeAny (model pw w) A (.call (.ref 273) ⟨[.ref q],[]⟩) R b:=by
 have d4:RepF (V w j o u) [] [] ([(q,I [.ref n,.ref p] L),(n,I (J g) H),(p,I (J h) K)]++F.1,F.2) b:=a8
 refine De O (m:=22) G (b7:=hd 0x40000041000041) (b0:=[]) (f0:=[0,1]) (e4:=[]) (c3:=λa=>.func (B2 (C2 10)) (Cb (a 0))) (e0:=λa=>TB (a 0)) (b3:=λa=>[(a 0,Is w.params (a 1) (a 4) q (a 3) 2),(a 3,I (J []) 0)]) (b2:=λ_=>[]) C1 (by kernel_rfl) d4 λa e s=>?_
 generalize a 0=c at s
 generalize a 3=t at s
 generalize a 1=b8 at s
 generalize a 4=b9 at s
 unfold TB
 rw[GJ]
 refine wpOwn_of_wpAny ?_
 have e7:(A.under (.func (B2 (C2 10)) (Cb c))).frames=some (Cb c::B):=E3 d1 _
 have e5:Room 95 (A.under (.func (B2 (C2 10)) (Cb c))):=G.under rfl (by decide)
 generalize A.under (.func (B2 (C2 10)) (Cb c))=A1 at e7 e5
 have i0:RepF (V w j o u) [(c,Is w.params b8 b9 q t 2),(t,I (J []) 0),(q,I [.ref n,.ref p] L),(n,I (J g) H),(p,I (J h) K)] [] F e:=s
 obtain⟨z,f7⟩:=OF (v:=Fc 2) (by kernel_rfl)
 have i6:wpAny (model pw w) A1 (execs [Fc 2] (Cb c)) (λg1 M=>wpAny (model pw w) A1 (OU g1) (postC pw w A R) (postE R) M) (λP M=>wpAny (model pw w) A1 (leaving (Cb c) P) (λ_ i8=>postE R P i8) (postE R) M) e:=by
  rw[arm_execs_cons]
  rw[f7]
  show wpAny _ _ (exec (.While (EN (Fc 2)) (CP (Fc 2)) (JL (Fc 2)) z) (Cb c)>>=_) _ _ _
  rw[exec_While]
  refine wpAny_bind (wpAny_bind (wpAny_standAt (wpAny_runOwn ?_)))
  refine SP O m (.inr ⟨b8,b9,2,rfl⟩) d7 d8 d5 d6 (x:=[]) (by simp; lia) d3 (e5.mark.mono (by decide)) (show(A1.mark none).frames=_ from e7) i0 h9 (λy b4 M a9 T c4 i1=>?_) (λen f x M c2 c6 g9 h3 k h8=>?_)
  ·show wpAny _ _ (pure (Flow.ret (.ref t))) _ _ _
   refine wpAny_pure ?_
   show wpAny _ _ (ret (.ref t)) _ _ _
   exact wpAny_pure (h2 y b4 M t a9 T (by simpa using c4) i1)
  ·refine Ma (c:=c) rfl g9 λr h0 h4=>?_
   refine R7 (c:=c) rfl h0 λj0 g8 h5=>?_
   exact h1 en f x _ c2 c6 g8 ((h3.trans h4).trans h5) k h8
 refine wpAny_bind ?_
 exact wpAny_onRaise (wpAny_mono i6 (λ_ _ P=>P) λP M Q=>Q)
noncomputable def Q1(q n p L H K:Nat)(g h:List (Str×Nat))(y:List Str):Spec:=
 {code:=.call (.ref 273) ⟨[.ref q],[]⟩,fp:=[(q,I [.ref n,.ref p] L),(n,I (J g) H),(p,I (J h) K)],nf:=3,d:=100,drop:=true,upd:=λ_=>[],new:=λN=>[(W 0 N 0,I (J (toks y (W 0 N 1))) (W 0 N 2))],res:=λN=>.ok (.ret (.ref (W 0 N 0)))}
theorem J5{n p q m L H K:Nat}{g h:List (Str×Nat)}{y:List Str}(d7:(g.map (·.1)).Nodup)(d8:(h.map (·.1)).Nodup)(d5:g.length<100)(d6:h.length<100)(d3:g.length+h.length<m)(a6:Y m (g.map (·.1)) (h.map (·.1))=some y):(Q1 q n p L H K g h y).Ok (V w j o u):=Spec.of_codeD rfl (λ_=>rfl) (λ_=>rfl) λA G F b R a8 d2=>by
 obtain⟨B,d1⟩:=G.frames
 refine KN O d7 d8 d5 d6 d3 G d1 a8 (λen=>by rw[en] at a6; cases a6) (λj2 b4 e t a9 T c4 s=>?_) (λen=>by rw[en] at a6; cases a6)
 rw[a6] at b4
 cases b4
 obtain⟨f6,e3⟩:=Dz T
 rw[c4] at e3
 rw[<-e3] at s
 exact d2 [t,f6,a9] e rfl s
end
end
section
noncomputable def Jo(g:Nat):Stmt:=W B6 (B2 (C2 13)) g
noncomputable def UZ:Stmt->PySem.Expr
 |.Return (some e) _=>e
 |_=>.Constant .none 0 default
noncomputable def SL(g:Nat):PySem.Expr->PySem.Expr
 |.BoolOp _ p _=>W (.Constant .none 0 default) p g
 |e=>e
noncomputable def T6:PySem.Expr->PySem.Expr
 |.Compare _ _ (a::_) _=>a
 |e=>e
noncomputable def Ux:PySem.Expr->PySem.Expr
 |.IfExp _ i _ _=>i
 |e=>e
noncomputable def PC:PySem.Expr:=MT (Jo 3)
noncomputable def Ov:PySem.Expr:=MT (Jo 4)
noncomputable def Jk:PySem.Expr:=Ux (T6 (SL 1 (UZ (Jo 6))))
theorem QK:IY PC=true:=by kernel_rfl
theorem QY:IY Ov=true:=by kernel_rfl
theorem PV:IY Jk=true:=by kernel_rfl
noncomputable def PE:Str:=S [103,111,101,115]
noncomputable def Cv:Str:=S [114,111,119]
noncomputable def Sb:NameKind->NameKind
 |.free=>.cell
 |k=>k
noncomputable def Px(e:PySem.Expr)(m:Env)(a:Nat)(l:List (Str×Nat)):Env:={HE e m a with cells:=l,scope:={Gy e with names:=(Gy e).names.map λh=>(h.1,Sb h.2)}}
noncomputable def KG(d b f c a:Nat):Code:=.compLoop PC 0 (.ref f) (.ref c) (HE PC (BS d b) a)
noncomputable def HS(d b f c a:Nat):Code:=.compLoop Ov 0 (.ref f) (.ref c) (Px Ov (BS d b) a [(PE,b)])
noncomputable def Ps(d b f c a:Nat):Code:=.compLoop Jk 0 (.ref f) (.ref c) (HE Jk (BS d b) a)
noncomputable def Bu(n:Option Value):Obj:=⟨.type "cell",none,.cell n,⟨[]⟩⟩
end
section
inductive Dn(b0:Params):Bool->List DictEntry->Prop
 |d0:Dn b0 false []
 |d1 (X:Nat) (a:Str) (f:Nat):Dn b0 true [en b0 Cv X (.str a f)]
noncomputable def Fg(b1:Str):Bool:=(F9 b1).cps.toList==[45]
noncomputable def E7(b1:Str):Bool:=(F9 b1).cps.toList==[43]
noncomputable def DT(d6:List Str):List Str:=(d6.filter Fg).map BG
noncomputable def boF(e d6:List Str):List Str:=(d6.filter λb1=>E7 b1&&EO (BG b1) e).map BG
noncomputable def FS(d6:List Str):List Str:=d6.map BG
noncomputable def Er(d6:List (Str×Nat)):Prop:=∀b1∈d6,1<=b1.1.cps.toList.length/\b1.1.length<=sizeLine
noncomputable def MW(b0:Params)(Q:Bool)(T:List Nat)(a9:Nat):List DictEntry:=match Q with
 |true=>[en b0 Cv (W 0 T a9) (.str (Gc (W 0 T (a9+1))) (W 0 T (a9+2)))]
 |false=>[]
theorem Jh{b0:Params}{Q:Bool}{D:List DictEntry}(d5:Dn b0 Q D):∃c4 c5 c6,∀T a9,W 0 T a9=c4->W 0 T (a9+1)=c5->W 0 T (a9+2)=c6->MW b0 Q T a9=D:=by
 cases d5 with
 |d0=>exact⟨0,0,0,λT a9 _ _ _=>rfl⟩
 |d1 X a f=>
  obtain⟨B,rfl⟩:=EK a
  exact⟨X,B,f,λT a9 a5 c7 e0=>by show[en b0 Cv (W 0 T a9) (.str (Gc (W 0 T (a9+1))) (W 0 T (a9+2)))]=_; rw[a5,c7,e0]⟩
section
variable{M t h i k c m x N:Nat}{H:List (Str×Nat)}
include O
theorem Ue{b g:List Value}{a:Str}{f p n:Nat}{e:List (Str×Nat)}{D:List DictEntry}{Q:Bool}(a0:Dn w.params Q D)(a2:1<=a.cps.toList.length)(a3:a.length<=sizeLine)(e1:e.length<100000)(a5:Fg a=false)(E:Room 60 A){B:Shared}(z:RepF (V w j o u) [(h,A6 c b.length),(i,I (J e) p),(k,A5 D n),(c,I (b ++ .str a f::g) m)] [] F B)(y:∀l K P,Dn w.params true K->RepF (V w j o u) [(h,A6 c (b.length+1)),(i,I (J e) p),(k,A5 K P),(c,I (b ++ .str a f::g) m)] [] F l->codeAny (model pw w) A (KG M t h i k) R l):codeAny (model pw w) A (KG M t h i k) R B:=by
 have a8:=CQ O E (KG M t h i k) 51 0x10410030c3041041 [(λq=>AX h c b (.str a f) g m,[0,3],[]),(λq=>IB a f (C q 2) (C q 1),[4],[]),(λq=>AY (F9 a) ⟨⟨[45]⟩⟩ (C q 3) (C q 4) false,[],[])] [0,1,2,3] (GH (Av O) (EI a2 a3) (Ai O a5))
 cases a0 with
 |d0=>exact a8.1 (λr=>[(h,A6 c (b.length+1)),(i,I (J e) p),(k,A5 [en w.params Cv (r 0) (.str a f)] (n+1)),(c,I (b ++ .str a f::g) m)]) (m:=[(h,A6 c b.length),(i,I (J e) p),(k,A5 [] n),(c,I (b ++ .str a f::g) m)]) z λr l s=>y l _ (n+1) (.d1 (r 0) a f) s
 |d1 X c3 c2=>exact a8.1 (λr=>[(h,A6 c (b.length+1)),(i,I (J e) p),(k,A5 [en w.params Cv X (.str a f)] n),(c,I (b ++ .str a f::g) m)]) (m:=[(h,A6 c b.length),(i,I (J e) p),(k,A5 [en w.params Cv X (.str c3 c2)] n),(c,I (b ++ .str a f::g) m)]) z λr l s=>y l _ n (.d1 X a f) s
theorem T2{b g:List Value}{a:Str}{f p n:Nat}{e:List (Str×Nat)}{D:List DictEntry}{Q:Bool}(a0:Dn w.params Q D)(a2:1<=a.cps.toList.length)(a3:a.length<=sizeLine)(e1:e.length<100000)(a5:Fg a=true)(E:Room 60 A){B:Shared}(z:RepF (V w j o u) [(h,A6 c b.length),(i,I (J e) p),(k,A5 D n),(c,I (b ++ .str a f::g) m)] [] F B)(y:∀l K P c1,Dn w.params true K->RepF (V w j o u) [(h,A6 c (b.length+1)),(i,I (J (e++[(BG a,c1)])) (p+1)),(k,A5 K P),(c,I (b ++ .str a f::g) m)] [] F l->codeAny (model pw w) A (KG M t h i k) R l):codeAny (model pw w) A (KG M t h i k) R B:=by
 have a8:=CQ O E (KG M t h i k) 58 0x410400c30c10410c1041 [(λq=>AX h c b (.str a f) g m,[0,3],[]),(λq=>IB a f (C q 2) (C q 1),[4],[]),(λq=>AY (F9 a) ⟨⟨[45]⟩⟩ (C q 3) (C q 4) true,[],[]),(λq=>IS a f (C q 6) (C q 5),[5],[]),(λq=>AJ i (J e) p (.str (BG a) (C q 7)),[1],[])] [0,1,2,3] (Ir (Av O) (EI a2 a3) (Ai O a5) (EJ a2 a3) (Ag O (by rw[sizeLine_eq]; simp[J]; lia)))
 cases a0 with
 |d0=>exact a8.1 (λr=>[(h,A6 c (b.length+1)),(i,I (J e++[.str (BG a) (r 7)]) (p+1)),(k,A5 [en w.params Cv (r 0) (.str a f)] (n+1)),(c,I (b ++ .str a f::g) m)]) (m:=[(h,A6 c b.length),(i,I (J e) p),(k,A5 [] n),(c,I (b ++ .str a f::g) m)]) z λr l s=>y l _ (n+1) (r 7) (.d1 (r 0) a f) (by rw[show J (e++[(BG a,r 7)])=J e++[.str (BG a) (r 7)] by simp[J]]; exact s)
 |d1 X c3 c2=>exact a8.1 (λr=>[(h,A6 c (b.length+1)),(i,I (J e++[.str (BG a) (r 7)]) (p+1)),(k,A5 [en w.params Cv X (.str a f)] n),(c,I (b ++ .str a f::g) m)]) (m:=[(h,A6 c b.length),(i,I (J e) p),(k,A5 [en w.params Cv X (.str c3 c2)] n),(c,I (b ++ .str a f::g) m)]) z λr l s=>y l _ n (r 7) (.d1 X a f) (by rw[show J (e++[(BG a,r 7)])=J e++[.str (BG a) (r 7)] by simp[J]]; exact s)
theorem Uw{b g:List Value}{a:Str}{f p n:Nat}{e:List (Str×Nat)}{D:List DictEntry}{Q:Bool}(a0:Dn w.params Q D)(a2:1<=a.cps.toList.length)(a3:a.length<=sizeLine)(e1:e.length<100000)(a5:E7 a=false)(E:Room 60 A){B:Shared}(z:RepF (V w j o u) [(h,A6 c b.length),(i,I (J e) p),(k,A5 D n),(c,I (b ++ .str a f::g) m),(t,Bu (some (.ref x))),(x,I (J H) N)] [] F B)(y:∀l K P,Dn w.params true K->RepF (V w j o u) [(h,A6 c (b.length+1)),(i,I (J e) p),(k,A5 K P),(c,I (b ++ .str a f::g) m),(t,Bu (some (.ref x))),(x,I (J H) N)] [] F l->codeAny (model pw w) A (HS M t h i k) R l):codeAny (model pw w) A (HS M t h i k) R B:=by
 have a8:=CQ O E (HS M t h i k) 51 0x10410030c3041041 [(λq=>AX h c b (.str a f) g m,[0,3],[]),(λq=>IB a f (C q 2) (C q 1),[6],[]),(λq=>AY (F9 a) ⟨⟨[43]⟩⟩ (C q 3) (C q 4) false,[],[])] [0,1,2,3,4,5] (GH (Av O) (EI a2 a3) (Ai O a5))
 cases a0 with
 |d0=>exact a8.1 (λr=>[(h,A6 c (b.length+1)),(i,I (J e) p),(k,A5 [en w.params Cv (r 0) (.str a f)] (n+1)),(c,I (b ++ .str a f::g) m),(t,Bu (some (.ref x))),(x,I (J H) N)]) (m:=[(h,A6 c b.length),(i,I (J e) p),(k,A5 [] n),(c,I (b ++ .str a f::g) m),(t,Bu (some (.ref x))),(x,I (J H) N)]) z λr l s=>y l _ (n+1) (.d1 (r 0) a f) s
 |d1 X c3 c2=>exact a8.1 (λr=>[(h,A6 c (b.length+1)),(i,I (J e) p),(k,A5 [en w.params Cv X (.str a f)] n),(c,I (b ++ .str a f::g) m),(t,Bu (some (.ref x))),(x,I (J H) N)]) (m:=[(h,A6 c b.length),(i,I (J e) p),(k,A5 [en w.params Cv X (.str c3 c2)] n),(c,I (b ++ .str a f::g) m),(t,Bu (some (.ref x))),(x,I (J H) N)]) z λr l s=>y l _ n (.d1 X a f) s
theorem Uj{b g:List Value}{a:Str}{f p n:Nat}{e:List (Str×Nat)}{D:List DictEntry}{Q:Bool}(a0:Dn w.params Q D)(a2:1<=a.cps.toList.length)(a3:a.length<=sizeLine)(e1:e.length<100000)(a5:E7 a=true)(c7:AG (BG a) H=false)(E:Room 60 A){B:Shared}(z:RepF (V w j o u) [(h,A6 c b.length),(i,I (J e) p),(k,A5 D n),(c,I (b ++ .str a f::g) m),(t,Bu (some (.ref x))),(x,I (J H) N)] [] F B)(y:∀l K P,Dn w.params true K->RepF (V w j o u) [(h,A6 c (b.length+1)),(i,I (J e) p),(k,A5 K P),(c,I (b ++ .str a f::g) m),(t,Bu (some (.ref x))),(x,I (J H) N)] [] F l->codeAny (model pw w) A (HS M t h i k) R l):codeAny (model pw w) A (HS M t h i k) R B:=by
 have a8:=CQ O E (HS M t h i k) 63 0x10410030c3041043045186041 [(λq=>AX h c b (.str a f) g m,[0,3],[]),(λq=>IB a f (C q 2) (C q 1),[6],[]),(λq=>AY (F9 a) ⟨⟨[43]⟩⟩ (C q 3) (C q 4) true,[],[]),(λq=>IS a f (C q 6) (C q 5),[7],[]),(λq=>Af x H N (BG a) (C q 7) false,[5],[])] [0,1,2,3,4,5] (Ir (Av O) (EI a2 a3) (Ai O a5) (EJ a2 a3) (A7 O c7))
 cases a0 with
 |d0=>exact a8.1 (λr=>[(h,A6 c (b.length+1)),(i,I (J e) p),(k,A5 [en w.params Cv (r 0) (.str a f)] (n+1)),(c,I (b ++ .str a f::g) m),(t,Bu (some (.ref x))),(x,I (J H) N)]) (m:=[(h,A6 c b.length),(i,I (J e) p),(k,A5 [] n),(c,I (b ++ .str a f::g) m),(t,Bu (some (.ref x))),(x,I (J H) N)]) z λr l s=>y l _ (n+1) (.d1 (r 0) a f) s
 |d1 X c3 c2=>exact a8.1 (λr=>[(h,A6 c (b.length+1)),(i,I (J e) p),(k,A5 [en w.params Cv X (.str a f)] n),(c,I (b ++ .str a f::g) m),(t,Bu (some (.ref x))),(x,I (J H) N)]) (m:=[(h,A6 c b.length),(i,I (J e) p),(k,A5 [en w.params Cv X (.str c3 c2)] n),(c,I (b ++ .str a f::g) m),(t,Bu (some (.ref x))),(x,I (J H) N)]) z λr l s=>y l _ n (.d1 X a f) s
theorem UC{b g:List Value}{a:Str}{f p n:Nat}{e:List (Str×Nat)}{D:List DictEntry}{Q:Bool}(a0:Dn w.params Q D)(a2:1<=a.cps.toList.length)(a3:a.length<=sizeLine)(e1:e.length<100000)(a5:E7 a=true)(c7:AG (BG a) H=true)(E:Room 60 A){B:Shared}(z:RepF (V w j o u) [(h,A6 c b.length),(i,I (J e) p),(k,A5 D n),(c,I (b ++ .str a f::g) m),(t,Bu (some (.ref x))),(x,I (J H) N)] [] F B)(y:∀l K P c1,Dn w.params true K->RepF (V w j o u) [(h,A6 c (b.length+1)),(i,I (J (e++[(BG a,c1)])) (p+1)),(k,A5 K P),(c,I (b ++ .str a f::g) m),(t,Bu (some (.ref x))),(x,I (J H) N)] [] F l->codeAny (model pw w) A (HS M t h i k) R l):codeAny (model pw w) A (HS M t h i k) R B:=by
 have a8:=CQ O E (HS M t h i k) 70 0x410400c30c10410c11461810c1041 [(λq=>AX h c b (.str a f) g m,[0,3],[]),(λq=>IB a f (C q 2) (C q 1),[6],[]),(λq=>AY (F9 a) ⟨⟨[43]⟩⟩ (C q 3) (C q 4) true,[],[]),(λq=>IS a f (C q 6) (C q 5),[7],[]),(λq=>Af x H N (BG a) (C q 7) true,[5],[]),(λq=>IS a f (C q 9) (C q 8),[8],[]),(λq=>AJ i (J e) p (.str (BG a) (C q 10)),[1],[])] [0,1,2,3,4,5] (Fa (Av O) (EI a2 a3) (Ai O a5) (EJ a2 a3) (A7 O c7) (EJ a2 a3) (Ag O (by rw[sizeLine_eq]; simp[J]; lia)))
 cases a0 with
 |d0=>exact a8.1 (λr=>[(h,A6 c (b.length+1)),(i,I (J e++[.str (BG a) (r 10)]) (p+1)),(k,A5 [en w.params Cv (r 0) (.str a f)] (n+1)),(c,I (b ++ .str a f::g) m),(t,Bu (some (.ref x))),(x,I (J H) N)]) (m:=[(h,A6 c b.length),(i,I (J e) p),(k,A5 [] n),(c,I (b ++ .str a f::g) m),(t,Bu (some (.ref x))),(x,I (J H) N)]) z λr l s=>y l _ (n+1) (r 10) (.d1 (r 0) a f) (by rw[show J (e++[(BG a,r 10)])=J e++[.str (BG a) (r 10)] by simp[J]]; exact s)
 |d1 X c3 c2=>exact a8.1 (λr=>[(h,A6 c (b.length+1)),(i,I (J e++[.str (BG a) (r 10)]) (p+1)),(k,A5 [en w.params Cv X (.str a f)] n),(c,I (b ++ .str a f::g) m),(t,Bu (some (.ref x))),(x,I (J H) N)]) (m:=[(h,A6 c b.length),(i,I (J e) p),(k,A5 [en w.params Cv X (.str c3 c2)] n),(c,I (b ++ .str a f::g) m),(t,Bu (some (.ref x))),(x,I (J H) N)]) z λr l s=>y l _ n (r 10) (.d1 X a f) (by rw[show J (e++[(BG a,r 10)])=J e++[.str (BG a) (r 10)] by simp[J]]; exact s)
theorem Up{b g:List Value}{a:Str}{f p n:Nat}{e:List (Str×Nat)}{D:List DictEntry}{Q:Bool}(a0:Dn w.params Q D)(a2:1<=a.cps.toList.length)(a3:a.length<=sizeLine)(e1:e.length<100000)(E:Room 60 A){B:Shared}(z:RepF (V w j o u) [(h,A6 c b.length),(i,I (J e) p),(k,A5 D n),(c,I (b ++ .str a f::g) m)] [] F B)(y:∀l K P c1,Dn w.params true K->RepF (V w j o u) [(h,A6 c (b.length+1)),(i,I (J (e++[(BG a,c1)])) (p+1)),(k,A5 K P),(c,I (b ++ .str a f::g) m)] [] F l->codeAny (model pw w) A (Ps M t h i k) R l):codeAny (model pw w) A (Ps M t h i k) R B:=by
 have a8:=CQ O E (Ps M t h i k) 48 0x410400c30c1041 [(λq=>AX h c b (.str a f) g m,[0,3],[]),(λq=>IS a f (C q 2) (C q 1),[4],[]),(λq=>AJ i (J e) p (.str (BG a) (C q 3)),[1],[])] [0,1,2,3] (GH (Av O) (EJ a2 a3) (Ag O (by rw[sizeLine_eq]; simp[J]; lia)))
 cases a0 with
 |d0=>exact a8.1 (λr=>[(h,A6 c (b.length+1)),(i,I (J e++[.str (BG a) (r 3)]) (p+1)),(k,A5 [en w.params Cv (r 0) (.str a f)] (n+1)),(c,I (b ++ .str a f::g) m)]) (m:=[(h,A6 c b.length),(i,I (J e) p),(k,A5 [] n),(c,I (b ++ .str a f::g) m)]) z λr l s=>y l _ (n+1) (r 3) (.d1 (r 0) a f) (by rw[show J (e++[(BG a,r 3)])=J e++[.str (BG a) (r 3)] by simp[J]]; exact s)
 |d1 X c3 c2=>exact a8.1 (λr=>[(h,A6 c (b.length+1)),(i,I (J e++[.str (BG a) (r 3)]) (p+1)),(k,A5 [en w.params Cv X (.str a f)] n),(c,I (b ++ .str a f::g) m)]) (m:=[(h,A6 c b.length),(i,I (J e) p),(k,A5 [en w.params Cv X (.str c3 c2)] n),(c,I (b ++ .str a f::g) m)]) z λr l s=>y l _ n (r 3) (.d1 X a f) (by rw[show J (e++[(BG a,r 3)])=J e++[.str (BG a) (r 3)] by simp[J]]; exact s)
theorem RE{a7:List Value}{p n:Nat}{e:List (Str×Nat)}{D:List DictEntry}(E:Room 60 A){B:Shared}(z:RepF (V w j o u) [(h,A6 c a7.length),(i,I (J e) p),(k,A5 D n),(c,I a7 m)] [] F B)(y:∀l,RepF (V w j o u) [(h,B1 a7.length),(i,I (J e) p),(k,A5 D n),(c,I a7 m)] [] F l->R (.ok .next) l):codeAny (model pw w) A (KG M t h i k) R B:=
 Ck O E _ 60 0x41045 [(λq=>Cm h c a7 m,[0,3],[])] [0,1,2,3] (Bo (Bw O)) (λ_=>[(h,B1 a7.length),(i,I (J e) p),(k,A5 D n),(c,I a7 m)]) z λr l s=>y l s
theorem Jr:∀(g b:List (Str×Nat)) {e:List (Str×Nat)} {p n:Nat} {D:List DictEntry} {Q:Bool},Dn w.params Q D->Er g->e.length+g.length<100000->∀{A:Around},Room 60 A->∀{F:AK} {B:Shared} {R:RP},
  RepF (V w j o u) [(h,A6 c (J b).length),(i,I (J e) p),(k,A5 D n),(c,I (J b++J g) m)] [] F B ->
  (∀l S a1 K P,S.map (·.1)=e.map (·.1)++DT (g.map (·.1))->Dn w.params (Q || !g.isEmpty) K->RepF (V w j o u) [(h,B1 (J b++J g).length),(i,I (J S) a1),(k,A5 K P),(c,I (J b++J g) m)] [] F l->R (.ok .next) l)->codeAny (model pw w) A (KG M t h i k) R B:=by
 intro e5
 induction e5 with
 |nil=>
  intro b e p n D Q a0 _ _ A E F B R z y
  have d7:J b++J []=J b:=List.append_nil _
  rw[d7] at z y
  exact RE O E z λl s=>y l e p D n (List.append_nil _).symm (by simpa using a0) s
 |cons e4 g e3=>
  obtain⟨a,f⟩:=e4
  intro b e p n D Q a0 b2 b7 A E F B R z y
  simp only[List.length_cons] at b7
  obtain⟨a2,a3⟩:=b2 _ (List.mem_cons_self ..)
  have d4:Er g:=λb1 d5=>b2 b1 (List.mem_cons_of_mem _ d5)
  have d3:J b ++ .str a f::J g=J (b++[(a,f)])++J g:=by simp[J]
  have d2:((J b).length:Int)+1=((J (b++[(a,f)])).length:Int):=by simp[J]
  have d9:J b++J ((a,f)::g)=J (b++[(a,f)])++J g:=by simp[J]
  rw[d9] at y
  cases a5:Fg a with
  |false=>
   refine Ue O (b:=J b) (g:=J g) a0 a2 a3 (by lia) a5 E z λl K P a6 s=>?_
   rw[d3,d2] at s
   refine e3 (b++[(a,f)]) (e:=e) a6 d4 (by exact Nat.le_of_lt ‹_›) E s λc0 S a1 b4 b9 a4 b6 b8=>y c0 S a1 b4 b9 ?_ (by simpa using b6) b8
   rw[a4]
   simp[DT,a5]
  |true=>
   refine T2 O (b:=J b) (g:=J g) a0 a2 a3 (by lia) a5 E z λl K P c1 a6 s=>?_
   rw[d3,d2] at s
   refine e3 (b++[(a,f)]) (e:=(e++[(BG a,c1)])) a6 d4 (by simp; lia) E s λc0 S a1 b4 b9 a4 b6 b8=>y c0 S a1 b4 b9 ?_ (by simpa using b6) b8
   rw[a4]
   simp[DT,a5]
theorem Sp{a7:List Value}{p n:Nat}{e:List (Str×Nat)}{D:List DictEntry}(E:Room 60 A){B:Shared}(z:RepF (V w j o u) [(h,A6 c a7.length),(i,I (J e) p),(k,A5 D n),(c,I a7 m),(t,Bu (some (.ref x))),(x,I (J H) N)] [] F B)(y:∀l,RepF (V w j o u) [(h,B1 a7.length),(i,I (J e) p),(k,A5 D n),(c,I a7 m),(t,Bu (some (.ref x))),(x,I (J H) N)] [] F l->R (.ok .next) l):codeAny (model pw w) A (HS M t h i k) R B:=
 Ck O E _ 60 0x41047 [(λq=>Cm h c a7 m,[0,3],[])] [0,1,2,3,4,5] (Bo (Bw O)) (λ_=>[(h,B1 a7.length),(i,I (J e) p),(k,A5 D n),(c,I a7 m),(t,Bu (some (.ref x))),(x,I (J H) N)]) z λr l s=>y l s
theorem Hi:∀(g b:List (Str×Nat)) {e:List (Str×Nat)} {p n:Nat} {D:List DictEntry} {Q:Bool},Dn w.params Q D->Er g->e.length+g.length<100000->∀{A:Around},Room 60 A->∀{F:AK} {B:Shared} {R:RP},
  RepF (V w j o u) [(h,A6 c (J b).length),(i,I (J e) p),(k,A5 D n),(c,I (J b++J g) m),(t,Bu (some (.ref x))),(x,I (J H) N)] [] F B ->
  (∀l S a1 K P,S.map (·.1)=e.map (·.1)++boF (H.map (·.1)) (g.map (·.1))->Dn w.params (Q || !g.isEmpty) K->RepF (V w j o u) [(h,B1 (J b++J g).length),(i,I (J S) a1),(k,A5 K P),(c,I (J b++J g) m),(t,Bu (some (.ref x))),(x,I (J H) N)] [] F l->R (.ok .next) l)->codeAny (model pw w) A (HS M t h i k) R B:=by
 intro e5
 induction e5 with
 |nil=>
  intro b e p n D Q a0 _ _ A E F B R z y
  have d7:J b++J []=J b:=List.append_nil _
  rw[d7] at z y
  exact Sp O E z λl s=>y l e p D n (List.append_nil _).symm (by simpa using a0) s
 |cons e4 g e3=>
  obtain⟨a,f⟩:=e4
  intro b e p n D Q a0 b2 b7 A E F B R z y
  simp only[List.length_cons] at b7
  obtain⟨a2,a3⟩:=b2 _ (List.mem_cons_self ..)
  have d4:Er g:=λb1 d5=>b2 b1 (List.mem_cons_of_mem _ d5)
  have d3:J b ++ .str a f::J g=J (b++[(a,f)])++J g:=by simp[J]
  have d2:((J b).length:Int)+1=((J (b++[(a,f)])).length:Int):=by simp[J]
  have d9:J b++J ((a,f)::g)=J (b++[(a,f)])++J g:=by simp[J]
  rw[d9] at y
  cases a5:E7 a with
  |false=>
   refine Uw O (b:=J b) (g:=J g) a0 a2 a3 (by lia) a5 E z λl K P a6 s=>?_
   rw[d3,d2] at s
   refine e3 (b++[(a,f)]) (e:=e) a6 d4 (by exact Nat.le_of_lt ‹_›) E s λc0 S a1 b4 b9 a4 b6 b8=>y c0 S a1 b4 b9 ?_ (by simpa using b6) b8
   rw[a4]
   simp[boF,a5]
  |true=>
   cases c7:AG (BG a) H with
   |false=>
    have e0:EO (BG a) (H.map (·.1))=false:=(F6 _ _).symm.trans c7
    refine Uj O (b:=J b) (g:=J g) a0 a2 a3 (by lia) a5 c7 E z λl K P a6 s=>?_
    rw[d3,d2] at s
    refine e3 (b++[(a,f)]) (e:=e) a6 d4 (by exact Nat.le_of_lt ‹_›) E s λc0 S a1 b4 b9 a4 b6 b8=>y c0 S a1 b4 b9 ?_ (by simpa using b6) b8
    rw[a4]
    simp[boF,a5,e0]
   |true=>
    have e0:EO (BG a) (H.map (·.1))=true:=(F6 _ _).symm.trans c7
    refine UC O (b:=J b) (g:=J g) a0 a2 a3 (by lia) a5 c7 E z λl K P c1 a6 s=>?_
    rw[d3,d2] at s
    refine e3 (b++[(a,f)]) (e:=(e++[(BG a,c1)])) a6 d4 (by simp; lia) E s λc0 S a1 b4 b9 a4 b6 b8=>y c0 S a1 b4 b9 ?_ (by simpa using b6) b8
    rw[a4]
    simp[boF,a5,e0]
theorem RQ{a7:List Value}{p n:Nat}{e:List (Str×Nat)}{D:List DictEntry}(E:Room 60 A){B:Shared}(z:RepF (V w j o u) [(h,A6 c a7.length),(i,I (J e) p),(k,A5 D n),(c,I a7 m)] [] F B)(y:∀l,RepF (V w j o u) [(h,B1 a7.length),(i,I (J e) p),(k,A5 D n),(c,I a7 m)] [] F l->R (.ok .next) l):codeAny (model pw w) A (Ps M t h i k) R B:=
 Ck O E _ 60 0x41045 [(λq=>Cm h c a7 m,[0,3],[])] [0,1,2,3] (Bo (Bw O)) (λ_=>[(h,B1 a7.length),(i,I (J e) p),(k,A5 D n),(c,I a7 m)]) z λr l s=>y l s
theorem MI:∀(g b:List (Str×Nat)) {e:List (Str×Nat)} {p n:Nat} {D:List DictEntry} {Q:Bool},Dn w.params Q D->Er g->e.length+g.length<100000->∀{A:Around},Room 60 A->∀{F:AK} {B:Shared} {R:RP},
  RepF (V w j o u) [(h,A6 c (J b).length),(i,I (J e) p),(k,A5 D n),(c,I (J b++J g) m)] [] F B ->
  (∀l S a1 K P,S.map (·.1)=e.map (·.1)++FS (g.map (·.1))->Dn w.params (Q || !g.isEmpty) K->RepF (V w j o u) [(h,B1 (J b++J g).length),(i,I (J S) a1),(k,A5 K P),(c,I (J b++J g) m)] [] F l->R (.ok .next) l)->codeAny (model pw w) A (Ps M t h i k) R B:=by
 intro e5
 induction e5 with
 |nil=>
  intro b e p n D Q a0 _ _ A E F B R z y
  have d7:J b++J []=J b:=List.append_nil _
  rw[d7] at z y
  exact RQ O E z λl s=>y l e p D n (List.append_nil _).symm (by simpa using a0) s
 |cons e4 g e3=>
  obtain⟨a,f⟩:=e4
  intro b e p n D Q a0 b2 b7 A E F B R z y
  simp only[List.length_cons] at b7
  obtain⟨a2,a3⟩:=b2 _ (List.mem_cons_self ..)
  have d4:Er g:=λb1 d5=>b2 b1 (List.mem_cons_of_mem _ d5)
  have d3:J b ++ .str a f::J g=J (b++[(a,f)])++J g:=by simp[J]
  have d2:((J b).length:Int)+1=((J (b++[(a,f)])).length:Int):=by simp[J]
  have d9:J b++J ((a,f)::g)=J (b++[(a,f)])++J g:=by simp[J]
  rw[d9] at y
  refine Up O (b:=J b) (g:=J g) a0 a2 a3 (by lia)  E z λl K P c1 a6 s=>?_
  rw[d3,d2] at s
  refine e3 (b++[(a,f)]) (e:=(e++[(BG a,c1)])) a6 d4 (by simp; lia) E s λc0 S a1 b4 b9 a4 b6 b8=>y c0 S a1 b4 b9 ?_ (by simpa using b6) b8
  rw[a4]
  simp[FS]
end
noncomputable def R6(b0:Params)(M t h i k c m:Nat)(G:List (Str×Nat))(b3:Bool):Spec:=
 {code:=.compStart PC 0 (.ref h) (.ref i) (HE PC (BS M t) k),d:=60,nf:=6,fp:=[(h,A6 c 0),(i,I [] 0),(k,A5 [] 0),(c,I (J G) m)],
  upd:=λT=>[B1 (G.length:Nat),I (J (toks (DT (G.map (·.1))) (W 0 T 0))) (W 0 T 1),A5 (MW b0 b3 T 2) (W 0 T 5),I (J G) m],res:=λ_=>.ok .next}
theorem He{w:World}{j:Heap}{o:Obj}{u:OsState}(O:(V w j o u).Ok){M t h i k c m x N:Nat}{H G:List (Str×Nat)}{b3:Bool}(b2:Er G)(b7:G.length<100000)(e2:b3 = !G.isEmpty):(R6 w.params M t h i k c m G b3).Ok (V w j o u):=Spec.of_code (λ_=>rfl) (λ_=>rfl) λA E F B R z y=>BQ QK (d:=0) (RepF.get0 z) (by
 refine Jr O G [] (e:=[]) .d0 b2 (by simpa using b7) E z λl S a1 K P a4 a6 s=>?_
 subst e2
 obtain⟨c8,c9⟩:=Dz S
 have a4:S.map (·.1)=DT (G.map (·.1)):=a4
 rw[a4] at c9
 have a6:Dn w.params (!G.isEmpty) K:=by simpa using a6
 obtain⟨c4,c5,c6,b5⟩:=Jh a6
 have d8:((J []++J G).length:Nat)=G.length:=by simp[J]
 refine y [c8,a1,c4,c5,c6,P] l rfl ?_
 have b5:=b5 [c8,a1,c4,c5,c6,P] 2 rfl rfl rfl
 rw[d8,<-c9,<-b5] at s
 exact s)
noncomputable def QH(b0:Params)(M t h i k c m:Nat)(x N:Nat)(H:List (Str×Nat))(G:List (Str×Nat))(b3:Bool):Spec:=
 {code:=.compStart Ov 0 (.ref h) (.ref i) (Px Ov (BS M t) k [(PE,t)]),d:=60,nf:=6,fp:=[(h,A6 c 0),(i,I [] 0),(k,A5 [] 0),(c,I (J G) m),(t,Bu (some (.ref x))),(x,I (J H) N)],
  upd:=λT=>[B1 (G.length:Nat),I (J (toks (boF (H.map (·.1)) (G.map (·.1))) (W 0 T 0))) (W 0 T 1),A5 (MW b0 b3 T 2) (W 0 T 5),I (J G) m,Bu (some (.ref x)),I (J H) N],res:=λ_=>.ok .next}
theorem Hh{w:World}{j:Heap}{o:Obj}{u:OsState}(O:(V w j o u).Ok){M t h i k c m x N:Nat}{H G:List (Str×Nat)}{b3:Bool}(b2:Er G)(b7:G.length<100000)(e2:b3 = !G.isEmpty):(QH w.params M t h i k c m x N H G b3).Ok (V w j o u):=Spec.of_code (λ_=>rfl) (λ_=>rfl) λA E F B R z y=>BQ QY (d:=0) (RepF.get0 z) (by
 refine Hi O G [] (e:=[]) .d0 b2 (by simpa using b7) E z λl S a1 K P a4 a6 s=>?_
 subst e2
 obtain⟨c8,c9⟩:=Dz S
 have a4:S.map (·.1)=boF (H.map (·.1)) (G.map (·.1)):=a4
 rw[a4] at c9
 have a6:Dn w.params (!G.isEmpty) K:=by simpa using a6
 obtain⟨c4,c5,c6,b5⟩:=Jh a6
 have d8:((J []++J G).length:Nat)=G.length:=by simp[J]
 refine y [c8,a1,c4,c5,c6,P] l rfl ?_
 have b5:=b5 [c8,a1,c4,c5,c6,P] 2 rfl rfl rfl
 rw[d8,<-c9,<-b5] at s
 exact s)
noncomputable def UL(b0:Params)(M t h i k c m:Nat)(G:List (Str×Nat))(b3:Bool):Spec:=
 {code:=.compStart Jk 0 (.ref h) (.ref i) (HE Jk (BS M t) k),d:=60,nf:=6,fp:=[(h,A6 c 0),(i,I [] 0),(k,A5 [] 0),(c,I (J G) m)],
  upd:=λT=>[B1 (G.length:Nat),I (J (toks (FS (G.map (·.1))) (W 0 T 0))) (W 0 T 1),A5 (MW b0 b3 T 2) (W 0 T 5),I (J G) m],res:=λ_=>.ok .next}
theorem Qe{w:World}{j:Heap}{o:Obj}{u:OsState}(O:(V w j o u).Ok){M t h i k c m x N:Nat}{H G:List (Str×Nat)}{b3:Bool}(b2:Er G)(b7:G.length<100000)(e2:b3 = !G.isEmpty):(UL w.params M t h i k c m G b3).Ok (V w j o u):=Spec.of_code (λ_=>rfl) (λ_=>rfl) λA E F B R z y=>BQ PV (d:=0) (RepF.get0 z) (by
 refine MI O G [] (e:=[]) .d0 b2 (by simpa using b7) E z λl S a1 K P a4 a6 s=>?_
 subst e2
 obtain⟨c8,c9⟩:=Dz S
 have a4:S.map (·.1)=FS (G.map (·.1)):=a4
 rw[a4] at c9
 have a6:Dn w.params (!G.isEmpty) K:=by simpa using a6
 obtain⟨c4,c5,c6,b5⟩:=Jh a6
 have d8:((J []++J G).length:Nat)=G.length:=by simp[J]
 refine y [c8,a1,c4,c5,c6,P] l rfl ?_
 have b5:=b5 [c8,a1,c4,c5,c6,P] 2 rfl rfl rfl
 rw[d8,<-c9,<-b5] at s
 exact s)
end
section
noncomputable abbrev UT(d:Params)(ga b:Nat)(s t:Value)(a g h i Y k l m n q r:Nat)(c:Int)(x p e f:Nat):Spec:=Q6 d ga b s t a g h i Y k l m n q r c x p e f [] [] []
noncomputable abbrev Th(d:Params)(ga b:Nat)(s t:Value)(a g h i Y k l m n q r:Nat)(c:Int)(x p e f:Nat)(E G:List (Str×Nat)):Spec:=Q6 d ga b s t a g h i Y k l m n q r c x p e f E G []
noncomputable abbrev Ra(d:Params)(ga b:Nat)(s t:Value)(a g h i Y k l m n q r:Nat)(c:Int)(x p e f:Nat)(E G:List (Str×Nat))(S T X:Str)(P:List Str):Spec:=Q6 d ga b s t a g h i Y k l m n q r c x p e f E G (S::T::X::P)
noncomputable abbrev Rj(d:Params)(a b B y z H c:Nat):Spec:=R6 d a b B y z H c [] false
noncomputable abbrev R8(d:Params)(a b B y z H c Q a1:Nat):Spec:=QH d a b B y z H c Q a1 [] [] false
noncomputable abbrev Pc(D c K:Nat)(a0:Int)(L:Nat):Spec:=BD D c K [] a0 L
noncomputable abbrev Ow(D c K:Nat):Spec:=GX D c K []
noncomputable abbrev UR(a3 M N a2 e f:Nat):Spec:=Q1 a3 M N a2 e f [] [] []
noncomputable def PS(a b:Nat):Sem Fin:=GL (BS a b) [Jo 5,Jo 6]
noncomputable def K2(a b:Nat):Sem Fin:=GL (BS a b) [Jo 6]
end
section
section
variable{g:Model}{A:Around}{f:Code}{m:Env}{b:Shared}
theorem Dp{α:Type}{H:α}{c:α->Shared->Prop}{d:VP}(a:c H b):wpOwn g A f (pure H) c d b:=wpOwn_of_wpAny (wpAny_pure a)
theorem Ku{α:Type}{k:Sem α}{a:Value->Sem Unit}{c:α->Shared->Prop}{d:VP}(E:wpOwn g A f k c (λ_ _=>False) b):wpOwn g A f (k.onRaise a) c d b:=by
 intro Γ l D aΓ
 rw[Sem.wp_onRaise]
 exact Sem.wp_mono g Γ _ (λ_ _ _ c7=>c7) (λ_ _ _ i=>i.elim) _ _ (E Γ l D aΓ)
theorem Ja{α:Type}{c6:List Value}{k:Sem α}{c:α->Shared->Prop}{d:VP}(E:wpOwn g A f k c d b):wpOwn g A f (holding c6 k) c d b:=by
 intro Γ l D aΓ
 rw[Sem.wp_holding]
 exact E Γ l D aΓ
theorem Fe{p:PySem.Expr}{a1:CmpOp}{a2:PySem.Expr}{l:Pos}{c d:VP}(a:wpOwn g A f (eval p m) (λH t=>wpOwn g A f (eval a2 m) (λe a5=>wpOwn g A f (compareOp a1 H e) c d a5) d t) d b)(a9:behindInMarks a1 a2=false):wpOwn g A f (eval (.Compare p [a1] [a2] l) m) c d b:=fun Γ l D aΓ=>by
 simp only[eval_Compare1,markedBehindIn_of_false a9,Sem.wp_bind',Sem.wp_holding,Sem.wp_cmd_standAt,Sem.wp_operate]
 exact Sem.wp_mono g Γ _ (λH c5 t x=>Sem.wp_mono g Γ _ (λe _ a5 b2=>b2 Γ _ D aΓ) (λ_ _ _ X=>X) _ _ (x Γ c5 D aΓ))
  (λ_ _ _ X=>X) _ _ (a Γ l D aΓ)
theorem Os{z G:PySem.Expr}{l:Pos}{c d:VP}(a:wpOwn g A f (eval z m) (λh t=>h = .bool true/\wpOwn g A f (eval G m) c d t) d b):wpOwn g A f (eval (.BoolOp .And [z,G] l) m) c d b:=by
 show wpOwn g A f (do
  let h <-eval z m
  standAt l
  let f <-holding [h] (truthy h)
  match BoolOp.And,f with
  |.And,false |.Or,true=>pure h
  |_,_=>boolOp l .And [eval G m]) c d b
 refine wpOwn_bind (wpOwn_mono a (λh t x=>?_) λ_ _ E=>E)
 obtain⟨rfl,x⟩:=x
 refine wpOwn_bind (wpOwn_of_wpAny (wpAny_standAt ?_))
 refine wpOwn_bind (wpOwn_of_wpAny (wpAny_holding (wpAny_truthy_bool ?_)))
 exact x
theorem M0{a3 e o:PySem.Expr}{l:Pos}{c d:VP}(a:wpOwn g A f (isTrue a3 m (eval a3 m)) (λh t=>wpOwn g A f (eval (if h then e else o) m) c d t) d b):wpOwn g A f (eval (.IfExp a3 e o l) m) c d b:=by
 rw[eval_IfExp]
 refine wpOwn_bind (wpOwn_mono a (λh t x=>?_) λ_ _ E=>E)
 cases h with
 |true=>exact x
 |false=>exact x
end
theorem Pm{w:World}{f:Code}{m:Env}{T:PySem.Expr}{l:Pos}{b:Shared}(a:wpOwn (model pw w) A f (eval T m) (λh t=>R (.ok (.ret h)) t) (λ_ _=>False) b):wpOwn (model pw w) A f (GL m [.Return (some T) l]) (postC pw w A R) (postE R) b:=by
 rw[GJ]
 refine wpOwn_bind (Ku ?_)
 rw[arm_execs_cons]
 refine wpOwn_bind ?_
 rw[arm_exec_Return]
 refine wpOwn_bind (wpOwn_of_wpAny (wpAny_standAt ?_))
 show wpOwn _ _ _ (eval T m>>=λh=>pure (Flow.ret h)) _ _ _
 refine wpOwn_bind (wpOwn_mono a (λh t x=>?_) λ_ _ i=>i)
 refine Dp ?_
 refine Dp ?_
 show wpOwn _ _ _ (ret h) _ _ _
 exact Dp x
noncomputable def D0:Str:=S [98,111,116,104]
noncomputable def Dd:Str:=S [109,101,114,103,101,100]
noncomputable def LJ:Str:=S [114,111,119,115]
noncomputable def Jn:Stmt->List Pos
 |.Return (some (.BoolOp _ [.Compare (.Name _ b3) _ [.List _ b4] b7,.Compare (.Name _ b8) _ [.IfExp (.Compare (.Name _ b9) _ [.Name _ c0] c1) _ (.Name _ c2) c3] c4] b5)) b6=>[b3,b4,b7,b8,b9,c0,c1,c2,c3,c4,b5,b6]
 |_=>[]
noncomputable def HC(p:List Pos)(K:Nat):Pos:=W default p K
theorem Vk:∃b3 b4 b7 b8 b9 c0 c1 c2 c3 c4 b5 b6,Jo 6 = .Return (some (.BoolOp .And [.Compare (.Name D0 b3) [.Eq] [.List [] b4] b7,.Compare (.Name Dd b8) [.Eq] [.IfExp (.Compare (.Name AF b9) [.NotEq] [.Name Ax c0] c1) Jk (.Name AF c2) c3] c4] b5)) b6:=
 ⟨HC (Jn (Jo 6)) 0,HC (Jn (Jo 6)) 1,HC (Jn (Jo 6)) 2,HC (Jn (Jo 6)) 3,HC (Jn (Jo 6)) 4,HC (Jn (Jo 6)) 5,HC (Jn (Jo 6)) 6,HC (Jn (Jo 6)) 7,HC (Jn (Jo 6)) 8,HC (Jn (Jo 6)) 9,HC (Jn (Jo 6)) 10,HC (Jn (Jo 6)) 11,by kernel_rfl⟩
theorem JU(i n:Nat):(BS i n).scope.kind = .function:=by kernel_rfl
theorem MG(i n:Nat):(BS i n).kindOf D0=some .local:=by kernel_rfl
theorem Q3(i n:Nat):(BS i n).kindOf Dd=some .local:=by kernel_rfl
theorem Mr(i n:Nat):(BS i n).kindOf AF=some .local:=by kernel_rfl
theorem QF(i n:Nat):(BS i n).kindOf Ax=some .local:=by kernel_rfl
theorem Dr{w:World}{i n:Nat}{s:Str}{l:Pos}{h:Value}{a4:Obj}{c d:VP}{b:Shared}(y:(BS i n).kindOf s=some .local)(c9:(s==("__debug__" : Str))=false)(b1:b.heap.get? i=some a4)(b0:nsLook s a4 = .pure (some h))(a:c h b) :
  wpAny (model pw w) A (eval (.Name s l) (BS i n)) c d b:=by
 rw[arm_eval_Name]
 refine wpAny_bind (wpAny_standAt ?_)
 rw[c9]
 exact H2 (JU i n) y b1 b0 a
theorem HR{w:World}{a6:Cx}(c8:a6.w=w){p e s k:Nat}{q r:List (Str×Nat)}{c d:VP}{b:Shared}(N:A.units<cLine)(y:b.heap.get? p=some (I (J q) s))(B:b.heap.get? e=some (I (J r) k))(a:c (.bool (E6 q r)) b) :
  wpAny (model pw w) A (compareOp .Eq (.ref p) (.ref e)) c d b:=by
 have z:(⟨J q⟩:Array Value).size=q.length:=by simp[J]
 have G:(⟨J r⟩:Array Value).size=r.length:=by simp[J]
 show wpAny _ _ (richCompare .Eq (.ref p) (.ref e)) _ _ _
 by_cases M:q.length=r.length
 ·refine richCompare_meets_room ⟨_,y,rfl⟩ ⟨_,B,rfl⟩ F.slot_list_eq F.entry_list_eq (F.args_list_eq_2 _ _) (MeetsSeq3.list_eq p e ⟨J q⟩ ⟨J r⟩ s k (by rw[z,G,M]) (λa0=>(As q a0).1.cps.toList==(As r a0).1.cps.toList) (λa0 a7 a8=>by
   rw[MS a7,MS a8]
   exact SeqRoads2.EqGives.str _ _ _ _)) ⟨y,B,?_⟩ N
  rw[z,NV M]
  exact⟨by simp,a⟩
 ·refine richCompare_meets_room ⟨_,y,rfl⟩ ⟨_,B,rfl⟩ F.slot_list_eq F.entry_list_eq (F.args_list_eq_2 _ _) (AutoSeq1.list___eq___list_list_0 p ⟨J q⟩ s e ⟨J r⟩ k (by rw[z,G]; simpa using M)) ⟨y,B,?_⟩ N
  rw[JJ M] at a
  exact⟨by simp,a⟩
theorem NW{w:World}{p e s k:Nat}{q r:List (Str×Nat)}{c d:VP}{b:Shared}(N:A.units<cLine)(y:b.heap.get? p=some (I (J q) s))(B:b.heap.get? e=some (I (J r) k))(a:c (.bool (!E6 q r)) b) :
  wpAny (model pw w) A (compareOp .NotEq (.ref p) (.ref e)) c d b:=by
 show wpAny _ _ (richCompare .NotEq (.ref p) (.ref e)) _ _ _
 exact richCompare_meets_room ⟨_,y,rfl⟩ ⟨_,B,rfl⟩ F.slot_list_ne F.entry_list_ne (F.args_list_ne_2 _ _) (Oq p e s k q r) ⟨y,B,⟨by simp,a⟩⟩ N
end
section
noncomputable def II(a:Params)(m n p f E g h i k l x e:Nat):Obj:=Bl [en a AM g (.ref 286),en a Ax h (.ref n),en a AF i (.ref m),en a LJ k (.ref p),en a D0 l (.ref f),en a Dd x (.ref E)] e
noncomputable def Es(a:Params)(m n p f:Nat)(d:Int)(g h i y z B D H K L M k l e:Nat):Obj:=Bl [en a AM g (.ref 286),en a Ax h (.ref n),en a AF i (.ref m),
 en a nX y (.int d H),en a CH z (.int (d.fdiv 4) K),en a CD B (.int (d.fmod 4) L),en a Bq D (.str (A0 d) M),en a LJ k (.ref p),en a D0 l (.ref f)] e
noncomputable def DM(a:Params)(m n p f E:Nat)(d:Int)(g h i y z B D H K L M k l x e:Nat):Obj:=Bl [en a AM g (.ref 286),en a Ax h (.ref n),en a AF i (.ref m),
 en a nX y (.int d H),en a CH z (.int (d.fdiv 4) K),en a CD B (.int (d.fmod 4) L),en a Bq D (.str (A0 d) M),en a LJ k (.ref p),en a D0 l (.ref f),en a Dd x (.ref E)] e
noncomputable abbrev PQ(e:PySem.Expr)(c:Env):Sem Value:=PySem.W.Fast.tw14044960220447912780 e c
noncomputable def RT(e:PySem.Expr)(c:Env):Sem Fin:=PySem.W.R.bindR (PQ e c) λb=>.pure (.done (.ret b))
theorem QG(e:PySem.Expr)(c:Env):RT e c=(eval e c).bind λb=>.pure (.done (.ret b)):=by
 unfold RT PQ
 rw[<-PySem.W.R.bindR_eq,<-PySem.W.Fast.te14044960220447912780]
theorem own_sim{w:World}{P:Code}{e:PySem.Expr}{c:Env}{r:VP}{S:Shared}(t:wpOwn (model pw w) A P (RT e c) (postC pw w A λG q=>∃b,G = .ok (.ret b)/\r b q) (postE λG q=>∃b,G = .ok (.ret b)/\r b q) S) :
  wpOwn (model pw w) A P (eval e c) r (λ_ _=>False) S:=by
 intro Γ a5 a3 tΓ
 have T:=t Γ a5 a3 tΓ
 rw[QG,Sem.wp_bind] at T
 refine Sem.wp_mono _ Γ _ (λb a7 q N=>?_) (λb _ q N=>?_) _ _ T
 ·obtain⟨a6,s,Q⟩:=N
  cases s
  exact Q
 ·obtain⟨a6,s,Q⟩:=N
  cases s
noncomputable def E5(a1 a2:Nat):Code:=.func (B2 (C2 13)) (BS a1 a2)
noncomputable def Uc:Stmt->List Stmt
 |.Try a0 _ _ _ _=>a0
 |_=>[]
noncomputable def Tw(a4:Nat):PySem.Expr->PySem.Expr
 |.Call _ X _ _=>W (.Constant .none 0 default) X a4
 |e=>e
noncomputable def SR:PySem.Expr:=Tw 0 (MT (W B6 (Uc (Jo 5)) 0))
end
section
theorem Gu(a:Nat)(x:Str):((⟨⟨[a]⟩⟩:Str)++x).cps.toList=a::x.cps.toList:=by
 show((⟨[a]⟩:Array Nat)++x.cps).toList=_
 rw[Array.toList_append]; rfl
theorem E9(n:Nat)(x:Str):F9 (AV n++x)=AV n:=by
 unfold AV
 split <;> (unfold F9; rw[Gu]; rfl)
theorem JT(n:Nat)(x:Str):BG (AV n++x)=x:=by
 unfold AV
 split <;> (unfold BG; rw[Gu]; rfl)
theorem Mo(x:Str):Fg (AV 0++x)=false:=by unfold Fg; rw[E9]; rfl
theorem Qj(x:Str):Fg (AV 1++x)=true:=by unfold Fg; rw[E9]; rfl
theorem Qi(x:Str):Fg (AV 2++x)=false:=by unfold Fg; rw[E9]; rfl
theorem MY(x:Str):E7 (AV 0++x)=false:=by unfold E7; rw[E9]; rfl
theorem Qq(x:Str):E7 (AV 1++x)=false:=by unfold E7; rw[E9]; rfl
theorem R0(x:Str):E7 (AV 2++x)=true:=by unfold E7; rw[E9]; rfl
theorem JP{α β:Type}{Q:β->Bool}{y:α->β}(g:∀x,Q (y x)=true)(p:List α):(p.map y).filter Q=p.map y:=List.filter_eq_self.mpr λf a7=>by
 obtain⟨x,_,rfl⟩:=List.mem_map.mp a7
 exact g x
theorem Cn{α β:Type}{Q:β->Bool}{y:α->β}(g:∀x,Q (y x)=false)(p:List α):(p.map y).filter Q=[]:=List.filter_eq_nil_iff.mpr λf a7=>by
 obtain⟨x,_,rfl⟩:=List.mem_map.mp a7
 rw[g x]; exact Bool.false_ne_true
theorem Ez(a b:List Str):DT (a++b)=DT a++DT b:=by unfold DT; rw[List.filter_append,List.map_append]
theorem EF(l a b:List Str):boF l (a++b)=boF l a++boF l b:=by unfold boF; rw[List.filter_append,List.map_append]
theorem ED(a b:List Str):FS (a++b)=FS a++FS b:=by unfold FS; rw[List.map_append]
theorem FI(n:Nat)(p:List Str):(p.map (AV n ++ ·)).map BG=p:=by
 rw[List.map_map]
 have:(BG∘λx=>AV n++x)=id:=funext λx=>JT n x
 rw[this,List.map_id]
theorem G8:∀e:List (Sg Str),DT (GE e)=G9 e
 |[]=>rfl
 |(a,b,h)::e=>by
  show DT ((a.map (AV 1 ++ ·)++(b.map (AV 2 ++ ·)++h.map (AV 0 ++ ·)))++GE e)=a++G9 e
  rw[Ez,Ez,Ez,G8 e]
  unfold DT
  rw[JP Qj,Cn Qi,Cn Mo,FI]
  simp
theorem FN(l:List Str):∀e:List (Sg Str),boF l (GE e)=(Fv e).filter (EO · l)
 |[]=>rfl
 |(a,b,h)::e=>by
  show boF l ((a.map (AV 1 ++ ·)++(b.map (AV 2 ++ ·)++h.map (AV 0 ++ ·)))++GE e)=(b++Fv e).filter (EO · l)
  rw[EF,EF,EF,FN l e,List.filter_append]
  unfold boF
  rw[Cn (y:=(AV 1 ++ ·)) (λx=>by rw[Qq,Bool.false_and]),Cn (y:=(AV 0 ++ ·)) (λx=>by rw[MY,Bool.false_and])]
  have:(b.map (AV 2 ++ ·)).filter (λc0=>E7 c0&&EO (BG c0) l)=(b.filter (EO · l)).map (AV 2 ++ ·):=by
   rw[List.filter_map]
   congr 1
   refine List.filter_congr λx _=>?_
   show(E7 (AV 2++x)&&EO (BG (AV 2++x)) l)=EO x l
   rw[R0,JT,Bool.true_and]
  rw[this,FI]
  simp
theorem Ka:∀e:List (Sg Str),FS (GE e)=fM e
 |[]=>rfl
 |(a,b,h)::e=>by
  show FS ((a.map (AV 1 ++ ·)++(b.map (AV 2 ++ ·)++h.map (AV 0 ++ ·)))++GE e)=(a++(b++h))++fM e
  rw[ED,ED,ED,Ka e]
  unfold FS
  rw[FI,FI,FI]
theorem FT{x:Str}{A:List Str}:EO x A=true↔x∈A:=by
 unfold EO
 rw[List.any_eq_true]
 constructor
 ·rintro ⟨Q,D,b8⟩
  rw[Gm,decide_eq_true_iff] at b8
  exact b8▸D
 ·intro g
  exact⟨x,g,beq_self_eq_true _⟩
section
variable{c d:List (Str×Nat)}
theorem Hg{c:List (Str×Nat)}{f:Int}(c4:0<=f)(k:f<c.length):(c.map (·.1))[f.toNat]?=some (Ao c f):=by
 obtain⟨g,h⟩:=DU c4 k
 rw[h,List.getElem?_eq_getElem]
theorem MQ{c:List (Str×Nat)}{x:Str}(g:x∈c.map (·.1)):∃f:Int,0<=f/\f<c.length/\Ao c f=x:=by
 obtain⟨n,b1,h⟩:=List.getElem_of_mem g
 have d0:n<c.length:=by simpa using b1
 refine⟨n,by simp,by lia,?_⟩
 obtain⟨c9,G⟩:=DU (a:=c) (x:=(n:Int)) (by simp) (by lia)
 rw[G]
 exact h
theorem Ot{q:Nat}{a3:List Str}(r:(c.map (·.1)).Nodup)(m:(d.map (·.1)).Nodup)(g:Y q (c.map (·.1)) (d.map (·.1))=some a3):K4 c d:=by
 intro f t E a0 T X H L a8 a9 a4 a5 h G
 have b9:∀{f t E a0:Int},0<=f->f<c.length->0<=t->t<d.length->0<=E->E<c.length->0<=a0->a0<d.length->Ao c f=Ao d t->Ao c E=Ao d a0->f<E->t<a0:=by
  intro f t E a0 T X H L a8 a9 a4 a5 h G a7
  have:=Gt q g r m (Hg T X) (h▸Hg H L) (Hg a8 a9) (G▸Hg a4 a5) (show f.toNat<E.toNat by lia)
  lia
 refine⟨b9 T X H L a8 a9 a4 a5 h G,λd1=>?_⟩
 rcases Int.lt_trichotomy f E with k |k |k
 ·exact k
 ·subst k
  have:=JA m H L a4 a5 (h▸G)
  lia
 ·have:=b9 a8 a9 a4 a5 T X H L G h k
  lia
structure VM(c d:List (Str×Nat))(e:List (Sg Str)):Prop where
 a:fA e=c.map (·.1)
 b:fB e=d.map (·.1)
 good:HM e
 cov:K4 c d->∀x∈G9 e,x∉Fv e
 rows:By c d=GE e∨By c d=[]/\G9 e=[]/\Fv e=[]
theorem Gk(r:(c.map (·.1)).Nodup)(m:(d.map (·.1)).Nodup)(D:c.length<=63)(P:d.length<=63):∃e,VM c d e:=by
 obtain⟨p,N,z,c7,c6⟩:=Gg m D P
 have K:=Hb m D P
 have M:=Hc p (Int.le_refl 0) (by simp) (N▸z)
 have a1:=H9 p (Int.le_refl 0) (Int.le_refl 0) (by simp) (N▸z)
 have b5:=IK p (Int.le_refl 0) (N▸z) c7
 have i:=K.rows
 rw[<-N] at M a1 b5
 have M:fA (Ek (c.map (·.1)) (d.map (·.1)) 0 0 (Dm c d))=c.map (·.1):=M
 have a1:fB (Ek (c.map (·.1)) (d.map (·.1)) 0 0 (Dm c d))=d.map (·.1):=a1
 refine⟨Ek (c.map (·.1)) (d.map (·.1)) 0 0 (Dm c d),M,a1,b5,λc1 x s b4=>?_,?_⟩
 ·obtain⟨f,T,X,b6⟩:=MQ (c:=c) (x:=x) (M▸F5.mpr (.inl s))
  obtain⟨t,H,L,c2⟩:=MQ (c:=d) (x:=x) (a1▸F3.mpr (.inl b4))
  have:=KA p (Int.le_refl 0) (N▸z) (c6 c1 f t ⟨T,X,H,L,b6.trans c2.symm⟩)
  rw[<-N,b6] at this
  exact EU (by rw[M]; exact r) x s this
 ·unfold By
  match b3:Bs c d with
  |[]=>left; rw[b3] at i; rw[<-i]; rfl
  |x::f::d2=>left; rw[b3] at i; rw[<-i]; rfl
  |[x]=>
   rw[b3] at i
   by_cases z:((AC x.1).cps.toList==Bj)=true
   ·right
    have b0:Fx [x]=[]:=if_pos z
    have a6:x.1 = .eql:=by
     revert z
     match x.1 with
     |.eql=>exact λ_=>rfl
     |.rep=>exact λg=>absurd g (by decide)
     |.del=>exact λg=>absurd g (by decide)
     |.ins=>exact λg=>absurd g (by decide)
    rw[List.flatMap_singleton,Dc,a6] at i
    refine⟨by rw[b0]; rfl,?_,?_⟩
    ·rw[<-G8,<-i]
     show DT (List.map (AV 0 ++ ·) _)=[]
     unfold DT
     rw[Cn Mo]; rfl
    ·have k:=FN (Fv (Ek (c.map (·.1)) (d.map (·.1)) 0 0 (Dm c d))) (Ek (c.map (·.1)) (d.map (·.1)) 0 0 (Dm c d))
     rw[List.filter_eq_self.mpr λx s=>FT.mpr s,<-i] at k
     rw[<-k]
     show boF _ (List.map (AV 0 ++ ·) _)=[]
     unfold boF
     rw[Cn λx=>by rw[MY,Bool.false_and]]; rfl
   ·left
    have b0:Fx [x]=[x]:=if_neg z
    rw[b0]
    exact i
theorem NK{q:Nat}{a3:List Str}(r:(c.map (·.1)).Nodup)(m:(d.map (·.1)).Nodup)(D:c.length<=63)(P:d.length<=63)(b2:c.length+d.length<q)(g:Y q (c.map (·.1)) (d.map (·.1))=some a3) :
  boF (DT (By c d)) (By c d)=[]/\(c.map (·.1)≠d.map (·.1)->a3=FS (By c d))/\(c.map (·.1)=d.map (·.1)->a3=c.map (·.1)):=by
 obtain⟨e,R⟩:=Gk r m D P
 have a2:=R.cov (Ot r m g)
 have B:=Mh R.good (R.a▸r) (R.b▸m) a2 (n:=q) (by rw[R.a,R.b]; simpa using b2)
 rw[R.a,R.b,g] at B
 injection B with B
 refine⟨?_,λc8=>?_,λh=>?_⟩
 ·rcases R.rows with i |⟨i,_⟩
  ·rw[i,G8,FN]
   refine List.filter_eq_nil_iff.mpr λx s b1=>a2 x (FT.mp b1) s
  ·rw[i]; rfl
 ·rcases R.rows with i |⟨_,k,c5⟩
  ·rw[i,Ka,B]
  ·exfalso
   apply c8
   have t:fA e=fB e:=by
    have c3:∀S∈e,S.1=[]:=List.flatMap_eq_nil_iff.mp k
    have g2:∀S∈e,S.2.1=[]:=List.flatMap_eq_nil_iff.mp c5
    unfold fA fB
    rw[List.flatMap_def,List.flatMap_def]
    congr 1
    refine List.map_congr_left λS a6=>?_
    rw[c3 S a6,g2 S a6]
   rw[<-R.a,<-R.b,t]
 ·rw[B,PK (R.a▸r) (R.b▸m) a2 (by rw[R.a,R.b,h]),R.a]
theorem Nd{q:Nat}(r:(c.map (·.1)).Nodup)(m:(d.map (·.1)).Nodup)(D:c.length<=63)(P:d.length<=63)(b2:c.length+d.length<q)(g:Y q (c.map (·.1)) (d.map (·.1))=none) :
  boF (DT (By c d)) (By c d)≠[]:=by
 obtain⟨e,R⟩:=Gk r m D P
 intro b7
 have a2:∀x∈G9 e,x∉Fv e:=λx s b4=>by
  rcases R.rows with i |⟨_,k,_⟩
  ·rw[i,G8,FN] at b7
   exact List.filter_eq_nil_iff.mp b7 x b4 (FT.mpr s)
  ·rw[k] at s; cases s
 have B:=Mh R.good (R.a▸r) (R.b▸m) a2 (n:=q) (by rw[R.a,R.b]; simpa using b2)
 rw[R.a,R.b,g] at B
 cases B
end
end
section
theorem AB(A:List Str)(f:Nat):(toks A f).length=A.length:=by
 have:=congrArg List.length (Aq A f)
 simpa using this
theorem Ed{A:List Str}{f:Nat}(m:A.length<=63):(J (toks A f)).length<=sizeLine:=by
 rw[sizeLine_eq]; simp only[J,List.length_map,AB]; lia
theorem CK{A:List Str}{f:Nat}(m:∀g∈A,g.length<1000):CF (toks A f):=λd2 q=>m d2.1 (by
 rw[<-Aq A f]; exact List.mem_map_of_mem q)
theorem Ep{h i k:Str}{e:List Str}{f:Nat}(m:∀L∈e,1<=L.cps.toList.length/\L.length<=sizeLine):Er (List.drop (Int.toNat 3) (toks (h::i::k::e) f)):=λd2 q=>m d2.1 (by
 have:d2.1∈(List.drop 3 (toks (h::i::k::e) f)).map (·.1):=List.mem_map_of_mem q
 rw[List.map_drop,Aq] at this
 exact this)
theorem G3{h i k:Str}{e:List Str}{f:Nat}(m:e≠[]):true = !(List.drop (Int.toNat 3) (toks (h::i::k::e) f)).isEmpty:=by
 have:(List.drop (Int.toNat 3) (toks (h::i::k::e) f)).length=e.length:=by
  rw[List.length_drop,AB]; simp
 cases d5:List.drop (Int.toNat 3) (toks (h::i::k::e) f) with
 |nil=>rw[d5] at this; exact absurd (List.eq_nil_of_length_eq_zero this.symm) m
 |cons=>rfl
theorem KJ:Bs [] []=[]:=by decide +kernel
theorem KK:([]:List Str)=DJ [] []:=by unfold DJ By; rw[KJ]; rfl
section
variable{w:World}{j:Heap}{u:OsState}{f p:Nat}{d:Int}{c:List (Int×Nat)}
theorem Vn(O:(V w j (I [] f) u).Ok)(N:Room 688 A){B:Shared}(Q:RepF (V w j (I [] f) u) [] [] F B)(P:∀l n s x y z r K T X a0 a1 a2 b3 M a3 c1,RepF (V w j (I [] f) u) [(n,II w.params x y z r K T X a0 a1 a2 b3 M),(x,I (J []) 0),(y,I (J []) 0),(z,I (J []) 0),(r,I (J []) a3),(K,I (J []) c1)] [] F l ->
   wpOwn (model pw w) A (E5 n s) (K2 n s) (postC pw w A R) (postE R) l):codeAny (model pw w) A (.call (.ref 285) ⟨[.ref 286],[]⟩) R B:=by
 refine De O (m:=289) N (b7:=hd 0x10000010401451410051860061861461860061861461860061861461880010400410400010002402402492402492c000004100004100004100000000000c30030c00c30030c00c30030c00c30030c04c30c04000104138e04038f05108204e38100e48100105400128a28104b2cb040040041) (b0:=[(λa=>BU (C a 3) [] 0,[2],[]),(λa=>BU (C a 4) [] 0,[3],[]),(λa=>UT w.params (C a 29) (C a 26) (.str ⟨⟨[117,110,105,102,105,101,100,95,100,105,102,102]⟩⟩ (C a 27)) (.str ⟨⟨[117,110,105,102,105,101,100,95,100,105,102,102]⟩⟩ (C a 28)) (C a 17) (C a 18) (C a 19) (C a 20) (C a 21) (C a 22) (C a 23) (C a 24) (C a 25) (C a 3) (C a 4) 0 (C a 16) 8 0 0,[12,11,2,3],[0]),(λa=>Pc (C a 30) (C a 32) (C a 34) 3 (C a 33),[11,12],[]),(λa=>Rj w.params (C a 0) (C a 1) (C a 37) (C a 38) (C a 39) (C a 35) 0,[14,15,16,13],[]),(λa=>R8 w.params (C a 0) (C a 1) (C a 46) (C a 47) (C a 48) (C a 35) 0 (C a 38) (C a 41),[17,18,19,13,1,15],[]),(λa=>Ow (C a 3) 0 (C a 56),[9,20],[]),(λa=>Ow (C a 4) 0 (C a 58),[10,22],[]),(λa=>UR (C a 60) (C a 57) (C a 59) 0 0 0,[24,21,23],[])]) (f0:=[0,9,10,13,18,22]) (e4:=[]) (c3:=λb=>E5 (b 0) (b 1)) (e0:=λb=>K2 (b 0) (b 1)) (b3:=λb=>[(b 0,II w.params (b 3) (b 4) (b 35) (b 47) (b 61) (b 2) (b 9) (b 10) (b 36) (b 55) (b 64) 6),(b 3,I (J []) 0),(b 4,I (J []) 0),(b 35,I (J []) 0),(b 47,I (J []) (b 50)),(b 61,I (J []) (b 63))]) (b2:=λ_=>[]) (HY ((AS (by rw[sizeLine_eq]; simp))) ((AS (by rw[sizeLine_eq]; simp))) (Hf O (b:=[]) (a:=[]) List.nodup_nil (Nat.zero_le _) (Nat.zero_le _) (λ_ m=>nomatch m) (λ_ m=>nomatch m) rfl KK) (AH O (by rw[sizeLine_eq]; simp) (by decide)) (He O (x:=0) (N:=0) (H:=[]) (λ_ m=>nomatch m) (by simp) rfl) (Hh O (λ_ m=>nomatch m) (by simp) rfl) (D7 O (by rw[sizeLine_eq]; simp)) (D7 O (by rw[sizeLine_eq]; simp)) (J5 O (m:=1) (g:=[]) (h:=[]) List.nodup_nil List.nodup_nil (by simp) (by simp) (by simp) rfl)) (by kernel_rfl) Q λb l S=>?_
 exact P l (b 0) (b 1) _ _ _ _ _ _ _ _ _ _ _ _ _ _ S
theorem UK(O:(V w j (I (.int d p::vI c) f) u).Ok)(a9:(V w j (I (.int d p::vI c) f) u).kt.get 286=some (I (vI ((d,p)::c)) f))(b2:c.length<=90)(d1:(Ab (d::c.map (·.1)) [] []).1.Nodup)(a4:(Ab (d::c.map (·.1)) [] []).2.Nodup)(q:(Ab (d::c.map (·.1)) [] []).1.length<=63)(H:(Ab (d::c.map (·.1)) [] []).2.length<=63)(c4:∀g∈(Ab (d::c.map (·.1)) [] []).1,g.length<1000)(c5:∀g∈(Ab (d::c.map (·.1)) [] []).2,g.length<1000)(b1:∀a5 a6,DJ (toks (Ab (d::c.map (·.1)) [] []).1 a5) (toks (Ab (d::c.map (·.1)) [] []).2 a6)=[]){G:List Str}(d3:Y 1000 (Ab (d::c.map (·.1)) [] []).1 (Ab (d::c.map (·.1)) [] []).2=some G)(N:Room 688 A){B:Shared}(Q:RepF (V w j (I (.int d p::vI c) f) u) [] [] F B)(P:∀l n s x y z r K d0 T X a0 b4 b5 b6 b7 c6 c7 c8 c9 a1 a2 b3 M (D E b8:List (Str×Nat)) b9 c0 c2 a3 c1,D.map (·.1)=(Ab (d::c.map (·.1)) [] []).1->E.map (·.1)=(Ab (d::c.map (·.1)) [] []).2->b8.map (·.1)=G->RepF (V w j (I (.int d p::vI c) f) u) [(n,DM w.params x y z r K d0 T X a0 b4 b5 b6 b7 c6 c7 c8 c9 a1 a2 b3 M),(x,I (J D) b9),(y,I (J E) c0),(z,I (J []) c2),(r,I (J []) a3),(K,I (J b8) c1)] [] F l ->
   wpOwn (model pw w) A (E5 n s) (K2 n s) (postC pw w A R) (postE R) l):codeAny (model pw w) A (.call (.ref 285) ⟨[.ref 286],[]⟩) R B:=by
 refine De O (m:=271) N (b7:=hd 0x4000004100514504014618018618518618018618518618018618518620004100104100004000904000004100004100004100000000000a28028a00a28028a00a28028a00a28028a04a28a04000104130c04030d04f08204c30100c401001052001208201049249040040041) (b0:=[(λa=>J6 w.params (C a 0) (C a 1) (C a 11) (C a 3) (C a 4) (C a 2) (C a 9) (C a 10) 3 0 0 d (c.map (·.1)),[0,2,3,8],[]),(λa=>BU (C a 3) (J (toks (Ab (d::c.map (·.1)) [] []).1 (C a 24))) (C a 25),[2],[]),(λa=>BU (C a 4) (J (toks (Ab (d::c.map (·.1)) [] []).2 (C a 26))) (C a 27),[3],[]),(λa=>Th w.params (C a 43) (C a 40) (.str ⟨⟨[117,110,105,102,105,101,100,95,100,105,102,102]⟩⟩ (C a 41)) (.str ⟨⟨[117,110,105,102,105,101,100,95,100,105,102,102]⟩⟩ (C a 42)) (C a 31) (C a 32) (C a 33) (C a 34) (C a 35) (C a 36) (C a 37) (C a 38) (C a 39) (C a 3) (C a 4) (↑(J (toks (Ab (d::c.map (·.1)) [] []).1 (C a 24))).length + ↑(J (toks (Ab (d::c.map (·.1)) [] []).2 (C a 26))).length) (C a 30) 8 (C a 25) (C a 27) (toks (Ab (d::c.map (·.1)) [] []).1 (C a 24)) (toks (Ab (d::c.map (·.1)) [] []).2 (C a 26)),[10,9,2,3],[0]),(λa=>Pc (C a 44) (C a 46) (C a 48) 3 (C a 47),[9,10],[]),(λa=>Rj w.params (C a 0) (C a 1) (C a 51) (C a 52) (C a 53) (C a 49) 0,[12,13,14,11],[]),(λa=>R8 w.params (C a 0) (C a 1) (C a 60) (C a 61) (C a 62) (C a 49) 0 (C a 52) (C a 55),[15,16,17,11,1,13],[]),(λa=>GX (C a 3) (C a 25) (C a 70) (toks (Ab (d::c.map (·.1)) [] []).1 (C a 24)),[7,18],[]),(λa=>GX (C a 4) (C a 27) (C a 72) (toks (Ab (d::c.map (·.1)) [] []).2 (C a 26)),[8,20],[]),(λa=>Q1 (C a 74) (C a 71) (C a 73) 0 0 0 (toks (Ab (d::c.map (·.1)) [] []).1 (C a 24)) (toks (Ab (d::c.map (·.1)) [] []).2 (C a 26)) G,[22,19,21],[])]) (f0:=[0,7,8,11,16,20]) (e4:=[]) (c3:=λb=>E5 (b 0) (b 1)) (e0:=λb=>K2 (b 0) (b 1)) (b3:=λb=>[(b 0,DM w.params (b 3) (b 4) (b 49) (b 61) (b 75) (GM (c.map (·.1)) d) (b 12) (b 13) (b 14) (b 15) (b 16) (b 17) (b 18) (b 19) (b 20) (b 21) (b 22) (b 50) (b 69) (b 78) ((b 23)+1+1+1)),(b 3,I (J (toks (Ab (d::c.map (·.1)) [] []).1 (b 24))) (b 25)),(b 4,I (J (toks (Ab (d::c.map (·.1)) [] []).2 (b 26))) (b 27)),(b 49,I (J []) 0),(b 61,I (J []) (b 64)),(b 75,I (J (toks G (b 76))) (b 77))]) (b2:=λ_=>[]) (H4 (Gv O a9 b2) (AS (Ed q)) (AS (Ed H)) (Hf O (by rw[Aq]; exact a4) (by rw[AB]; exact q) (by rw[AB]; exact H) (CK c4) (CK c5) (by simp[J]) (b1 _ _).symm) (AH O (by rw[sizeLine_eq]; simp) (by decide)) (He O (x:=0) (N:=0) (H:=[]) (λ_ m=>nomatch m) (by simp) rfl) (Hh O (λ_ m=>nomatch m) (by simp) rfl) (D7 O (by rw[AB,sizeLine_eq]; lia)) (D7 O (by rw[AB,sizeLine_eq]; lia)) (J5 O (m:=1000) (by rw[Aq]; exact d1) (by rw[Aq]; exact a4) (by rw[AB]; lia) (by rw[AB]; lia) (by rw[AB,AB]; lia) (by rw[Aq,Aq]; exact d3))) (by kernel_rfl) Q λb l S=>?_
 exact P l (b 0) (b 1) _ _ _ _ _ _ _ _ _ _ _ _ _ _ _ _ _ _ _ _ _ _ _ _ _ _ _ _ _ (Aq _ _) (Aq _ _) (Aq _ _) S
theorem TQ(O:(V w j (I (.int d p::vI c) f) u).Ok)(a9:(V w j (I (.int d p::vI c) f) u).kt.get 286=some (I (vI ((d,p)::c)) f))(b2:c.length<=90)(d1:(Ab (d::c.map (·.1)) [] []).1.Nodup)(a4:(Ab (d::c.map (·.1)) [] []).2.Nodup)(q:(Ab (d::c.map (·.1)) [] []).1.length<=63)(H:(Ab (d::c.map (·.1)) [] []).2.length<=63)(c4:∀g∈(Ab (d::c.map (·.1)) [] []).1,g.length<1000)(c5:∀g∈(Ab (d::c.map (·.1)) [] []).2,g.length<1000){h i k:Str}{e:List Str}(b1:∀a5 a6,DJ (toks (Ab (d::c.map (·.1)) [] []).1 a5) (toks (Ab (d::c.map (·.1)) [] []).2 a6)=h::i::k::e)(a8:e≠[])(d4:e.length<90000)(b0:∀L∈e,1<=L.cps.toList.length/\L.length<=sizeLine){G:List Str}(d3:Y 1000 (Ab (d::c.map (·.1)) [] []).1 (Ab (d::c.map (·.1)) [] []).2=some G)(N:Room 688 A){B:Shared}(Q:RepF (V w j (I (.int d p::vI c) f) u) [] [] F B)(P:∀l n s x y z r K d0 T X a0 b4 b5 b6 b7 c6 c7 c8 c9 a1 a2 b3 M (D E c3 a7 b8:List (Str×Nat)) b9 c0 c2 a3 c1,D.map (·.1)=(Ab (d::c.map (·.1)) [] []).1->E.map (·.1)=(Ab (d::c.map (·.1)) [] []).2->c3.map (·.1)=e->a7.map (·.1)=boF (DT e) e->b8.map (·.1)=G->RepF (V w j (I (.int d p::vI c) f) u) [(n,DM w.params x y z r K d0 T X a0 b4 b5 b6 b7 c6 c7 c8 c9 a1 a2 b3 M),(x,I (J D) b9),(y,I (J E) c0),(z,I (J c3) c2),(r,I (J a7) a3),(K,I (J b8) c1)] [] F l ->
   wpOwn (model pw w) A (E5 n s) (K2 n s) (postC pw w A R) (postE R) l):codeAny (model pw w) A (.call (.ref 285) ⟨[.ref 286],[]⟩) R B:=by
 refine De O (m:=279) N (b7:=hd 0x4000004100514504014618018618518618018618518618018618518620004100104100004000904000004100004100004100000000000a28028a00a28028a00a28028a00a28028a04a28a04000104130c04030d04f3cf08204c30100c401001052492001208201049249040040041) (b0:=[(λa=>J6 w.params (C a 0) (C a 1) (C a 11) (C a 3) (C a 4) (C a 2) (C a 9) (C a 10) 3 0 0 d (c.map (·.1)),[0,2,3,8],[]),(λa=>BU (C a 3) (J (toks (Ab (d::c.map (·.1)) [] []).1 (C a 24))) (C a 25),[2],[]),(λa=>BU (C a 4) (J (toks (Ab (d::c.map (·.1)) [] []).2 (C a 26))) (C a 27),[3],[]),(λa=>Ra w.params (C a 43) (C a 40) (.str ⟨⟨[117,110,105,102,105,101,100,95,100,105,102,102]⟩⟩ (C a 41)) (.str ⟨⟨[117,110,105,102,105,101,100,95,100,105,102,102]⟩⟩ (C a 42)) (C a 31) (C a 32) (C a 33) (C a 34) (C a 35) (C a 36) (C a 37) (C a 38) (C a 39) (C a 3) (C a 4) (↑(J (toks (Ab (d::c.map (·.1)) [] []).1 (C a 24))).length + ↑(J (toks (Ab (d::c.map (·.1)) [] []).2 (C a 26))).length) (C a 30) 8 (C a 25) (C a 27) (toks (Ab (d::c.map (·.1)) [] []).1 (C a 24)) (toks (Ab (d::c.map (·.1)) [] []).2 (C a 26)) h i k e,[10,9,2,3],[0]),(λa=>BD (C a 44) (C a 46) (C a 48) (toks (h::i::k::e) (C a 45)) 3 (C a 47),[9,10],[]),(λa=>R6 w.params (C a 0) (C a 1) (C a 51) (C a 52) (C a 53) (C a 49) 0 (List.drop (Int.toNat 3) (toks (h::i::k::e) (C a 45))) true,[12,13,14,11],[]),(λa=>QH w.params (C a 0) (C a 1) (C a 60) (C a 61) (C a 62) (C a 49) 0 (C a 52) (C a 55) (toks (DT (List.map (λg=>g.fst) (List.drop (Int.toNat 3) (toks (h::i::k::e) (C a 45))))) (C a 54)) (List.drop (Int.toNat 3) (toks (h::i::k::e) (C a 45))) true,[15,16,17,11,1,13],[]),(λa=>GX (C a 3) (C a 25) (C a 70) (toks (Ab (d::c.map (·.1)) [] []).1 (C a 24)),[7,18],[]),(λa=>GX (C a 4) (C a 27) (C a 72) (toks (Ab (d::c.map (·.1)) [] []).2 (C a 26)),[8,20],[]),(λa=>Q1 (C a 74) (C a 71) (C a 73) 0 0 0 (toks (Ab (d::c.map (·.1)) [] []).1 (C a 24)) (toks (Ab (d::c.map (·.1)) [] []).2 (C a 26)) G,[22,19,21],[])]) (f0:=[0,7,8,11,16,20]) (e4:=[]) (c3:=λb=>E5 (b 0) (b 1)) (e0:=λb=>K2 (b 0) (b 1)) (b3:=λb=>[(b 0,DM w.params (b 3) (b 4) (b 49) (b 61) (b 75) (GM (c.map (·.1)) d) (b 12) (b 13) (b 14) (b 15) (b 16) (b 17) (b 18) (b 19) (b 20) (b 21) (b 22) (b 50) (b 69) (b 78) ((b 23)+1+1+1)),(b 3,I (J (toks (Ab (d::c.map (·.1)) [] []).1 (b 24))) (b 25)),(b 4,I (J (toks (Ab (d::c.map (·.1)) [] []).2 (b 26))) (b 27)),(b 49,I (J (List.drop (Int.toNat 3) (toks (h::i::k::e) (b 45)))) 0),(b 61,I (J (toks (boF (List.map (λg=>g.fst) (toks (DT (List.map (λg=>g.fst) (List.drop (Int.toNat 3) (toks (h::i::k::e) (b 45))))) (b 54))) (List.map (λg=>g.fst) (List.drop (Int.toNat 3) (toks (h::i::k::e) (b 45))))) (b 63))) (b 64)),(b 75,I (J (toks G (b 76))) (b 77))]) (b2:=λ_=>[]) (H4 (Gv O a9 b2) (AS (Ed q)) (AS (Ed H)) (Hf O (by rw[Aq]; exact a4) (by rw[AB]; exact q) (by rw[AB]; exact H) (CK c4) (CK c5) (by simp[J]) (b1 _ _).symm) (AH O (by rw[AB,sizeLine_eq]; simp; lia) (by decide)) (He O (x:=0) (N:=0) (H:=[]) (Ep b0) (by rw[List.length_drop,AB]; simp; lia) (G3 a8)) (Hh O (Ep b0) (by rw[List.length_drop,AB]; simp; lia) (G3 a8)) (D7 O (by rw[AB,sizeLine_eq]; lia)) (D7 O (by rw[AB,sizeLine_eq]; lia)) (J5 O (m:=1000) (by rw[Aq]; exact d1) (by rw[Aq]; exact a4) (by rw[AB]; lia) (by rw[AB]; lia) (by rw[AB,AB]; lia) (by rw[Aq,Aq]; exact d3))) (by kernel_rfl) Q λb l S=>?_
 exact P l (b 0) (b 1) _ _ _ _ _ _ _ _ _ _ _ _ _ _ _ _ _ _ _ _ _ _ _ _ _ _ _ _ _ _ _ (Aq _ _) (Aq _ _) (by rw[List.map_drop,Aq]; rfl) (by rw[Aq,Aq,List.map_drop,Aq]; rfl) (Aq _ _) S
theorem Vl(O:(V w j (I (.int d p::vI c) f) u).Ok)(a9:(V w j (I (.int d p::vI c) f) u).kt.get 286=some (I (vI ((d,p)::c)) f))(b2:c.length<=90)(d1:(Ab (d::c.map (·.1)) [] []).1.Nodup)(a4:(Ab (d::c.map (·.1)) [] []).2.Nodup)(q:(Ab (d::c.map (·.1)) [] []).1.length<=63)(H:(Ab (d::c.map (·.1)) [] []).2.length<=63)(c4:∀g∈(Ab (d::c.map (·.1)) [] []).1,g.length<1000)(c5:∀g∈(Ab (d::c.map (·.1)) [] []).2,g.length<1000){h i k:Str}{e:List Str}(b1:∀a5 a6,DJ (toks (Ab (d::c.map (·.1)) [] []).1 a5) (toks (Ab (d::c.map (·.1)) [] []).2 a6)=h::i::k::e)(a8:e≠[])(d4:e.length<90000)(b0:∀L∈e,1<=L.cps.toList.length/\L.length<=sizeLine)(N:Room 688 A){B:Shared}(Q:RepF (V w j (I (.int d p::vI c) f) u) [] [] F B)(P:∀l n s x y z r d0 T X a0 b4 b5 b6 b7 c6 c7 c8 c9 a1 a2 M (D E c3 a7:List (Str×Nat)) b9 c0 c2 a3,D.map (·.1)=(Ab (d::c.map (·.1)) [] []).1->E.map (·.1)=(Ab (d::c.map (·.1)) [] []).2->c3.map (·.1)=e->a7.map (·.1)=boF (DT e) e->RepF (V w j (I (.int d p::vI c) f) u) [(n,Es w.params x y z r d0 T X a0 b4 b5 b6 b7 c6 c7 c8 c9 a1 a2 M),(x,I (J D) b9),(y,I (J E) c0),(z,I (J c3) c2),(r,I (J a7) a3)] [] F l ->
   wpOwn (model pw w) A (E5 n s) (PS n s) (postC pw w A R) (postE R) l):codeAny (model pw w) A (.call (.ref 285) ⟨[.ref 286],[]⟩) R B:=by
 refine De O (m:=244) N (b7:=hd 0x4000004100514504014618018618518618018618518618018618518620004100104100004000904000004100004100004100000000000a28028a00a28028a00a28028a00a28028a04a28a04000104130c04030d04f3cf08204c30100c401001052492) (b0:=[(λa=>J6 w.params (C a 0) (C a 1) (C a 11) (C a 3) (C a 4) (C a 2) (C a 9) (C a 10) 3 0 0 d (c.map (·.1)),[0,2,3,8],[]),(λa=>BU (C a 3) (J (toks (Ab (d::c.map (·.1)) [] []).1 (C a 24))) (C a 25),[2],[]),(λa=>BU (C a 4) (J (toks (Ab (d::c.map (·.1)) [] []).2 (C a 26))) (C a 27),[3],[]),(λa=>Ra w.params (C a 43) (C a 40) (.str ⟨⟨[117,110,105,102,105,101,100,95,100,105,102,102]⟩⟩ (C a 41)) (.str ⟨⟨[117,110,105,102,105,101,100,95,100,105,102,102]⟩⟩ (C a 42)) (C a 31) (C a 32) (C a 33) (C a 34) (C a 35) (C a 36) (C a 37) (C a 38) (C a 39) (C a 3) (C a 4) (↑(J (toks (Ab (d::c.map (·.1)) [] []).1 (C a 24))).length + ↑(J (toks (Ab (d::c.map (·.1)) [] []).2 (C a 26))).length) (C a 30) 8 (C a 25) (C a 27) (toks (Ab (d::c.map (·.1)) [] []).1 (C a 24)) (toks (Ab (d::c.map (·.1)) [] []).2 (C a 26)) h i k e,[10,9,2,3],[0]),(λa=>BD (C a 44) (C a 46) (C a 48) (toks (h::i::k::e) (C a 45)) 3 (C a 47),[9,10],[]),(λa=>R6 w.params (C a 0) (C a 1) (C a 51) (C a 52) (C a 53) (C a 49) 0 (List.drop (Int.toNat 3) (toks (h::i::k::e) (C a 45))) true,[12,13,14,11],[]),(λa=>QH w.params (C a 0) (C a 1) (C a 60) (C a 61) (C a 62) (C a 49) 0 (C a 52) (C a 55) (toks (DT (List.map (λg=>g.fst) (List.drop (Int.toNat 3) (toks (h::i::k::e) (C a 45))))) (C a 54)) (List.drop (Int.toNat 3) (toks (h::i::k::e) (C a 45))) true,[15,16,17,11,1,13],[])]) (f0:=[0,7,8,11,16]) (e4:=[]) (c3:=λb=>E5 (b 0) (b 1)) (e0:=λb=>PS (b 0) (b 1)) (b3:=λb=>[(b 0,Es w.params (b 3) (b 4) (b 49) (b 61) (GM (c.map (·.1)) d) (b 12) (b 13) (b 14) (b 15) (b 16) (b 17) (b 18) (b 19) (b 20) (b 21) (b 22) (b 50) (b 69) ((b 23)+1+1)),(b 3,I (J (toks (Ab (d::c.map (·.1)) [] []).1 (b 24))) (b 25)),(b 4,I (J (toks (Ab (d::c.map (·.1)) [] []).2 (b 26))) (b 27)),(b 49,I (J (List.drop (Int.toNat 3) (toks (h::i::k::e) (b 45)))) 0),(b 61,I (J (toks (boF (List.map (λg=>g.fst) (toks (DT (List.map (λg=>g.fst) (List.drop (Int.toNat 3) (toks (h::i::k::e) (b 45))))) (b 54))) (List.map (λg=>g.fst) (List.drop (Int.toNat 3) (toks (h::i::k::e) (b 45))))) (b 63))) (b 64))]) (b2:=λ_=>[]) (Fa (Gv O a9 b2) (AS (Ed q)) (AS (Ed H)) (Hf O (by rw[Aq]; exact a4) (by rw[AB]; exact q) (by rw[AB]; exact H) (CK c4) (CK c5) (by simp[J]) (b1 _ _).symm) (AH O (by rw[AB,sizeLine_eq]; simp; lia) (by decide)) (He O (x:=0) (N:=0) (H:=[]) (Ep b0) (by rw[List.length_drop,AB]; simp; lia) (G3 a8)) (Hh O (Ep b0) (by rw[List.length_drop,AB]; simp; lia) (G3 a8))) (by kernel_rfl) Q λb l S=>?_
 exact P l (b 0) (b 1) _ _ _ _ _ _ _ _ _ _ _ _ _ _ _ _ _ _ _ _ _ _ _ _ _ _ _ (Aq _ _) (Aq _ _) (by rw[List.map_drop,Aq]; rfl) (by rw[Aq,Aq,List.map_drop,Aq]; rfl) S
end
end
section
theorem If{a3:Model}{a5:Env}{c0:Pos}{l a2:VP}{b:Shared}(y:l (.ref b.heap.objs.size) {b with heap:=b.heap.push (I [] 0)}):wpAny a3 A (eval (.List [] c0) a5) l a2 b:=by
 rw[arm_eval_List]
 refine wpAny_bind (wpAny_standAt ?_)
 show wpAny _ _ (pure []>>=λb9=>newList b9) _ _ _
 exact wpAny_bind (wpAny_pure (wpAny_newList y (Nat.zero_le _)))
theorem EV{f e:List (Str×Nat)}(y:f.map (·.1)=e.map (·.1)):E6 f e=true:=by
 unfold E6; exact decide_eq_true y
section
variable{w:World}{j:Heap}{o:Obj}{u:OsState}
theorem Jx{a d D n T m k Q t S x p:Nat}{i:Obj}{f e a0 h:List (Str×Nat)}(H:nsLook AF i = .pure (some (.ref D)))(a7:nsLook Ax i = .pure (some (.ref n)))(a8:nsLook D0 i = .pure (some (.ref m)))(a9:nsLook Dd i = .pure (some (.ref k)))(b1:Room 200 A){b:Shared}(N:RepF (V w j o u) [(a,i),(D,I (J f) Q),(n,I (J e) t),(T,I (J a0) S),(m,I (J []) x),(k,I (J h) p)] [] F b)(b2:E6 f e=false->∀q (l:VP),RepF (V w j o u) [(a,i),(D,I (J f) Q),(n,I (J e) t),(T,I (J a0) S),(m,I (J []) x),(k,I (J h) p)] [] F q ->
   (∀a1 E G P,G.map (·.1)=h.map (·.1)->RepF (V w j o u) [(E,I (J G) P),(k,I (J h) p)] [] F a1->l (.ref E) a1)->wpOwn (model pw w) A (E5 a d) (eval Jk (BS a d)) l (λ_ _=>False) q)(b3:E6 f e=true->h.map (·.1)=f.map (·.1))(L:∀q,RepF (V w j o u) [] [] F q->R (.ok (.ret (.bool true))) q):wpOwn (model pw w) A (E5 a d) (K2 a d) (postC pw w A R) (postE R) b:=by
 obtain⟨c2,c3,c6,c7,c8,c9,d0,c1,d1,d2,c4,c5,a4⟩:=Vk
 unfold K2
 rw[a4]
 have s:(A.under (E5 a d)).units<cLine:=by
  have:=(b1.under (c:=E5 a d) rfl (by decide):Room 195 (A.under (E5 a d))).units
  have:cLine=cLine:=rfl
  unfold cLine
  lia
 have F9:(AF==("__debug__" : Str))=false:=by decide +kernel
 have b4:(Ax==("__debug__" : Str))=false:=by decide +kernel
 have b5:(D0==("__debug__" : Str))=false:=by decide +kernel
 have b6:(Dd==("__debug__" : Str))=false:=by decide +kernel
 refine Pm (Os (Fe ?_ rfl))
 refine wpOwn_of_wpAny (Dr (MG a d) b5 (RepF.get0 N) a8 ?_)
 refine wpOwn_of_wpAny (If ?_)
 have z:=RepF.push N (o:=I [] 0) rfl
 have b7:({b with heap:=b.heap.push (I [] 0)}:Shared).heap.get? m=some (I (J []) x):=Rep.get z (m,I (J []) x) (by simp)
 have b8:({b with heap:=b.heap.push (I [] 0)}:Shared).heap.get? b.heap.objs.size=some (I (J []) 0):=Rep.get z (b.heap.objs.size,I [] 0) (by simp)
 refine wpOwn_of_wpAny (HR (a6:=V w j o u) rfl s b7 b8 ?_)
 refine⟨by rw[EV rfl],?_⟩
 have g:=RepF.drop1 z
 generalize ({b with heap:=b.heap.push (I [] 0)}:Shared)=s2 at g
 have r:=RepF.get0 g
 have K:=RepF.get1 g
 have g2:s2.heap.get? n=some (I (J e) t):=Rep.get g (n,I (J e) t) (by simp)
 have b0:s2.heap.get? k=some (I (J h) p):=Rep.get g (k,I (J h) p) (by simp)
 refine Fe ?_ rfl
 refine wpOwn_of_wpAny (Dr (Q3 a d) b6 r a9 ?_)
 refine M0 ?_
 refine wpOwn_of_wpAny (wpAny_isTrue_Compare1 ?_ rfl)
 refine Dr (Mr a d) F9 r H ?_
 refine Dr (QF a d) b4 r a7 ?_
 refine NW s K g2 (wpAny_truthy_bool ?_)
 cases M:E6 f e with
 |true=>
  show wpOwn _ _ _ (eval (.Name AF c1) (BS a d)) _ _ _
  refine wpOwn_of_wpAny (Dr (Mr a d) F9 r H ?_)
  refine wpOwn_of_wpAny (HR (a6:=V w j o u) rfl s b0 K ?_)
  rw[EV (b3 M)]
  exact L _ (RepF.sub g (List.nil_sublist _))
 |false=>
  show wpOwn _ _ _ (eval Jk (BS a d)) _ _ _
  refine b2 M s2 _ g λd3 E G P a6 B=>?_
  refine wpOwn_of_wpAny (HR (a6:=V w j o u) rfl s (RepF.get1 B) (RepF.get0 B) ?_)
  rw[EV a6.symm]
  exact L _ (RepF.sub B (List.nil_sublist _))
end
end
section
section
variable{w:World}{j:Heap}{u:OsState}{X:List Value}{P:Nat}(b8:(V w j (I X P) u).Ok){q N b c e d m g h i r s t x z B D E k l p f a6 a7 a8:Nat}{G:Int}
include b8
theorem RJ{L:List (Str×Nat)}(b4:Er L)(b2:L.length<100000)(b3:true = !L.isEmpty)(a0:Room 200 A){T:Shared}{M:VP}(a2:RepF (V w j (I X P) u) [(q,DM w.params b c e d m G g h i r s t x z B D E k l p f),(e,I (J L) a8)] [] F T)(a1:∀y b0 b1 b5,b1.map (·.1)=FS (L.map (·.1))->RepF (V w j (I X P) u) [(b0,I (J b1) b5)] [] F y->M (.ref b0) y):wpOwn (model pw w) A (E5 q N) (eval Jk (BS q N)) M (λ_ _=>False) T:=
 own_sim (run_tree b8 (a7:=60) a0 (a0:=hd 0x41082040083045145) (H:=[(λK=>UL w.params q N (C K 0) (C K 1) (C K 2) e a8 L true,[2,3,4,1],[])]) (d2:=[3]) (b7:=[]) (b0:=λa=>.ret (.ok (.ret (.ref (a 1)))))
  (M:=λa=>[(a 1,I (J (toks (FS (L.map (·.1))) (a 3))) (a 4))]) (L:=λ_=>[]) (Bo (Qe b8 (x:=0) (N:=0) (H:=[]) b4 b2 b3)) (by kernel_rfl) a2 λa y a3=>⟨_,rfl,a1 y (a 1) _ _ (Aq _ _) a3⟩)
theorem RN{Q S:List (Str×Nat)}(b6:Q.length<=63)(b7:S.length<=63)(a0:Room 200 A){T:Shared}{M:VP}(a2:RepF (V w j (I X P) u) [(q,Es w.params b c e d G g h i r s t x z B D E k l f),(b,I (J Q) a6),(c,I (J S) a7)] [] F T)(a1:∀y a9 a4 a5,RepF (V w j (I X P) u) [(a9,I [.ref a4,.ref a5] 0),(a4,I (J Q) 0),(a5,I (J S) 0),(q,Es w.params b c e d G g h i r s t x z B D E k l f)] [] F y->M (.ref a9) y):wpOwn (model pw w) A (E5 q N) (eval SR (BS q N)) M (λ_ _=>False) T:=
 own_sim (run_tree b8 (a7:=60) a0 (a0:=hd 0x10420820410c30c1) (H:=[(λK=>GX b a6 (C K 0) Q,[1,3],[]),(λK=>GX c a7 (C K 2) S,[2,5],[])]) (d2:=[7,4,6,0]) (b7:=[]) (b0:=λa=>.ret (.ok (.ret (.ref (a 4)))))
  (M:=λa=>[(a 4,I [.ref (a 1),.ref (a 3)] 0),(a 1,I (J Q) 0),(a 3,I (J S) 0),(q,Es w.params b c e d G g h i r s t x z B D E k l f)]) (L:=λ_=>[])
  (BI (D7 b8 (by rw[sizeLine_eq]; lia)) (D7 b8 (by rw[sizeLine_eq]; lia))) (by kernel_rfl) a2 λa y a3=>⟨_,rfl,a1 y (a 4) _ _ a3⟩)
end
section
variable{H:Params}{b c e d m g h i r s t x z B D E k l p f:Nat}{G:Int}
theorem Ud:nsLook AF (II H b c e d m g h i k l p f) = .pure (some (.ref b)):=by kernel_rfl
theorem Tb:nsLook Ax (II H b c e d m g h i k l p f) = .pure (some (.ref c)):=by kernel_rfl
theorem UN:nsLook D0 (II H b c e d m g h i k l p f) = .pure (some (.ref d)):=by kernel_rfl
theorem Tj:nsLook Dd (II H b c e d m g h i k l p f) = .pure (some (.ref m)):=by kernel_rfl
theorem O2:nsLook AF (DM H b c e d m G g h i r s t x z B D E k l p f) = .pure (some (.ref b)):=by kernel_rfl
theorem OD:nsLook Ax (DM H b c e d m G g h i r s t x z B D E k l p f) = .pure (some (.ref c)):=by kernel_rfl
theorem Oy:nsLook D0 (DM H b c e d m G g h i r s t x z B D E k l p f) = .pure (some (.ref d)):=by kernel_rfl
theorem Pw:nsLook Dd (DM H b c e d m G g h i r s t x z B D E k l p f) = .pure (some (.ref m)):=by kernel_rfl
end
end
section
section
variable{g:Model}{A:Around}{h:Code}{l:Env}{a:Shared}
theorem Jj{α:Type}{q:Sem α}{c:Except Value α->Shared->Prop}{d:VP}(b:wpOwn g A h q (λn=>c (.ok n)) (λi=>c (.error i)) a):wpOwn g A h q.attempt c d a:=fun Γ Q hc bΓ=>by rw[Sem.wp_attempt]; exact b Γ Q hc bΓ
theorem NQ{a4 d1:List Stmt}{a2:ExceptHandler}{G:List ExceptHandler}{Q:Pos}{c:Flow->Shared->Prop}{d:VP}(b:wpOwn g A h (execs a4 l) (λ_ _=>False)
   (λi k=>wpAny g (A.under h) (noteFrame i l) (λ_ a7=>wpAny g (A.under h) (setFlight i none) (λ_ e7=>wpAny g (A.under h) (handleBy i l (a2::G)) c d e7) d a7) d k) a) :
  wpOwn g A h (exec (.Try a4 (a2::G) d1 [] Q) l) c d a:=by
 rw[arm_exec_Try]
 refine wpOwn_bind (wpOwn_of_wpAny (wpAny_standAt ?_))
 unfold tryStmt
 dsimp only[List.isEmpty_nil,if_true,List.isEmpty_cons,Bool.false_and,Bool.false_eq_true,if_false]
 refine wpOwn_bind (Jj (wpOwn_mono b (λa6 k m=>m.elim) λi k m=>?_))
 exact wpOwn_of_wpAny (wpAny_bind (wpAny_mono m (λ_ _ b9=>wpAny_bind b9) λ_ _ e=>e))
theorem LM{a6:Value}{e:Sem Value}{c:Args->Shared->Prop}{d:VP}(b:wpOwn g A h e (λp k=>c ⟨[p],[]⟩ k) d a):wpOwn g A h (evalArgs a6 true [(false,e)] []) c d a:=by
 unfold evalArgs
 show wpOwn g A h (spliced [(false,e)]>>=_) c d a
 refine wpOwn_bind ?_
 rw[spliced]
 refine wpOwn_bind (wpOwn_mono b (λp k m=>?_) λ_ _ a1=>a1)
 simp only[Bool.false_eq_true,if_false]
 refine wpOwn_of_wpAny (wpAny_bind (wpAny_pure (wpAny_bind (wpAny_holding (wpAny_pure (wpAny_pure ?_))))))
 refine wpOwn_of_wpAny (wpAny_holding ?_)
 exact wpAny_bind (wpAny_pure (wpAny_bind (wpAny_pure (wpAny_pure m))))
theorem KB{e4:Pos}{n:Addr}{o:Obj}{z:FuncData}{e:Sem Value}{c d:VP}(b:wpOwn g A h e (λp k=>(k.heap.get? n=some o/\o.data = .func z)/\wpAny g (A.under h) (call (.ref n) [p] []) c d k) d a) :
  wpOwn g A h (callWith e4 (.ref n) [] [(false,e)] []) c d a:=by
 unfold callWith
 refine wpOwn_bind (Ja (LM (wpOwn_mono b (λp k m=>wpOwn_of_wpAny (wpAny_bind (wpAny_standAt ?_))) λ_ _ a1=>a1)))
 have a9:∀{a8:Sem Value},wpAny g (A.under h) a8 c d k->wpAny g (A.under h) (a8>>=λX=>holding [X] point>>=λ_=>pure X) c d k:=
  λb7=>wpAny_bind (wpAny_mono b7 (λX a7 b6=>wpAny_bind (wpAny_holding (wpAny_point (wpAny_pure b6)))) λ_ _ e=>e)
 dsimp only[List.any_cons,List.any_nil,Bool.or_false]
 refine wpAny_bind (m:=keeperOf (.ref n)) ?_
 unfold keeperOf
 refine wpAny_bind (wpAny_load m.1.1 ?_)
 rw[m.1.2]
 refine wpAny_pure ?_
 first
  |exact a9 m.2
  |exact a9 (by unfold callMarked; exact Calls.wpAny_keep m.2)
end
noncomputable def Mi:Option Obj->Option FuncData
 |some o=>match o.data with
  |.func z=>some z
  |_=>none
 |none=>none
theorem LQ{o:Option Obj}(b:(Mi o).isSome=true):∃E z,o=some E/\E.data = .func z:=by
 unfold Mi at b
 split at b
 ·split at b
  ·rename_i i; exact⟨_,_,rfl,i⟩
  ·cases b
 ·cases b
noncomputable def Qf:Str:=Nk
noncomputable def GQ:Stmt->Str×List PySem.Expr×List Pos
 |.Try [.Assign [.Name q d2] (.Call (.Name _ d3) [.List a0 d6] _ d7) d8] [.ExceptHandler (some (.Name _ d9)) _ [.Return (some (.Compare (.Name _ e0) _ [.List _ e1] e2)) e3] d4] _ _ d5=>(q,a0,[d2,d3,d6,d7,d8,d9,e0,e1,e2,e3,d4,d5])
 |_=>(S [],[],[])
theorem VO:∃q d2 d3 a0 d6 d7 d8 d9 e0 e1 e2 e3 d4 d5,Jo 5 = .Try [.Assign [.Name q d2] (.Call (.Name Qf d3) [.List a0 d6] [] d7) d8] [.ExceptHandler (some (.Name IR d9)) none [.Return (some (.Compare (.Name D0 e0) [.NotEq] [.List [] e1] e2)) e3] d4] [] [] d5:=
 ⟨(GQ (Jo 5)).1,HC (GQ (Jo 5)).2.2 0,HC (GQ (Jo 5)).2.2 1,(GQ (Jo 5)).2.1,HC (GQ (Jo 5)).2.2 2,HC (GQ (Jo 5)).2.2 3,HC (GQ (Jo 5)).2.2 4,HC (GQ (Jo 5)).2.2 5,HC (GQ (Jo 5)).2.2 6,HC (GQ (Jo 5)).2.2 7,HC (GQ (Jo 5)).2.2 8,HC (GQ (Jo 5)).2.2 9,HC (GQ (Jo 5)).2.2 10,HC (GQ (Jo 5)).2.2 11,by kernel_rfl⟩
section
variable{s:Cx}(K:s.Ok)
include K
theorem LT{d:VP}{l:Env}{P:Str}{p:Value}{a:Shared}{c:VP}(L:l.scope.kind = .function)(x:l.kindOf P=some .globalImplicit)(M:∀f o,s.h₀.get? f=some o->a.heap.get? f=some o)(b5:G4 P (s.kt.get l.globals)=some (.pure (some p)))(b:c p a):wpAny (model pw s.w) A (loadName l P) c d a:=by
 obtain⟨y,N,b4⟩:=Fn b5
 have t:a.heap.get? l.globals=some y:=by
  have r:=KT.Holds.get K.kt N
  rw[Nat.one_mul,Nat.add_zero] at r
  exact M _ _ r
 rw[loadName_read L x]
 unfold loadGlobal nsGet
 refine wpAny_bind (wpAny_bind (wpAny_loadPart t ?_))
 rw[b4]
 exact wpAny_pure (wpAny_pure b)
theorem Pf{n:Nat}{E:Obj}{a:Shared}(M:∀f o,s.h₀.get? f=some o->a.heap.get? f=some o)(i:s.kt.get n=some E):a.heap.get? n=some E:=by
 have r:=KT.Holds.get K.kt i
 rw[Nat.one_mul,Nat.add_zero] at r
 exact M _ _ r
end
theorem VA{D f d0 q:Nat}{e:Value}{a0:List Value}{y H:Obj}{c d:VP}{a:Shared}{w:World}(b8:A.units<cLine)(x:a.heap.get? D=some y)(b1:y.cls = .type "list")(b2:y.data = .seq ⟨e::a0⟩ d0)(B:a.heap.get? f=some H)(a5:H.cls = .type "list")(b3:H.data = .seq ⟨[]⟩ q)(b:c (.bool true) a):wpAny (model pw w) A (compareOp .NotEq (.ref D) (.ref f)) c d a:=by
 show wpAny _ _ (richCompare .NotEq (.ref D) (.ref f)) _ _ _
 refine richCompare_meets_room (S:=λ_ R a=>a.heap.get? D=some y/\a.heap.get? f=some H/\R (.ok (.ret (.bool true))) a) ⟨_,x,b1⟩ ⟨_,B,a5⟩ F.slot_list_ne F.entry_list_ne (F.args_list_ne_2 _ _) ?_ ⟨x,B,⟨by simp,b⟩⟩ b8
 intro f2 w A R a b
 obtain⟨x,B,L⟩:=b
 show wpAny _ _ (isInstance (.ref f) (.type "list")>>=_) _ _ a
 refine wpAny_bind (wpAny_isInstance (T:= "list") (b:=true) ⟨_,B,a5⟩ AutoSeq1.sub_list_list ?_)
 show wpAny _ _ (Builtin.List.listItems (.ref D)>>=_) _ _ a
 refine wpAny_bind (listItems_at x b2 (wpAny_bind (listItems_at B b3 ?_)))
 rw[if_pos (by simp)]
 exact wpAny_bind (wpAny_rule (wpAny_pure L))
section
variable{b0:Params}{c8 c9 e5 a3 N c0 c1 c2 c3 c4 c5 e8 e9 f0 f1 c6 c7 i:Nat}{r:Int}
theorem Rw(e6:Array (Option Value)):nsLook D0 {Es b0 c8 c9 e5 a3 r N c0 c1 c2 c3 c4 c5 e8 e9 f0 f1 c6 c7 i with slots:=e6} = .pure (some (.ref a3)):=by kernel_rfl
end
end
section
section
variable{w:World}{j:Heap}{u:OsState}{q:List Value}{G:Nat}(i8:(V w j (I q G) u).Ok){a c i k l d r s t h x y z L M N P B D e c3 c4 c5 a4:Nat}{S:Int}
include i8
theorem Nl{H K c7:List (Str×Nat)}{p:Str×Nat}{a0:List (Str×Nat)}(g5:(H.map (·.1)).Nodup)(g6:(K.map (·.1)).Nodup)(f5:H.length<=63)(f6:K.length<=63)(e1:Y 1000 (H.map (·.1)) (K.map (·.1))=none)(b6:Room 200 A)(e7:A.frames=some []){c8:Shared}(a6:RepF (V w j (I q G) u) [(a,Es w.params i k l d S r s t h x y z L M N P B D e),(i,I (J H) c3),(k,I (J K) c4),(l,I (J c7) c5),(d,I (J (p::a0)) a4)] [] ([],[]) c8)(f3:∀f:Shared,(∀b m,j.get? b=some m->f.heap.get? b=some m)->AllBare f.gens->f.os=u->R (.ok (.ret (.bool true))) f) :
  wpOwn (model pw w) A (E5 a c) (PS a c) (postC pw w A R) (postE R) c8:=by
 obtain⟨h7,h9,g7,d0,c6,g8,i2,i3,g9,h0,h1,i4,i0,i1,b1⟩:=VO
 have d2:SR = .List d0 c6:=by unfold SR; rw[b1]; rfl
 obtain⟨m,b2,g4,d1⟩:=LQ (o:=(V w j (I q G) u).kt.get 273) (by kernel_rfl)
 have b7:Room 195 (A.under (E5 a c)):=b6.under rfl (by decide)
 have c0:(A.under (E5 a c)).frames=some [BS a c]:=E3 e7 _
 have g1:(A.under (E5 a c)).units<cLine:=by
  have:=b7.units
  unfold cLine
  lia
 have e3:(Qf==("__debug__" : Str))=false:=by decide +kernel
 have e4:(IR==("__debug__" : Str))=false:=by decide +kernel
 have e2:(D0==("__debug__" : Str))=false:=by decide +kernel
 unfold PS
 rw[GJ,b1]
 refine wpOwn_bind (Ku ?_)
 rw[arm_execs_cons]
 refine wpOwn_bind ?_
 refine wpOwn_mono (Q:=λb3 f=>b3 = .ret (.bool true)/\(∀b m,j.get? b=some m->f.heap.get? b=some m)/\AllBare f.gens/\f.os=u) (E:=λ_ _=>False) ?_ (λb3 f f2=>?_) (λ_ _ a1=>a1)
 rotate_left
 ·obtain⟨rfl,b4,a3,b5⟩:=f2
  refine Dp ?_
  show wpOwn _ _ _ (ret (.bool true)) _ _ _
  exact Dp (f3 f b4 a3 b5)
 refine NQ ?_
 rw[arm_execs_cons]
 refine wpOwn_bind ?_
 rw[arm_exec_Assign]
 refine wpOwn_bind (wpOwn_of_wpAny (wpAny_standAt ?_))
 show wpOwn _ _ _ (pure false>>=_) _ _ _
 refine wpOwn_bind (Dp ?_)
 rw[if_neg (by decide)]
 refine wpOwn_bind ?_
 show wpOwn _ _ _ (eval (.Name Qf g7) (BS a c)>>=λd4=>callWith g8 d4 [] [(false,eval (.List d0 c6) (BS a c))] []) _ _ _
 refine wpOwn_bind ?_
 rw[arm_eval_Name]
 refine wpOwn_of_wpAny (wpAny_bind (wpAny_standAt ?_))
 rw[e3]
 refine LT (s:=V w j (I q G) u) i8 (l:=BS a c) (P:=Qf) (p:=.ref 273) (by kernel_rfl) (by kernel_rfl) (λb o e=>Rep.old a6 b o e) (by kernel_rfl) ?_
 have f7:=RepF.sel [0,0,0] a6 (e:=[(a,Es w.params i k l d S r s t h x y z L M N P B D e),(i,I (J H) c3),(k,I (J K) c4)]) (f:=[(l,I (J c7) c5),(d,I (J (p::a0)) a4)]) rfl
 refine KB (o:=m) (z:=b2) ?_
 rw[<-d2]
 refine wpOwn_mono (E:=λ_ _=>False) ?_ (λ_ _ a1=>a1) (λ_ _ a1=>a1.elim)
 refine RN i8 f5 f6 b6 f7 λi5 h3 a8 a9 c1=>?_
 refine⟨⟨Pf (s:=V w j (I q G) u) i8 (λb o e=>Rep.old c1 b o e) g4,d1⟩,wpAny_call ?_⟩
 have f8:=RepF.sel [0,0,0] c1 (e:=[(h3,I [.ref a8,.ref a9] 0),(a8,I (J H) 0),(a9,I (J K) 0)]) (f:=[(a,Es w.params i k l d S r s t h x y z L M N P B D e)]) rfl
 have e5:287<=a:=Rep.hi a6 _ (List.mem_cons_self ..)
 refine KN i8 g5 g6 (by lia) (by lia) (m:=1000) (by lia) (b7.mono (by decide)) c0 f8 (λ_ h2 a3=>?_) (λh8 b0=>by rw[e1] at b0; cases b0) (λ_ d3 h4 h2 c9 b8 e6 d6 e0 f4=>?_)
 ·exact⟨by rw[JU]; decide,⟨a,_,rfl,IZ i8 e5,a3 (a,Es w.params i k l d S r s t h x y z L M N P B D e) (List.mem_cons_self ..),λa5 g=>by cases g⟩,trivial⟩
 have g0:c9.heap.get? a=some (Es w.params i k l d S r s t h x y z L M N P B D e):=b8 (a,Es w.params i k l d S r s t h x y z L M N P B D e) (List.mem_cons_self ..)
 have f9:c9.heap.get? d=some (I (J (p::a0)) a4):=b8 (d,I (J (p::a0)) a4) (List.mem_cons_of_mem _ (List.mem_cons_of_mem _ (List.mem_cons_self ..)))
 refine wpAny_looks_onW c0 rfl e6 λb4 d5 d7=>?_
 refine wpAny_landsW d5 λa3 a2 d8=>?_
 have b9:=(d6.trans d7).trans d8
 refine wpAny_handleBy_builtin (X:= "RuntimeError") (T:= "RuntimeError") (b:=true) PySem.F.isExc_RuntimeError PySem.F.notTuple_RuntimeError PySem.F.self_RuntimeError ?_
 rw[arm_eval_Name]
 refine wpAny_bind (wpAny_standAt ?_)
 rw[e4]
 refine Fi (c6:=V w j (I q G) u) i8 (b8:=BS a c) (d3:=IR) (a9:=.type "RuntimeError") (by kernel_rfl) (by kernel_rfl) (λb o e=>a2.1 b o e) (by kernel_rfl) (by kernel_rfl) ⟨rfl,?_,?_⟩
 ·obtain⟨_,_,_,h⟩:=a2
  obtain⟨ox,g2,V⟩:=Heap.TracedAtW.there (Heap.TracedW.at h)
  exact⟨ox,g2,V⟩
 rw[if_pos rfl]
 refine wpAny_setFlight_noneW a2.1 a2.2.2.1 a2.2.2.2.at λb5 g3 h5 h6 c2=>?_
 obtain⟨i7,f0⟩:=b9 a _ g0 (λa5 g=>by cases g)
 obtain⟨i6,e8⟩:=b9 d _ f9 (λa5 g=>by cases g)
 have f1:=c2 a _ f0 (λa5 g=>by cases g)
 have e9:=c2 d _ e8 (λa5 g=>by cases g)
 rw[arm_execs_cons]
 refine wpAny_bind ?_
 rw[arm_exec_Return]
 refine wpAny_bind (wpAny_standAt ?_)
 show wpAny _ _ (eval (.Compare (.Name D0 g9) [.NotEq] [.List [] h0] h1) (BS a c)>>=λa7=>pure (Flow.ret a7)) _ _ _
 refine wpAny_bind (wpAny_Compare1 ?_ rfl)
 refine Dr (MG a c) e2 f1 (Rw _) ?_
 refine If ?_
 refine VA (e:=.str p.1 p.2) (a0:=J a0) (show((A.under (E5 a c)).mark (some (.ref d3))).units<cLine from g1) (Heap.get?_push_of_some _ e9) rfl rfl (Heap.get?_push_size _ rfl) rfl rfl ?_
 refine wpAny_pure (wpAny_pure ⟨rfl,λb o d9=>Heap.get?_push_of_some _ (g3 b o d9),e0,f4⟩)
end
end
section
theorem EC{e l:List (Str×Nat)}(c:e.map (·.1)=l.map (·.1)):Ao e=Ao l:=funext λx=>by
 have p:∀a1:List (Str×Nat),Ao a1 x=(a1.map (·.1)).getD x.toNat ⟨⟨[]⟩⟩:=λa1=>by
  simp only[Ao,As,List.getD_eq_getElem?_getD,List.getElem?_map]
  cases a1[x.toNat]? <;> rfl
 rw[p,p,c]
theorem K3(x:Str):∀{d h:List (Str×Nat)},d.map (·.1)=h.map (·.1)->Cz x d=Cz x h
 |[],[],_=>rfl
 |[],_::_,c=>by cases c
 |_::_,[],c=>by cases c
 |q::d,c5::h,c=>by
  injection c with i k
  unfold Cz
  rw[K3 x k,show q.1=c5.1 from i]
section
variable{e l d h:List (Str×Nat)}(i:e.map (·.1)=l.map (·.1))(k:d.map (·.1)=h.map (·.1))
include i k
theorem Nv(D B r:Int)(g:H8):Cc e d D B r g=Cc l h D B r g:=by
 unfold Cc
 rw[EC i,K3 _ k]
theorem Iw(D B:Int):∀(n:Nat) (r:Int) (g:H8),DF e d D B n r g=DF l h D B n r g
 |0,_,_=>rfl
 |n+1,r,g=>by
  show DF e d D B n (r+1) (Cc e d D B r g)=DF l h D B n (r+1) (Cc l h D B r g)
  rw[Nv i k,Iw D B n]
theorem Mw(a b:Int):∀(n:Nat) (g:Eu),GA e d a b n g=GA l h a b n g
 |0,_=>rfl
 |n+1,g=>by
  unfold GA
  rw[EC i,EC k,Mw a b n]
theorem Mq(a b:Int):∀(n:Nat) (g:Eu),GD e d a b n g=GD l h a b n g
 |0,_=>rfl
 |n+1,g=>by
  unfold GD
  rw[EC i,EC k,Mq a b n]
theorem QJ(a b M b1:Int):Z e d a b M b1=Z l h a b M b1:=by
 unfold Z FQ Ci Az
 rw[Iw i k,Mw i k,Mq i k]
theorem KR:∀(n:Nat) (v:List Q4) (a7:List (Int×Int×Int)),qF e d n v a7=qF l h n v a7
 |0,_,_=>rfl
 |_+1,[],_=>rfl
 |n+1,b::v,a7=>by
  unfold qF
  have p:Ak e d b=Ak l h b:=QJ i k _ _ _ _
  have E:Bg e d b=Bg l h b:=by unfold Bg; rw[p]
  have b7:DW e d b=DW l h b:=by unfold DW; rw[p]
  rw[p,E,b7,KR n,KR n]
theorem QS:Bs e d=Bs l h:=by
 have b5:e.length=l.length:=by simpa using congrArg List.length i
 have a4:d.length=h.length:=by simpa using congrArg List.length k
 have b9:BK e d=BK l h:=by
  unfold BK
  rw[b5,a4,KR i k]
 have T:(J e).length=(J l).length:=by simp[J,b5]
 have E:(J d).length=(J h).length:=by simp[J,a4]
 unfold Bs Dm Dg
 rw[b9,T,E]
theorem Qn:DJ e d=DJ l h:=by
 have c0:BE e d=BE l h:=funext λx=>by rw[Dc,Dc,i,k]
 unfold DJ By
 rw[QS i k,c0]
end
structure I8(A m:List Str)(n:Nat):Prop where
 a:A.Nodup
 b:m.Nodup
 la:A.length<=n
 lb:m.length<=n
 sa:∀x∈A,x.length<1000
 sb:∀x∈m,x.length<1000
theorem JS(z:Int):(A0 z).length<1000:=by
 have:=HB 3 ((z.fdiv 4).fmod 1375274358112518144)
 show(Cf 3 _).length<1000
 omega
theorem I8.step{A m:List Str}{n:Nat}(c:I8 A m n)(z:Int):I8 (AI z A m).1 (AI z A m).2 (n+1):=by
 have a9:∀{A:List Str},¬ EO (A0 z) A=true->A0 z∉A:=λc y=>c (FT.mpr y)
 have L:=JS z
 have i:(AI z A m).1.Nodup/\(AI z A m).1.length<=n+1/\∀x∈(AI z A m).1,x.length<1000:=by
  show(if z.fmod 4=2 then A else if EO (A0 z) A then A else A++[A0 z]).Nodup/\_
  simp only[AI]
  split
  ·exact⟨c.a,Nat.le_succ_of_le c.la,c.sa⟩
  ·split
   ·exact⟨c.a,Nat.le_succ_of_le c.la,c.sa⟩
   ·rename_i a3
    refine⟨List.nodup_append.mpr ⟨c.a,by simp,λx f a6 a0 p=>?_⟩,by have:=c.la; simp; omega,λx f=>?_⟩
    ·rw[List.mem_singleton] at a0
     exact a9 a3 (a0▸p▸f)
    ·rcases List.mem_append.mp f with f |f
     ·exact c.sa x f
     ·rw[List.mem_singleton] at f; rw[f]; exact L
 have k:(AI z A m).2.Nodup/\(AI z A m).2.length<=n+1/\∀x∈(AI z A m).2,x.length<1000:=by
  simp only[AI]
  split
  ·exact⟨c.b,Nat.le_succ_of_le c.lb,c.sb⟩
  ·split
   ·exact⟨c.b,Nat.le_succ_of_le c.lb,c.sb⟩
   ·rename_i a3
    split
    ·refine⟨List.nodup_cons.mpr ⟨a9 a3,c.b⟩,by have:=c.lb; simp; omega,λx f=>?_⟩
     rcases List.mem_cons.mp f with f |f
     ·rw[f]; exact L
     ·exact c.sb x f
    ·refine⟨List.nodup_append.mpr ⟨c.b,by simp,λx f a6 a0 p=>?_⟩,by have:=c.lb; simp; omega,λx f=>?_⟩
     ·rw[List.mem_singleton] at a0
      exact a9 a3 (a0▸p▸f)
     ·rcases List.mem_append.mp f with f |f
      ·exact c.sb x f
      ·rw[List.mem_singleton] at f; rw[f]; exact L
 exact⟨i.1,k.1,i.2.1,k.2.1,i.2.2,k.2.2⟩
theorem I8.all:∀(t:List Int) {A m:List Str} {n:Nat},I8 A m n->I8 (Ab t A m).1 (Ab t A m).2 (n+t.length)
 |[],_,_,_,c=>c
 |z::t,A,m,n,c=>by
  have:=I8.all t (c.step z)
  rw[List.length_cons,show n+(t.length+1)=n+1+t.length by exact(Nat.succ_add ..).symm]
  exact this
theorem I8.of(t:List Int):I8 (Ab t [] []).1 (Ab t [] []).2 t.length:=by
 have:=I8.all t (A:=[]) (m:=[]) (n:=0) ⟨List.nodup_nil,List.nodup_nil,Nat.zero_le _,Nat.zero_le _,(λ_ c=>nomatch c),(λ_ c=>nomatch c)⟩
 rw[Nat.zero_add] at this
 exact this
theorem O5{e d:List (Str×Nat)}(a5:(e.map (·.1)).Nodup)(S:(d.map (·.1)).Nodup)(N:e.length<=63)(P:d.length<=63)(c7:∀x∈e.map (·.1),x.length<1000)(c8:∀x∈d.map (·.1),x.length<1000) :
  ∀b0∈By e d,1<=b0.cps.toList.length/\b0.length<=sizeLine:=by
 obtain⟨g,R⟩:=Gk a5 S N P
 have a8:∀(r:Nat) (x:Str),x.length<1000->1<=(AV r++x).cps.toList.length/\(AV r++x).length<=sizeLine:=λr x f=>by
  have p:(AV r++x).cps.toList.length=x.cps.toList.length+1:=by
   unfold AV
   split <;> (rw[Gu]; rfl)
  have E:(AV r++x).length=x.length+1:=by
   show(AV r++x).cps.size=x.cps.size+1
   simpa using p
  rw[p,E,sizeLine_eq]
  lia
 intro b0 Q
 rcases R.rows with c |⟨c,_⟩
 ·rw[c] at Q
  obtain⟨s,G,y⟩:=List.mem_flatMap.mp Q
  have b6:∀x,x∈s.1∨x∈s.2.2->x.length<1000:=λx f=>c7 x (R.a▸List.mem_flatMap.mpr ⟨s,G,List.mem_append.mpr f⟩)
  have c3:∀x,x∈s.2.1->x.length<1000:=λx f=>c8 x (R.b▸List.mem_flatMap.mpr ⟨s,G,List.mem_append.mpr (.inl f)⟩)
  rcases List.mem_append.mp y with y |y
  ·obtain⟨x,f,rfl⟩:=List.mem_map.mp y
   exact a8 _ _ (b6 x (.inl f))
  ·rcases List.mem_append.mp y with y |y
   ·obtain⟨x,f,rfl⟩:=List.mem_map.mp y
    exact a8 _ _ (c3 x f)
   ·obtain⟨x,f,rfl⟩:=List.mem_map.mp y
    exact a8 _ _ (b6 x (.inr f))
 ·rw[c] at Q; cases Q
theorem Kj:∀g:List (Sg Str),(GE g).length<=(fA g).length+(fB g).length
 |[]=>Nat.le_refl _
 |(a,b,p)::g=>by
  have c:=Kj g
  show((a.map (AV 1 ++ ·)++(b.map (AV 2 ++ ·)++p.map (AV 0 ++ ·)))++GE g).length<=((a++p)++fA g).length+((b++p)++fB g).length
  simp only[List.length_append,List.length_map]
  lia
theorem Nb{e d:List (Str×Nat)}(a5:(e.map (·.1)).Nodup)(S:(d.map (·.1)).Nodup)(N:e.length<=63)(P:d.length<=63):(By e d).length<90000:=by
 obtain⟨g,R⟩:=Gk a5 S N P
 rcases R.rows with c |⟨c,_⟩
 ·have:=Kj g
  rw[R.a,R.b,List.length_map,List.length_map] at this
  rw[c]; lia
 ·rw[c]; decide
theorem JX{g:List (Sg Str)}(c:GE g=[]):fA g=[]/\fB g=[]:=by
 have b2:∀s∈g,s.1=[]/\s.2.1=[]/\s.2.2=[]:=λs G=>by
  have:=List.flatMap_eq_nil_iff.mp c s G
  simpa using this
 constructor
 ·refine List.flatMap_eq_nil_iff.mpr λs G=>?_
  obtain⟨a,b,M⟩:=b2 s G
  rw[a,M]; rfl
 ·refine List.flatMap_eq_nil_iff.mpr λs G=>?_
  obtain⟨a,b,M⟩:=b2 s G
  rw[b,M]; rfl
theorem Np{e d:List (Str×Nat)}(a5:(e.map (·.1)).Nodup)(S:(d.map (·.1)).Nodup)(N:e.length<=63)(P:d.length<=63) :
  (DJ e d=[]/\By e d=[])∨By e d≠[]/\∃i k c2,DJ e d=i::k::c2::By e d:=by
 match H:Fx (Bs e d) with
 |[]=>left; unfold DJ By; rw[H]; exact⟨rfl,rfl⟩
 |x::a1=>
  by_cases a2:By e d=[]
  ·left
   obtain⟨b4,L,X,d0,c9⟩:=Gg S N P
   have K:=Hb S N P
   have T:=Hc b4 (Int.le_refl 0) (by simp) (L▸X)
   have E:=H9 b4 (Int.le_refl 0) (Int.le_refl 0) (by simp) (L▸X)
   rw[<-L] at T E
   have Q:=K.rows
   have b8:Fx (Bs e d)=Bs e d:=by
    cases b3:Bs e d with
    |nil=>rw[b3] at H; cases H
    |cons a6 a4=>cases a4 with
     |nil=>
      rw[b3] at H
      by_cases X:((AC a6.1).cps.toList==Bj)=true
      ·rw[show Fx [a6]=[] from if_pos X] at H; cases H
      ·exact if_neg X
     |cons=>rfl
   unfold By at a2
   rw[b8,Q] at a2
   obtain⟨c1,g2⟩:=JX a2
   rw[c1] at T
   rw[g2] at E
   have c4:e=[]:=by simpa using T.symm
   have c6:d=[]:=by simpa using E.symm
   subst c4 c6
   refine⟨KK.symm,?_⟩
   unfold By
   rw[KJ]; rfl
  ·right
   refine⟨a2,?_⟩
   unfold DJ
   rw[H]
   exact⟨_,_,_,rfl⟩
end
section
theorem Nz{g h:List (Str×Nat)}(s:(g.map (·.1)).Nodup)(t:(h.map (·.1)).Nodup)(q:g.length<=63)(r:h.length<=63)(c:By g h=[]):g.map (·.1)=h.map (·.1):=by
 obtain⟨b3,R⟩:=Gk s t q r
 rw[<-R.a,<-R.b]
 rcases R.rows with f |⟨_,a0,a1⟩
 ·rw[c] at f
  obtain⟨d9,g2⟩:=JX f.symm
  rw[d9,g2]
 ·have d9:∀Q∈b3,Q.1=[]:=List.flatMap_eq_nil_iff.mp a0
  have g2:∀Q∈b3,Q.2.1=[]:=List.flatMap_eq_nil_iff.mp a1
  unfold fA fB
  rw[List.flatMap_def,List.flatMap_def]
  congr 1
  refine List.map_congr_left λQ f3=>?_
  rw[d9 Q f3,g2 Q f3]
theorem JG{f4:List (Str×Nat)}(c:f4.map (·.1)=[]):f4=[]:=List.map_eq_nil_iff.mp c
theorem Nq{w:World}{j:Heap}{u:OsState}{b2:Nat}{e:List (Int×Nat)}(O:(V w j (I (vI e) b2) u).Ok)(H:e.length<=63)(k:Room 688 A)(g4:A.frames=some []){b3:Shared}(f:RepF (V w j (I (vI e) b2) u) [] [] ([],[]) b3)(f1:∀d:Shared,(∀a f7,j.get? a=some f7->d.heap.get? a=some f7)->AllBare d.gens->d.os=u->R (.ok (.ret (.bool true))) d) :
  codeAny (model pw w) A (.call (.ref 285) ⟨[.ref 286],[]⟩) R b3:=by
 have G:∀d,RepF (V w j (I (vI e) b2) u) [] [] ([],[]) d->R (.ok (.ret (.bool true))) d:=λd c=>f1 d (λa o y=>Rep.old c a o y) (Rep.bare c) (Rep.os c)
 match e,O,H,f,G with
 |[],O,H,f,G=>
  refine Vn O k f λd z d8 b0 b1 E T M a5 a6 a7 a8 a9 c3 y e9 d0 B=>?_
  exact Jx (f:=[]) (e:=[]) (a0:=[]) (h:=[]) Ud Tb UN Tj (k.mono (by decide)) B (λc=>by cases c) (λ_=>rfl) G
 |(S,f9)::e,O,H,f,G=>
  have e8:e.length<=90:=by simp at H; lia
  have x:=I8.of (S::e.map (·.1))
  have q:(Ab (S::e.map (·.1)) [] []).1.length<=63:=Nat.le_trans x.la (by simpa using H)
  have r:(Ab (S::e.map (·.1)) [] []).2.length<=63:=Nat.le_trans x.lb (by simpa using H)
  have s:=x.a
  have t:=x.b
  have b4:=x.sa
  have b5:=x.sb
  generalize e1:Ab (S::e.map (·.1)) [] []=D at x q r s t b4 b5
  have b6:∀b,(toks D.1 b).map (·.1)=D.1:=Aq _
  have b7:∀b,(toks D.2 b).map (·.1)=D.2:=Aq _
  have N:((toks D.1 0).map (·.1)).Nodup:=by rw[b6]; exact s
  have P:((toks D.2 0).map (·.1)).Nodup:=by rw[b7]; exact t
  have K:(toks D.1 0).length<=63:=by rw[AB]; exact q
  have L:(toks D.2 0).length<=63:=by rw[AB]; exact r
  have c2:=O5 N P K L (by rw[b6]; exact b4) (by rw[b7]; exact b5)
  have e2:=Nb N P K L
  have c1:=Nz N P K L
  have e5:(V w j (I (vI ((S,f9)::e)) b2) u).kt.get 286=some (I (vI ((S,f9)::e)) b2):=by kernel_rfl
  have e3:=Np N P K L
  have e6:=λc8=>NK (q:=1000) (a3:=c8) N P K L (by omega)
  have e4:=Nd (q:=1000) N P K L (by omega)
  have e7:∀b a,DJ (toks D.1 b) (toks D.2 a)=DJ (toks D.1 0) (toks D.2 0):=λb a=>Qn ((b6 b).trans (b6 0).symm) ((b7 a).trans (b7 0).symm)
  rw[b6,b7] at e6 e4 c1
  generalize By (toks D.1 0) (toks D.2 0)=bs at c2 e2 c1 e3 e6 e4
  cases a2:Y 1000 D.1 D.2 with
  |some c8=>
   obtain⟨h2,h3,f8⟩:=e6 c8 a2
   rcases e3 with⟨a3,l⟩ |⟨l,a0,a1,e0,a3⟩
   ·have a4:∀b a,DJ (toks D.1 b) (toks D.2 a)=[]:=λb a=>(e7 b a).trans a3
    subst e1
    refine UK O e5 e8 s t q r b4 b5 a4 a2 k f λd z d8 b0 b1 E T M d6 a5 a6 a7 c4 c5 c6 c7 d2 d3 d4 d5 a8 a9 c3 y g h c9 f5 f6 d1 e9 d0 i p b9 B=>?_
    have c0:E6 g h=true:=EV (by rw[i,p]; exact c1 l)
    exact Jx (a0:=[]) O2 OD Oy Pw (k.mono (by decide)) B (λc=>by rw[c0] at c; cases c) (λ_=>by rw[b9,i]; exact f8 (c1 l)) G
   ·have a4:∀b a,DJ (toks D.1 b) (toks D.2 a)=a0::a1::e0::bs:=λb a=>(e7 b a).trans a3
    subst e1
    refine TQ O e5 e8 s t q r b4 b5 a4 l e2 c2 a2 k f λd z d8 b0 b1 E T M d6 a5 a6 a7 c4 c5 c6 c7 d2 d3 d4 d5 a8 a9 c3 y g h m d7 c9 f5 f6 d1 e9 d0 i p X b8 b9 B=>?_
    rw[h2] at b8
    have g3:=JG b8
    subst g3
    refine Jx O2 OD Oy Pw (k.mono (by decide)) B (λc i0 h8 g7 g1=>?_) (λc=>?_) G
    ·have f2:g.map (·.1)≠h.map (·.1):=of_decide_eq_false c
     rw[i,p] at f2
     have g8:=RepF.sel [0,2,3] g7 (e:=[(z,DM w.params b0 b1 E T M d6 a5 a6 a7 c4 c5 c6 c7 d2 d3 d4 d5 a8 a9 c3 y),(E,I (J m) d1),(M,I (J c9) d0)]) rfl
     have g9:=RepF.sel [0,0] g8 (e:=[(z,DM w.params b0 b1 E T M d6 a5 a6 a7 c4 c5 c6 c7 d2 d3 d4 d5 a8 a9 c3 y),(E,I (J m) d1)]) (f:=[(M,I (J c9) d0)]) rfl
     have g6:Er m:=λh4 f=>c2 h4.1 (X▸List.mem_map_of_mem f)
     have h9:m.length=bs.length:=by rw[<-X,List.length_map]
     have g5:true = !m.isEmpty:=by
      cases m with
      |nil=>exact absurd X.symm l
      |cons=>rfl
     refine RJ O g6 (by omega) g5 (k.mono (by decide)) g9 λh5 h6 h7 h1 g0 h0=>?_
     refine g1 h5 h6 h7 h1 (by rw[g0,b9,X]; exact(h3 f2).symm) ?_
     exact RepF.keep [_,_] (RepF.keep [_,_] h0)
    ·have c0:g.map (·.1)=h.map (·.1):=of_decide_eq_true c
     rw[i,p] at c0
     rw[b9,i]; exact f8 c0
  |none=>
   have f0:=e4 a2
   rcases e3 with⟨_,l⟩ |⟨l,a0,a1,e0,a3⟩
   ·rw[l] at f0; exact absurd rfl f0
   ·have a4:∀b a,DJ (toks D.1 b) (toks D.2 a)=a0::a1::e0::bs:=λb a=>(e7 b a).trans a3
    subst e1
    refine Vl O e5 e8 s t q r b4 b5 a4 l e2 c2 k f λd z d8 b0 b1 E T d6 a5 a6 a7 c4 c5 c6 c7 d2 d3 d4 d5 a8 a9 y g h m d7 f5 f6 d1 e9 i p X b8 B=>?_
    cases d7 with
    |nil=>exact absurd b8.symm f0
    |cons i1 d7=>
     exact Nl O (by rw[i]; exact s) (by rw[p]; exact t) (by rw[<-List.length_map (f:=(·.1)),i]; exact q) (by rw[<-List.length_map (f:=(·.1)),p]; exact r) (by rw[i,p]; exact a2) (k.mono (by decide)) g4 B f1
end
section
theorem ints_vI:∀{p:List Value} {m:List Int},IntsAre p m->∃c:List (Int×Nat),p=vI c/\c.length=m.length
 |_,_,.nil=>⟨[],rfl,rfl⟩
 |_,_,.cons H h b=>by
  obtain⟨c,e,G⟩:=ints_vI b
  exact⟨(H,h)::c,by rw[e]; rfl,by simp[G]⟩
theorem OJ{b f:Heap}{K:Frag}{h:KT}(e:KT.of K=h)(A:AllIn b K)(k:∀d o,b.get? d=some o->f.get? d=some o):KT.Holds f 1 0 h:=by
 subst e
 exact KT.Holds.keeps k (holds_of A)
theorem kt_of{i:Params}{b f:Heap}(A:AllIn b (K i))(k:∀d o,b.get? d=some o->f.get? d=some o):KT.Holds f 1 0 (ktQ i):=
 OJ (QO i) A k
theorem Js:Room 688 callerA:=⟨by decide +kernel,by decide +kernel,rfl,⟨[],rfl⟩,⟨[],rfl⟩⟩
theorem law_fin{w:World}{a:Shared}{c:List (Int×Nat)}{l q:VP}(s:KT.Holds a.heap 1 0 (ktQ w.params))(y:a.heap.NoLimit)(D:a.heap.objs.size=287)(t:a.gens = #[])(B:a.heap.get? 286=some (I (vI c) 0))(E:c.length<=63)(x:∀g:Shared,(∀d n,a.heap.get? d=some n->g.heap.get? d=some n)->AllBare g.gens->g.os=a.os->l (.bool true) g) :
  wpAny (model pw w) callerA (call (.ref 285) [.ref 286] []) l q a:=by
 have r:KT.Holds a.heap 1 0 (Sk w.params (I (vI c) 0)):=by
  rw[<-QA]
  exact KT.Holds.put 40 s (by rw[Nat.one_mul,Nat.add_zero]; exact B)
 have O:(V w a.heap (I (vI c) 0) a.os).Ok:=⟨D,r,y⟩
 have z:RepF (V w a.heap (I (vI c) 0) a.os) [] [] ([],[]) a:=
  ⟨(λ_ b=>nomatch b),List.nodup_nil,(λ_ b=>nomatch b),(λ_ _ e=>e),(by show 287<=a.heap.objs.size; lia),(λ_ b=>nomatch b),List.nodup_nil,AllBare.of_eq t,rfl⟩
 refine wpAny_call (Nq O E Js rfl z x)
end
end Mine
set_option maxHeartbeats 0 in
theorem PySem.Challenge.cw_mu0002_05_holds : PySem.Challenge.rw_mu0002_05.Holds := by
  w_on
  refine Mine.WJ fun said => ?_
  refine holds_openX (q := view Mine.pw Mine.keepL) (loose := Mine.loN) (Xt := Mine.XtP Mine.pw) (XP := XL (view Mine.pw Mine.keepL) []) (Yf := obsZ Mine.kas) (Ya := valZ Mine.K 286 674) (N := 4780) Mine.left (fun s e => xl_of s (Bool.and_eq_true_iff.mp e).1) XL.keeps (by rfl) (by rfl) (by rfl) (fun s e => recFacts_of (Bool.and_eq_true_iff.mp e).2) (by rfl) (by first | assumption | decide +kernel) (by decide +kernel) ⟨rfl, rfl, rfl, rfl, rfl, by decide +kernel⟩ ?hw ?hc
  case hw => w_witness2
  k_fill
  intro w s₀ s₁ mg mb G y fa o pm cd doc dV kV ho hd hcd hD hmg hg args vals as L hpre hlay hrd hwl hlo
  obtain ⟨fA, fI, fN, fT⟩ := z_facts Mine.Va y
  refine Ground.open G ?_
  intro T B D TE TW
  clear hd hcd
  wrow_args hpre hlay hrd hwl hlo
  rename_i ns _ _ _ _ _ _ _ a its _ hLst _ _ _ hI _ hc1 _
  have KX : Frag.In (Mine.K w.params) s₁.heap := InK.keeps w s₀.heap s₁.heap fI L.keeps
  x_fa T KX hmg
  obtain ⟨hat, hsz⟩ := script_at L
  have hobj := script_obj L hLst
  rw [fN] at hat hsz
  subst hat
  obtain ⟨zl, e1, e2⟩ := Mine.ints_vI hI
  subst e1
  have hH : KT.Holds s₁.heap 1 0 (Mine.ktQ w.params) := Mine.kt_of fA L.keeps
  refine Mine.law_fin hH T.nolimit hsz hg hobj (by lia) fun s' h1 h2 h3 => ?_
  refine ⟨.inl ⟨.bool true, .bool true, [], rfl, fun cls => rfl, ReadsW.bool _, ?_, fun hu => ⟨List.nodup_nil, fun _ h => nomatch h⟩⟩, OldK.of_keep h1, h3, h2⟩
  exact postW_of (by wrow_shape) (by wtm_val) (by str_meet; first | done | w_fin)
