import PyProof.Rows.All
import Wide.All
import OpenK.AllK
import Wide.FinOn
import PySem.Challenge.RW_ij0114_01
set_option Elab.async false
set_option compiler.extract_closed false
set_option tactic.hygienic false
set_option genSizeOf false
set_option genInjectivity false
set_option maxRecDepth 100000
set_option linter.unusedVariables false
set_option maxHeartbeats 8000000
namespace Mine
open Eq (substr)
open List (length_map getElem?_map getElem?_eq_getElem map_append map_map length_append length_cons map_cons length_drop mem_of_getElem? lookup_cons_self length_take mem_cons_self)
inductive LT where
 | v(i:Nat) | c (n:Nat) | a (x y:LT) | m (k:Nat)(x:LT) | r (x:LT)(k:Nat) | z (i:Nat) | d (k:Int) | n (x:LT) | s (x y:LT) | g (x:LT)
inductive LF where
 | ff | le (x y:LT) | lt (x y:LT) | eq (x y:LT) | zle (x y:LT) | zlt (x y:LT) | zeq (x y:LT) | no (f:LF) | an (f g:LF) | or (f g:LF)
noncomputable def LT.nv(c:List Nat):LT->Nat
 | .v i=>c.getD i 0
 | .c k=>k
 | .a x y=>x.nv c+y.nv c
 | .m k x=>k*x.nv c
 | .r x k=>x.nv c*k
 | _=>0
noncomputable def LT.zv(c:List Nat)(d:List Int):LT->Int
 | .z i=>d.getD i 0
 | .d k=>k
 | .n x=>(x.nv c:Int)
 | .a x y=>x.zv c d+y.zv c d
 | .s x y=>x.zv c d-y.zv c d
 | .g x => - x.zv c d
 | .m k x=>(k:Int)*x.zv c d
 | .r x k=>x.zv c d*(k:Int)
 | _=>0
noncomputable def LF.den(c:List Nat)(d:List Int):LF->Prop
 | .ff=>False
 | .le x y=>x.nv c<=y.nv c
 | .lt x y=>x.nv c<y.nv c
 | .eq x y=>x.nv c=y.nv c
 | .zle x y=>x.zv c d<=y.zv c d
 | .zlt x y=>x.zv c d<y.zv c d
 | .zeq x y=>x.zv c d=y.zv c d
 | .no f=>¬ f.den c d
 | .an f g=>f.den c d/\g.den c d
 | .or f g=>f.den c d\/g.den c d
noncomputable abbrev Po:=List Int
noncomputable def dot:Po->List Int->Int
 | a::p,b::e=>a*b+dot p e
 | _,_=>0
noncomputable def qdM:Po->Po->Po
 | [],q=>q
 | p,[]=>p
 | a::p,b::q=>(a+b)::qdM p q
noncomputable def qcK:Nat->Po
 | 0=>[1]
 | i+1=>0::qcK i
noncomputable def qdN(k:Int):Po->Po
 | []=>[]
 | a::p=>(k*a)::qdN k p
theorem qi8{e:List Int}:dot [] e=0:=rfl
theorem qmN{a:Int}{p:Po}:dot (a::p) []=0:=rfl
theorem qmO{a b:Int}{p:Po}{e:List Int}:dot (a::p) (b::e)=a*b+dot p e:=rfl
theorem qpJ{q:Po}:qdM [] q=q:=rfl
theorem qpK{a:Int}{p:Po}:qdM (a::p) []=a::p:=rfl
theorem qeF:∀(p q:Po) (e:List Int),dot (qdM p q) e=dot p e+dot q e
 | [],q,e=>by cases q<;>cases e<;>simp[qpJ,qi8,qmN,qmO]
 | a::p,[],e=>by cases e<;>simp[qpK,qi8,qmN,qmO]
 | a::p,b::q,[]=>rfl
 | a::p,b::q,x::e=>by
  show(a+b)*x+dot (qdM p q) e=a*x+dot p e+(b*x+dot q e)
  refine substr (qeF p q e) (substr (Int.add_mul ..) ?_);ac_rfl
theorem qdw(k:Int):∀(p:Po) (e:List Int),dot (qdN k p) e=k*dot p e
 | [],e=>by cases e<;>exact(Int.mul_zero k).symm
 | a::p,[]=>(Int.mul_zero k).symm
 | a::p,x::e=>by
  show k*a*x+dot (qdN k p) e=k*(a*x+dot p e)
  refine substr (qdw k p e) (substr (Int.mul_add ..) (substr (Int.mul_assoc ..) rfl))
theorem qfc:∀(i:Nat) (e:List Int),dot (qcK i) e=e.getD i 0
 | 0,[]=>rfl
 | 0,x::e=>by show 1*x+dot [] e=x;cases e<;>simp[qi8]
 | i+1,[]=>rfl
 | i+1,x::e=>by show 0*x+dot (qcK i) e=e.getD i 0;refine substr (qfc i e) (substr (Int.zero_mul ..) (substr (Int.zero_add ..) rfl))
noncomputable def qi9(c:List Nat):List Int:=1::c.map Int.ofNat
theorem qrH(c:List Nat)(i:Nat):(qi9 c).getD (i+1) 0=(c.getD i 0:Nat):=by
 simp only[qi9,List.getD_eq_getElem?_getD,List.getElem?_cons_succ,getElem?_map]
 cases c[i]?<;>rfl
noncomputable abbrev PZ:=Po×Po
noncomputable def val(c:List Nat)(d:List Int)(p:PZ):Int:=dot p.1 (qi9 c)+dot p.2 d
noncomputable def qdo(p q:PZ):PZ:=(qdM p.1 q.1,qdM p.2 q.2)
noncomputable def qct(k:Int)(p:PZ):PZ:=(qdN k p.1,qdN k p.2)
noncomputable def qly(k:Int):PZ:=([k],[])
section
variable{c:List Nat}{d:List Int}
theorem qdx(p q:PZ):val c d (qdo p q)=val c d p+val c d q:=by
 unfold val qdo;refine substr (qeF ..) (substr (qeF ..) ?_);ac_rfl
theorem qcU(k:Int)(p:PZ):val c d (qct k p)=k*val c d p:=by
 unfold val qct;refine substr (qdw ..) (substr (qdw ..) (substr (Int.mul_add ..) rfl))
theorem qca(e:List Int):dot [] e=0:=by cases e<;>rfl
theorem qiw(k:Int):val c d (qly k)=k:=by
 show k*1+dot [] (c.map Int.ofNat)+dot [] d=k
 rw[qca,qca,Int.mul_one,Int.add_zero,Int.add_zero]
end
noncomputable def LT.pn:LT->Po
 | .v i=>qcK (i+1)
 | .c k=>[(k:Int)]
 | .a x y=>qdM x.pn y.pn
 | .m k x=>qdN k x.pn
 | .r x k=>qdN k x.pn
 | _=>[]
noncomputable def LT.pz:LT->PZ
 | .z i=>([],qcK i)
 | .d k=>qly k
 | .n x=>(x.pn,[])
 | .a x y=>qdo x.pz y.pz
 | .s x y=>qdo x.pz (qct (-1) y.pz)
 | .g x=>qct (-1) x.pz
 | .m k x=>qct k x.pz
 | .r x k=>qct k x.pz
 | _=>([],[])
theorem qfw(c:List Nat):∀ t:LT,dot t.pn (qi9 c)=(t.nv c:Int)
 | .v i=>by show dot (qcK (i+1)) _=_;refine substr (qfc ..) (substr (qrH ..) ?_);rfl
 | .c k=>by show(k:Int)*1+dot [] _=k;refine substr (qca ..) (substr (Int.mul_one ..) (substr (Int.add_zero ..) rfl))
 | .a x y=>by show dot (qdM _ _) _=((x.nv c+y.nv c:Nat):Int);refine substr (qeF ..) (substr (qfw c x) (substr (qfw c y) ?_));rfl
 | .m k x=>by show dot (qdN _ _) _=((k*x.nv c:Nat):Int);refine substr (qdw ..) (substr (qfw c x) ?_);rfl
 | .r x k=>by show dot (qdN _ _) _=((x.nv c*k:Nat):Int);refine substr (qdw ..) (substr (qfw c x) (substr (Int.mul_comm ..) ?_));rfl
 | .z _=>rfl
 | .d _=>rfl
 | .n _=>rfl
 | .s _ _=>rfl
 | .g _=>rfl
section
variable(c:List Nat)(d:List Int)
theorem qeG:val c d ([],[])=0:=by unfold val;rw[qca,qca];rfl
theorem qaM(t:LT):val c d (t.pn,[])=(t.nv c:Int):=by unfold val;refine substr (qca ..) (substr (Int.add_zero ..) ?_);exact qfw c t
theorem qaP:∀ t:LT,val c d t.pz=t.zv c d
 | .z i=>by show dot [] _+dot (qcK i) d=d.getD i 0;refine substr (qca ..) (substr (qfc ..) (substr (Int.zero_add ..) rfl))
 | .d k=>qiw k
 | .n x=>qaM c d x
 | .a x y=>by show val c d (qdo _ _)=x.zv c d+y.zv c d;refine substr (qdx ..) (substr (qaP x) (substr (qaP y) rfl))
 | .s x y=>by show val c d (qdo _ (qct _ _))=x.zv c d-y.zv c d;refine substr (qdx ..) (substr (qcU ..) (substr (qaP x) (substr (qaP y) (substr (Int.neg_one_mul ..) ?_))));rfl
 | .g x=>by show val c d (qct _ _) = - x.zv c d;refine substr (qcU ..) (substr (qaP x) (substr (Int.neg_one_mul ..) rfl))
 | .m k x=>by show val c d (qct _ _)=(k:Int)*x.zv c d;refine substr (qcU ..) (substr (qaP x) rfl)
 | .r x k=>by show val c d (qct _ _)=x.zv c d*(k:Int);refine substr (qcU ..) (substr (qaP x) (substr (Int.mul_comm ..) rfl))
 | .v _=>qeG c d
 | .c _=>qeG c d
end
noncomputable def gap(k:Int)(x y:PZ):PZ:=qdo (qly (-k)) (qdo y (qct (-1) x))
noncomputable abbrev Br:=List (List PZ)
noncomputable def qho(A B:Br):Br:=A.flatMap fun a=>B.map fun b=>a++b
noncomputable def ltB(x y:PZ):Br:=[[gap 1 x y]]
noncomputable def leB(x y:PZ):Br:=[[gap 0 x y]]
noncomputable def eqB(x y:PZ):Br:=[[gap 0 x y,gap 0 y x]]
noncomputable def neB(x y:PZ):Br:=[[gap 1 x y],[gap 1 y x]]
noncomputable def LF.br:LF->Bool->Br
 | .ff,b=>bif b then[] else[[]]
 | .le x y,b=>bif b then leB (x.pn,[]) (y.pn,[]) else ltB (y.pn,[]) (x.pn,[])
 | .lt x y,b=>bif b then ltB (x.pn,[]) (y.pn,[]) else leB (y.pn,[]) (x.pn,[])
 | .eq x y,b=>bif b then eqB (x.pn,[]) (y.pn,[]) else neB (x.pn,[]) (y.pn,[])
 | .zle x y,b=>bif b then leB x.pz y.pz else ltB y.pz x.pz
 | .zlt x y,b=>bif b then ltB x.pz y.pz else leB y.pz x.pz
 | .zeq x y,b=>bif b then eqB x.pz y.pz else neB x.pz y.pz
 | .no f,b=>f.br !b
 | .an f g,b=>bif b then qho (f.br true) (g.br true) else f.br false++g.br false
 | .or f g,b=>bif b then f.br true++g.br true else qho (f.br false) (g.br false)
section
variable(c:List Nat)(d:List Int)
noncomputable def Sat(B:Br):Prop:=∃ b∈B,∀ p∈b,0<=val c d p
variable{c d}
theorem qcV(k:Int)(x y:PZ):val c d (gap k x y)=val c d y-val c d x-k:=by
 unfold gap;refine substr (qdx ..) (substr (qiw ..) (substr (qdx ..) (substr (qcU ..) ?_)));omega
theorem qmP{A B:Br}(h:Sat c d A):Sat c d (A++B):=by
 obtain⟨b,hb,k⟩:=h;exact⟨b,List.mem_append_left _ hb,k⟩
theorem qja{A B:Br}(h:Sat c d B):Sat c d (A++B):=by
 obtain⟨b,hb,k⟩:=h;exact⟨b,List.mem_append_right _ hb,k⟩
theorem qjb{A B:Br}(h:Sat c d A)(g:Sat c d B):Sat c d (qho A B):=by
 obtain⟨a,ha,k⟩:=h
 obtain⟨b,hb,j⟩:=g
 exact⟨a++b,List.mem_flatMap.mpr ⟨a,ha,List.mem_map.mpr ⟨b,hb,rfl⟩⟩,fun p hp=>(List.mem_append.mp hp).elim (k p) (j p)⟩
theorem qg6{p:PZ}{B:Br}(h:0<=val c d p):Sat c d ([p]::B):=⟨[p],mem_cons_self ..,fun q hq=>by refine substr (List.mem_singleton.mp hq) ?_;exact h⟩
theorem qfx{x y:PZ}(h:val c d x<=val c d y):Sat c d (leB x y):=qg6 (by refine substr (qcV ..) ?_;omega)
theorem qfy{x y:PZ}(h:val c d x<val c d y):Sat c d (ltB x y):=qg6 (by refine substr (qcV ..) ?_;omega)
theorem qkq{x y:PZ}(h:val c d x=val c d y):Sat c d (eqB x y):=
 ⟨_,mem_cons_self ..,fun q hq=>by
  rcases List.mem_cons.mp hq with rfl | hq
  ·refine substr (qcV ..) ?_;omega
  ·refine substr (List.mem_singleton.mp hq) (substr (qcV ..) ?_);omega⟩
theorem qkr{x y:PZ}(h:¬ val c d x=val c d y):Sat c d (neB x y):=by
 rcases Int.lt_or_gt_of_ne h with q | q
 ·exact qg6 (by refine substr (qcV ..) ?_;omega)
 ·exact qja (A:=[_]) (qg6 (by refine substr (qcV ..) ?_;omega))
theorem qb4:∀(f:LF),(f.den c d->Sat c d (f.br true))/\(¬ f.den c d->Sat c d (f.br false))
 | .ff=>⟨fun h=>h.elim,fun _=>⟨[],mem_cons_self ..,fun _ h=>nomatch h⟩⟩
 | .le x y=>⟨fun h=>qfx (by refine substr (qaM ..) (substr (qaM ..) ?_);exact Int.ofNat_le.mpr h),fun h=>qfy (by refine substr (qaM ..) (substr (qaM ..) ?_);exact Int.ofNat_lt.mpr (Nat.lt_of_not_le h))⟩
 | .lt x y=>⟨fun h=>qfy (by refine substr (qaM ..) (substr (qaM ..) ?_);exact Int.ofNat_lt.mpr h),fun h=>qfx (by refine substr (qaM ..) (substr (qaM ..) ?_);exact Int.ofNat_le.mpr (Nat.le_of_not_lt h))⟩
 | .eq x y=>⟨fun h=>qkq (by refine substr (qaM ..) (substr (qaM ..) ?_);exact congrArg _ h),fun h=>qkr (by refine substr (qaM ..) (substr (qaM ..) ?_);exact fun e=>h (Int.ofNat.inj e))⟩
 | .zle x y=>⟨fun h=>qfx (by refine substr (qaP ..) (substr (qaP ..) ?_);exact h),fun h=>qfy (by refine substr (qaP ..) (substr (qaP ..) ?_);exact Int.lt_of_not_ge h)⟩
 | .zlt x y=>⟨fun h=>qfy (by refine substr (qaP ..) (substr (qaP ..) ?_);exact h),fun h=>qfx (by refine substr (qaP ..) (substr (qaP ..) ?_);exact Int.le_of_not_gt h)⟩
 | .zeq x y=>⟨fun h=>qkq (by refine substr (qaP ..) (substr (qaP ..) ?_);exact h),fun h=>qkr (by refine substr (qaP ..) (substr (qaP ..) ?_);exact h)⟩
 | .no f=>⟨(qb4 f).2,fun h=>(qb4 f).1 (Classical.not_not.mp h)⟩
 | .an f g=>⟨fun h=>qjb ((qb4 f).1 h.1) ((qb4 g).1 h.2),fun h=>(Classical.em (f.den c d)).elim (fun q=>qja ((qb4 g).2 fun r=>h ⟨q,r⟩)) fun q=>qmP ((qb4 f).2 q)⟩
 | .or f g=>⟨fun h=>h.elim (fun q=>qmP ((qb4 f).1 q)) fun q=>qja ((qb4 g).1 q),fun h=>qjb ((qb4 f).2 fun q=>h (.inl q)) ((qb4 g).2 fun q=>h (.inr q))⟩
end
structure LR where
 hs:List LF
 g:LF
 k:Nat
 w:List Nat
noncomputable def LR.brs(r:LR):Br:=r.hs.foldr (fun f B=>qho (f.br true) B) (r.g.br false)
noncomputable def qjc:Nat->List PZ
 | 0=>[]
 | k+1=>(qcK (k+1),[])::qjc k
noncomputable def cmb:List Nat->List PZ->PZ
 | k::ks,p::ps=>qdo (qct k p) (cmb ks ps)
 | _,_=>([],[])
noncomputable def qfz:Po->Bool
 | []=>true
 | a::p=>(a==0)&&qfz p
noncomputable def bad:PZ->Bool
 | (a::p,q)=>decide (a<0)&&(qfz p&&qfz q)
 | _=>false
noncomputable def okW(n:List PZ):List (List Nat)->Br->Bool
 | _,[]=>true
 | w::ws,b::B=>bad (cmb w (b++n))&&okW n ws B
 | _,_=>false
noncomputable def dg:Nat->Nat->List Nat
 | 0,_=>[]
 | f+1,n=>n%16::dg f (n/16)
noncomputable def LR.ok(r:LR):Bool:=okW (qjc r.k) (r.w.map (dg 40)) r.brs
noncomputable def LR.den(c:List Nat)(d:List Int)(r:LR):Prop:=r.hs.foldr (fun f P=>f.den c d->P) (r.g.den c d)
section
variable{c:List Nat}{d:List Int}
theorem qix:∀ k,∀ p∈qjc k,0<=val c d p
 | k+1,p,h=>by
  rcases List.mem_cons.mp h with rfl | h
  ·have:=qaM c d (.v k)
   rw[show(LT.v k).pn=qcK (k+1) from rfl] at this
   refine substr this ?_;exact Int.natCast_nonneg _
  ·exact qix k p h
theorem qks:∀(w:List Nat) (ps:List PZ),(∀ p∈ps,0<=val c d p)->0<=val c d (cmb w ps)
 | [],ps,_=>by show 0<=val c d ([],[]);refine substr (qeG ..) ?_;exact Int.le_refl _
 | _::_,[],_=>by show 0<=val c d ([],[]);refine substr (qeG ..) ?_;exact Int.le_refl _
 | k::ks,p::ps,h=>by
  show 0<=val c d (qdo (qct k p) (cmb ks ps))
  refine substr (qdx ..) (substr (qcU ..) ?_)
  exact Int.add_nonneg (Int.mul_nonneg (Int.natCast_nonneg _) (h p (mem_cons_self ..))) (qks ks ps fun q hq=>h q (List.mem_cons_of_mem _ hq))
theorem qhp:∀(p:Po) (e:List Int),qfz p=true->dot p e=0
 | [],e,_=>qca e
 | a::p,[],_=>rfl
 | a::p,x::e,h=>by
  have h:=(Bool.and_eq_true _ _).mp h
  show a*x+dot p e=0
  refine substr (qhp p e h.2) (substr (eq_of_beq h.1) (substr (Int.zero_mul ..) ?_));rfl
theorem qpL:∀(p:PZ),bad p=true->val c d p<0
 | ([],q),h=>by cases h
 | (a::p,q),h=>by
  have h:=(Bool.and_eq_true _ _).mp h
  have k:=(Bool.and_eq_true _ _).mp h.2
  show a*1+dot p (c.map Int.ofNat)+dot q d<0
  refine substr (qhp p _ k.1) (substr (qhp q _ k.2) (substr (Int.mul_one ..) (substr (Int.add_zero ..) (substr (Int.add_zero ..) ?_))))
  exact of_decide_eq_true h.1
theorem qkt{n:List PZ}(hn:∀ p∈n,0<=val c d p):∀(ws:List (List Nat)) (B:Br),okW n ws B=true->¬ Sat c d B
 | _,[],_,⟨_,h,_⟩=>nomatch h
 | [],_::_,h,_=>by cases h
 | w::ws,b::B,h,⟨x,hx,k⟩=>by
  have h:=(Bool.and_eq_true _ _).mp h
  rcases List.mem_cons.mp hx with rfl | hx
  ·exact absurd (qks w (x++n) fun p hp=>(List.mem_append.mp hp).elim (k p) (hn p)) (Int.not_le.mpr (qpL _ h.1))
  ·exact qkt hn ws B h.2 ⟨x,hx,k⟩
theorem qku:∀(hs:List LF) (g:LF),(¬ Sat c d (hs.foldr (fun f B=>qho (f.br true) B) (g.br false)))->hs.foldr (fun f P=>f.den c d->P) (g.den c d)
 | [],g,h=>Classical.byContradiction fun q=>h ((qb4 g).2 q)
 | f::hs,g,h=>fun hf=>qku hs g fun q=>h (qjb ((qb4 f).1 hf) q)
end
theorem lin{t:List LR}(h:t.all LR.ok=true)(i:Nat)(c:List Nat)(d:List Int):(t.getD i ⟨[.ff],.ff,0,[]⟩).den c d:=by
 refine substr List.getD_eq_getElem?_getD ?_
 cases e:t[i]? with
 | none=>exact fun h=>h
 | some r=>
  have:=List.all_eq_true.mp h r (mem_of_getElem? e)
  exact qku r.hs r.g (qkt (qix r.k) (r.w.map (dg 40)) r.brs this)
theorem qg(a b:Nat):(a<=b/\a-b=0)\/(b<=a/\a-b+b=a):=(Nat.le_total a b).elim (fun h=>.inl ⟨h,Nat.sub_eq_zero_of_le h⟩) fun h=>.inr ⟨h,Nat.sub_add_cancel h⟩
theorem qac(a b:Nat):(a<=b/\min a b=a)\/(b<=a/\min a b=b):=(Nat.le_total a b).elim (fun h=>.inl ⟨h,Nat.min_eq_left h⟩) fun h=>.inr ⟨h,Nat.min_eq_right h⟩
theorem qc9(a b:Nat):(a<=b/\max a b=b)\/(b<=a/\max a b=a):=(Nat.le_total a b).elim (fun h=>.inl ⟨h,Nat.max_eq_right h⟩) fun h=>.inr ⟨h,Nat.max_eq_left h⟩
theorem qkv(a b:Int):(a<=b/\min a b=a)\/(b<=a/\min a b=b):=(Int.le_total a b).elim (fun h=>.inl ⟨h,Int.min_eq_left h⟩) fun h=>.inr ⟨h,Int.min_eq_right h⟩
theorem qkw(a b:Int):(a<=b/\max a b=b)\/(b<=a/\max a b=a):=(Int.le_total a b).elim (fun h=>.inl ⟨h,Int.max_eq_right h⟩) fun h=>.inr ⟨h,Int.max_eq_left h⟩
theorem qbk(a:Int):(a<=0/\a.toNat=0)\/(0<=a/\(a.toNat:Int)=a):=(Int.le_total a 0).elim (fun h=>.inl ⟨h,Int.toNat_of_nonpos h⟩) fun h=>.inr ⟨h,Int.toNat_of_nonneg h⟩
theorem qbd(a k:Nat)(h:0<k):k*(a/k)<=a/\a<k*(a/k)+k:=⟨Nat.mul_div_le a k,by refine substr (Nat.mul_succ ..).symm ?_;exact Nat.lt_mul_div_succ a h⟩
theorem qeH(a k:Nat)(h:0<k):k*(a/k)+a%k=a/\a%k<k:=⟨Nat.div_add_mod a k,Nat.mod_lt a h⟩
noncomputable abbrev v0:LT:=.v 0
noncomputable abbrev v1:LT:=.v 1
noncomputable abbrev v2:LT:=.v 2
noncomputable abbrev v3:LT:=.v 3
noncomputable abbrev v4:LT:=.v 4
noncomputable abbrev v5:LT:=.v 5
noncomputable abbrev v6:LT:=.v 6
noncomputable abbrev v7:LT:=.v 7
noncomputable abbrev v8:LT:=.v 8
noncomputable abbrev v9:LT:=.v 9
noncomputable abbrev c0:LT:=.c 0
noncomputable abbrev c1:LT:=.c 1
noncomputable abbrev c2:LT:=.c 2
noncomputable abbrev c3:LT:=.c 3
noncomputable abbrev c4:LT:=.c 4
noncomputable abbrev mn(x y c:LT):LF:=.or (.an (.le x y) (.eq c x)) (.an (.le y x) (.eq c y))
noncomputable abbrev mx(x y c:LT):LF:=.or (.an (.le x y) (.eq c y)) (.an (.le y x) (.eq c x))
noncomputable abbrev sb(x y c:LT):LF:=.or (.an (.le x y) (.eq c c0)) (.an (.le y x) (.eq (.a c y) x))
noncomputable abbrev zmn(x y c:LT):LF:=.or (.an (.zle x y) (.zeq c x)) (.an (.zle y x) (.zeq c y))
noncomputable abbrev zmx(x y c:LT):LF:=.or (.an (.zle x y) (.zeq c y)) (.an (.zle y x) (.zeq c x))
noncomputable def tb0:List LR:=[
 ⟨[],.le c0 (.c 16777216),0,[1]⟩,
 ⟨[.lt v0 v1,.eq v2 v1],.lt v0 v2,3,[4353]⟩,
 ⟨[(mn v1 v2 v3),.eq v0 v3,.lt v4 v0],.lt v4 v1,5,[17829904,17829905]⟩,
 ⟨[(mn v1 v2 v3),.eq v0 v3,.lt v4 v0],.lt v4 v2,5,[17829905,17829904]⟩,
 ⟨[],.le (.a (.a c0 c1) c1) (.c 16777216),0,[1]⟩,
 ⟨[(mn v1 v2 v3),.eq v0 v3,.lt v0 v1],.eq v0 v2,4,[1114368,1114368,16843008,16781328]⟩,
 ⟨[(mn v1 v2 v3),.eq v0 v3,.le v1 v0],.eq v0 v1,4,[16843008,16781328,17825792,16781329]⟩,
 ⟨[],.lt (.a v0 c2) (.a v0 c4),1,[1]⟩,
 ⟨[],.lt (.a v0 c3) (.a v0 c4),1,[1]⟩,
 ⟨[],.lt (.a v0 c2) (.a v0 c3),1,[1]⟩,
 ⟨[],.lt v0 (.a v0 c2),1,[1]⟩,
 ⟨[],.lt (.a v0 c1) (.a v0 c2),1,[1]⟩,
 ⟨[],.lt v0 (.a v0 c4),1,[1]⟩,
 ⟨[],.lt (.a v0 c1) (.a v0 c4),1,[1]⟩,
 ⟨[],.lt v0 (.a v0 c3),1,[1]⟩,
 ⟨[],.lt (.a v0 c1) (.a v0 c3),1,[1]⟩,
 ⟨[],.lt v0 (.a v0 c1),1,[1]⟩,
 ⟨[.lt v0 v1],.lt v0 (.a v1 c4),2,[17]⟩,
 ⟨[.lt v0 v1],.lt v0 (.a v1 c3),2,[17]⟩,
 ⟨[.lt v0 v1],.lt v0 v1,2,[17]⟩,
 ⟨[.lt v0 v1],.lt v0 (.a v1 c1),2,[17]⟩,
 ⟨[.eq v0 (.a v1 c4)],.le v1 v0,2,[272]⟩,
 ⟨[.eq v0 (.a v1 c2)],.le v1 v0,2,[272]⟩,
 ⟨[.eq v0 (.a v1 c3)],.le v1 v0,2,[272]⟩]
theorem tk0:tb0.all LR.ok=true:=by decide +kernel
variable{a b c d e f g h i j:Nat}
theorem ar1:a<b->c=b->a<c:=lin tk0 1 [a,b,c] []
theorem ar2:a=(min b c)->d<a->d<b:=lin tk0 2 [a,b,c,(min b c),d] [] (qac b c)
theorem ar3:a=(min b c)->d<a->d<c:=lin tk0 3 [a,b,c,(min b c),d] [] (qac b c)
theorem ar5:a=(min b c)->a<b->a=c:=lin tk0 5 [a,b,c,(min b c)] [] (qac b c)
theorem ar6:a=(min b c)->a≥b->a=b:=lin tk0 6 [a,b,c,(min b c)] [] (qac b c)
theorem ar7:(a+2)<(a+4):=lin tk0 7 [a] []
theorem ar8:(a+3)<(a+4):=lin tk0 8 [a] []
theorem ar9:(a+2)<(a+3):=lin tk0 9 [a] []
theorem qlz:a<(a+2):=lin tk0 10 [a] []
theorem qyi:(a+1)<(a+2):=lin tk0 11 [a] []
theorem qyj:a<(a+4):=lin tk0 12 [a] []
theorem qyk:(a+1)<(a+4):=lin tk0 13 [a] []
theorem qyl:a<(a+3):=lin tk0 14 [a] []
theorem qym:(a+1)<(a+3):=lin tk0 15 [a] []
theorem qhq:a<(a+1):=lin tk0 16 [a] []
theorem qpM:a<b->a<(b+4):=lin tk0 17 [a,b] []
theorem qpN:a<b->a<(b+3):=lin tk0 18 [a,b] []
theorem qlA:a<b->a<b:=lin tk0 19 [a,b] []
theorem qpO:a<b->a<(b+1):=lin tk0 20 [a,b] []
theorem qyn:a=(b+4)->b<=a:=lin tk0 21 [a,b] []
theorem qyo:a=(b+2)->b<=a:=lin tk0 22 [a,b] []
theorem qyp:a=(b+3)->b<=a:=lin tk0 23 [a,b] []
noncomputable def tb1:List LR:=[
 ⟨[],.le v0 v0,1,[1]⟩,
 ⟨[.eq v0 (.a v1 c1)],.le v1 v0,2,[272]⟩,
 ⟨[.eq v0 (.a v1 c3),.eq v2 (.a v1 c4)],.no (.eq v0 v2),3,[1052673]⟩,
 ⟨[.eq v0 (.a v1 c2),.eq v2 (.a v1 c4)],.no (.eq v0 v2),3,[1052673]⟩,
 ⟨[.eq v0 (.a v1 c2),.eq v2 (.a v1 c3)],.no (.eq v0 v2),3,[1052673]⟩,
 ⟨[.lt v0 (.c 9223372036854775808),.eq v1 v0],.zlt (.n v1) (.d 9223372036854775808),2,[4113]⟩,
 ⟨[.lt v0 (.c 9223372036854775808)],.no (.zle (.d 9223372036854775808) (.n v0)),1,[17]⟩,
 ⟨[.or (.an (.zle (.s (.z 1) (.z 0)) (.d 0)) (.eq v0 c0)) (.an (.zle (.d 0) (.s (.z 1) (.z 0))) (.zeq (.n v0) (.s (.z 1) (.z 0)))),.zlt (.z 0) (.z 1)],.zeq (.s (.z 1) (.z 0)) (.n v0),1,[4097,4097,65552,65792]⟩,
 ⟨[.or (.an (.zle (.s (.z 1) (.z 0)) (.d 0)) (.eq v0 c0)) (.an (.zle (.d 0) (.s (.z 1) (.z 0))) (.zeq (.n v0) (.s (.z 1) (.z 0)))),.no (.zlt (.z 0) (.z 1))],.zeq (.d 0) (.n v0),1,[65552,65792,69648,65793]⟩,
 ⟨[.le v0 v1,.eq v2 v0],.le v2 v1,3,[4113]⟩,
 ⟨[],.zeq (.n (.a v0 c1)) (.a (.n v0) (.d 1)),1,[1,1]⟩,
 ⟨[.lt v0 v1,.eq v2 v0],.le (.a v2 c1) v1,3,[4113]⟩,
 ⟨[.le (.a v0 v1) v2,.eq v3 v0],.le v3 v2,4,[16781329]⟩,
 ⟨[.le (.a v0 v1) v2,.eq v3 v0,.eq v4 v1],.le (.a v3 v4) (.a v2 c1),5,[1052689]⟩,
 ⟨[.lt v0 (.c 9223372036854775808),.eq v1 v0],.zlt (.n v1) (.d 9223372036854775808),2,[4113]⟩,
 ⟨[.le (.a v0 v1) v2,.eq v3 v0,.eq v4 v1],.le (.a v3 v4) v2,5,[1052689]⟩,
 ⟨[.le v0 (.c 1000000),.lt v1 v0,.le v2 v1,.le (.c 1000000) v3],.le v2 v3,4,[69905]⟩,
 ⟨[.le v0 v1],.le v0 v1,2,[17]⟩,
 ⟨[.le v0 v1],.le v0 (.a v1 c1),2,[17]⟩,
 ⟨[.zle (.g (.d 9223372036854775808)) (.z 0),.zlt (.z 0) (.d 9223372036854775808)],.an (.no (.zlt (.z 0) (.g (.d 9223372036854775808)))) (.no (.zle (.d 9223372036854775808) (.z 0))),0,[257,272]⟩,
 ⟨[.lt (.a v0 (.a v1 c1)) v2],.lt (.a (.a v0 c1) v1) v2,3,[17]⟩,
 ⟨[.lt (.a v0 (.m 8 (.a v1 c1))) v2],.lt (.a (.a v0 c3) (.m 8 v1)) v2,3,[17]⟩,
 ⟨[(sb v1 c1 v2),(sb v2 v0 v3),.lt v0 v1],.lt v3 v1,4,[285282560,35184657367056,268500993,17592454545424]⟩,
 ⟨[.eq v0 v1,.lt v4 v1],.lt v4 v0,5,[4368]⟩]
theorem tk1:tb1.all LR.ok=true:=by decide +kernel
theorem qpP:a<=a:=lin tk1 0 [a] []
theorem qyq:a=(b+1)->b<=a:=lin tk1 1 [a,b] []
theorem qyr:a=(b+3)->c=(b+4)->a≠c:=lin tk1 2 [a,b,c] []
theorem qys:a=(b+2)->c=(b+4)->a≠c:=lin tk1 3 [a,b,c] []
theorem qyt:a=(b+2)->c=(b+3)->a≠c:=lin tk1 4 [a,b,c] []
theorem qyu:a<(2^63:Nat)->b=a->((b:Nat):Int)<(9223372036854775808:Int):=lin tk1 5 [a,b] []
theorem qpQ:a<(2^63:Nat)->¬ (((a:Nat):Int)≥(2^63:Int)):=lin tk1 6 [a] []
theorem qyv{a b:Int}:a<b->(b-a)=(((Int.toNat (b-a)):Nat):Int):=lin tk1 7 [(Int.toNat (b-a))] [a,b] (qbk (b-a))
theorem qyw{a b:Int}:(¬ (a<b))->(0:Int)=(((Int.toNat (b-a)):Nat):Int):=lin tk1 8 [(Int.toNat (b-a))] [a,b] (qbk (b-a))
theorem qlB:a<=b->c=a->c<=b:=lin tk1 9 [a,b,c] []
theorem qyx:(((a+1):Nat):Int)=(((a:Nat):Int)+(1:Int)):=lin tk1 10 [a] []
theorem qyy:a<b->c=a->(c+1)<=b:=lin tk1 11 [a,b,c] []
theorem qyz:(a+b)<=c->d=a->d<=c:=lin tk1 12 [a,b,c,d] []
theorem qyA:(a+b)<=c->d=a->e=b->(d+e)<=(c+1):=lin tk1 13 [a,b,c,d,e] []
theorem qyB:a<(2^63:Nat)->b=a->((b:Nat):Int)<(2^63:Int):=lin tk1 14 [a,b] []
theorem qyC:(a+b)<=c->d=a->e=b->(d+e)<=c:=lin tk1 15 [a,b,c,d,e] []
theorem qyD:a<=1000000->b<a->c<=b->1000000<=d->c<=d:=lin tk1 16 [a,b,c,d] []
theorem qd7:a<=b->a<=b:=lin tk1 17 [a,b] []
theorem qjd:a<=b->a<=(b+1):=lin tk1 18 [a,b] []
theorem qyE{a:Int}:(-(2^63:Int))<=a->a<(2^63:Int)->(¬ (a<(-(2^63:Int)))/\¬ (a≥(2^63:Int))):=lin tk1 19 [] [a]
theorem qpR:(a+(b+1))<c->((a+1)+b)<c:=lin tk1 20 [a,b,c] []
theorem qpS:(a+(8*(b+1)))<c->((a+3)+(8*b))<c:=lin tk1 21 [a,b,c] []
theorem qlC:a<b->((b-1)-a)<b:=lin tk1 22 [a,b,(b-1),((b-1)-a)] [] (qg b 1) (qg (b-1) a)
theorem qyF:a=b->((b-1)-c)<b->((b-1)-c)<a:=lin tk1 23 [a,b,(b-1),c,((b-1)-c)] []
noncomputable def tb2:List LR:=[
 ⟨[(sb v1 c1 v2),(sb v2 v0 v3),.lt v0 v1],.zeq (.s (.s (.n v1) (.d 1)) (.n v0)) (.n v3),4,[285278208,269488385,17592471322640,269484289,285278208,269488384,268501008,269484288]⟩,
 ⟨[.zeq (.s (.s (.n v0) (.d 1)) (.n v1)) (.n v3)],.zeq (.s (.n v3) (.d 1)) (.s (.s (.n v0) (.d 1)) (.n (.a v1 c1))),4,[257,272]⟩,
 ⟨[],.zeq (.s (.s (.n v0) (.d 1)) (.n v0)) (.g (.d 1)),1,[1,1]⟩,
 ⟨[.lt v0 v1],.zlt (.d 0) (.s (.n v1) (.n v0)),2,[17]⟩,
 ⟨[],.zeq (.a (.a (.z 0) (.n v0)) (.d 1)) (.a (.z 0) (.n (.a v0 c1))),1,[1,1]⟩,
 ⟨[],.zeq (.s (.s (.n v0) (.n v1)) (.d 1)) (.s (.n v0) (.n (.a v1 c1))),2,[1,1]⟩,
 ⟨[],.zle (.s (.n v0) (.n v0)) (.d 0),1,[1]⟩,
 ⟨[(sb v1 (.a v0 c1) v2),(sb v1 v0 v3),.lt v0 v1],.lt v2 v3,4,[16781312,286261264,4097,269484048]⟩,
 ⟨[.le v0 v1,.eq v2 v0],.le (.a v2 c1) (.a v1 c1),3,[4113]⟩,
 ⟨[],.no (.eq (.a v0 c1) v0),1,[1]⟩,
 ⟨[.le v0 (.a v1 c1),.lt (.a v1 (.a v2 c1)) v3],.lt (.a v0 v2) v3,4,[273]⟩,
 ⟨[.le v0 (.a v1 (.c 8)),.lt (.a v1 (.m 8 (.a v2 c1))) v3],.lt (.a v0 (.m 8 v2)) v3,4,[273]⟩,
 ⟨[.zlt (.n v0) (.n v1)],.lt v0 v1,2,[17]⟩,
 ⟨[],.zle (.d 0) (.n v0),1,[17]⟩,
 ⟨[.lt v0 v1,.eq v2 v1],.zlt (.n v0) (.n v2),3,[4353]⟩,
 ⟨[.lt v0 (.c 4611686018427387904)],.zlt (.n v0) (.d 9223372036854775808),1,[17]⟩,
 ⟨[.eq v0 v1,.eq v2 v1],.eq v0 v2,3,[65808,69633]⟩,
 ⟨[.lt (.a v0 (.m 8 v1)) v2],.lt v0 v2,3,[32785]⟩,
 ⟨[.le c1 v0,.lt (.a v1 (.m 8 v0)) v2],.lt (.a v1 c1) v2,3,[280]⟩,
 ⟨[],.le (.a c0 c1) (.c 16777216),0,[1]⟩,
 ⟨[.zle (.n v0) (.z 0)],.zle (.g (.d 9223372036854775808)) (.z 0),1,[273]⟩,
 ⟨[.zle (.n v0) (.n v1)],.le v0 v1,2,[17]⟩,
 ⟨[.lt v0 (.c 1000000),.le v1 v0],.zlt (.n v1) (.d 9223372036854775808),2,[273]⟩,
 ⟨[.le v0 v1,.le v1 v0],.eq v0 v1,2,[272,257]⟩]
theorem tk2:tb2.all LR.ok=true:=by decide +kernel
theorem qyG:a<b->((((b:Nat):Int)-(1:Int))-((a:Nat):Int))=((((b-1)-a):Nat):Int):=lin tk2 0 [a,b,(b-1),((b-1)-a)] [] (qg b 1) (qg (b-1) a)
theorem qyH:((((a:Nat):Int)-(1:Int))-((b:Nat):Int))=((((a-1)-b):Nat):Int)->(((((a-1)-b):Nat):Int)-(1:Int))=((((a:Nat):Int)-(1:Int))-(((b+1):Nat):Int)):=lin tk2 1 [a,b,(a-1),((a-1)-b)] []
theorem qyI:((((a:Nat):Int)-(1:Int))-((a:Nat):Int))=(-(1:Int)):=lin tk2 2 [a] []
theorem qyJ:a<b->(0:Int)<(((b:Nat):Int)-((a:Nat):Int)):=lin tk2 3 [a,b] []
theorem qyK{a:Int}:((a+((b:Nat):Int))+(1:Int))=(a+(((b+1):Nat):Int)):=lin tk2 4 [b] [a]
theorem qyL:((((a:Nat):Int)-((b:Nat):Int))-(1:Int))=(((a:Nat):Int)-(((b+1):Nat):Int)):=lin tk2 5 [a,b] []
theorem qyM:(((a:Nat):Int)-((a:Nat):Int))<=(0:Int):=lin tk2 6 [a] []
theorem qfd:a<b->(b-(a+1))<(b-a):=lin tk2 7 [a,b,(b-(a+1)),(b-a)] [] (qg b (a+1)) (qg b a)
theorem qyN:a<=b->c=a->(c+1)<=(b+1):=lin tk2 8 [a,b,c] []
theorem qyO:(a+1)≠a:=lin tk2 9 [a] []
theorem qyP:a<=(b+1)->(b+(c+1))<d->(a+c)<d:=lin tk2 10 [a,b,c,d] []
theorem qyQ:a<=(b+8)->(b+(8*(c+1)))<d->(a+(8*c))<d:=lin tk2 11 [a,b,c,d] []
theorem qlD:((a:Nat):Int)<((b:Nat):Int)->a<b:=lin tk2 12 [a,b] []
theorem qdp:(0:Int)<=((a:Nat):Int):=lin tk2 13 [a] []
theorem qyR:a<b->c=b->((a:Nat):Int)<((c:Nat):Int):=lin tk2 14 [a,b,c] []
theorem qyS:a<(2^62:Nat)->((a:Nat):Int)<(2^63:Int):=lin tk2 15 [a] []
theorem qyT:a=b->c=b->a=c:=lin tk2 16 [a,b,c] []
theorem qyU:(a+(8*b))<c->a<c:=lin tk2 17 [a,b,c] []
theorem qyV:1<=a->(b+(8*a))<c->(b+1)<c:=lin tk2 18 [a,b,c] []
theorem qyW{b:Int}:((a:Nat):Int)<=b->(-(2^63:Int))<=b:=lin tk2 20 [a] [b]
theorem qpT:((a:Nat):Int)<=((b:Nat):Int)->a<=b:=lin tk2 21 [a,b] []
theorem qyX:a<1000000->b<=a->((b:Nat):Int)<(2^63:Int):=lin tk2 22 [a,b] []
theorem qje:a<=b->b<=a->a=b:=lin tk2 23 [a,b] []
noncomputable def tb3:List LR:=[
 ⟨[.eq v0 v1,.lt v2 v1],.lt v2 v0,3,[4368]⟩,
 ⟨[.le v0 (.c 1000),.le (.c 1000000) v1,.eq v2 v0],.le v2 v1,3,[65809]⟩,
 ⟨[.eq v0 v1,.eq v2 v1,.lt v3 v2],.lt v3 v0,4,[1114384]⟩,
 ⟨[.eq v0 v1,.lt v2 v0],.lt v2 v1,3,[4353]⟩,
 ⟨[.lt v0 (.c 64),.eq v1 v0],.lt v1 (.c 64),2,[4113]⟩,
 ⟨[.le (.c 8) v0,.lt (.a v1 (.m 8 v0)) v2],.lt (.a v1 (.c 64)) v2,3,[280]⟩,
 ⟨[(mn v0 v1 v2),.le v0 (.c 1000000)],.le v2 (.c 1000000),3,[69648,69649]⟩,
 ⟨[],.eq (.a c1 v0) (.a v0 c1),1,[1,1]⟩,
 ⟨[],.zle (.g (.d 4611686018427387904)) (.n v0),1,[17]⟩,
 ⟨[.le v0 (.c 1000)],.zlt (.n v0) (.d 4611686018427387904),1,[17]⟩,
 ⟨[.or (.an (.zle (.n v0) (.d 0)) (.eq v1 c0)) (.an (.zle (.d 0) (.n v0)) (.zeq (.n v1) (.n v0))),.le v0 (.c 1000)],.le v1 (.c 1000000),2,[65552,69648]⟩,
 ⟨[],.zle (.g (.d 9223372036854775808)) (.n v3),4,[17]⟩,
 ⟨[.an (.eq (.a (.m 18 v2) v3) (.a v0 v1)) (.lt v3 (.c 18))],.zlt (.n v3) (.d 9223372036854775808),4,[4352]⟩,
 ⟨[.an (.eq (.a (.m 18 v3) v4) (.a v1 v2)) (.lt v4 (.c 18)),.eq v0 (.c 18)],.lt v4 v0,5,[1114368]⟩,
 ⟨[.or (.an (.zle (.n v0) (.d 0)) (.eq v1 c0)) (.an (.zle (.d 0) (.n v0)) (.zeq (.n v1) (.n v0)))],.eq v1 v0,2,[4353,1052688,4352,4112]⟩,
 ⟨[.le v0 (.c 1000)],.le (.a v0 (.r v0 0)) (.c 16777216),1,[17]⟩,
 ⟨[.le v0 (.c 1000),.le v1 v0],.zlt (.n v1) (.d 9223372036854775808),2,[273]⟩,
 ⟨[(sb v6 c1 v7),.le (.a (.a v2 c1) (.a v5 c1)) v6],.eq v6 (.a v7 c1),8,[1099780132880,65793,65552,65792]⟩,
 ⟨[.le v0 (.c 1000),.le (.c 1000000) v1,.le v2 v3,.lt v3 v0],.le v2 v1,4,[69905]⟩,
 ⟨[.le v0 (.c 1000)],.lt v0 (.c 1000000),1,[17]⟩,
 ⟨[.lt v0 v1],.le (.a v0 c1) v1,2,[17]⟩,
 ⟨[.le v0 v1,.lt v1 v2],.le (.a v0 c1) v2,3,[273]⟩,
 ⟨[.lt v0 v1],.le v0 v1,2,[17]⟩,
 ⟨[(sb v3 (.a v4 c1) v5),(sb v3 v4 (.v 10)),.le (.a (.a v2 c1) (.a v5 c1)) (.a v6 c1),.eq v8 v9,.le v9 v2],.le (.a v8 (.v 10)) v6,11,[1168516382976,1168516382977,4097,1168516382976]⟩]
theorem tk3:tb3.all LR.ok=true:=by decide +kernel
theorem qpU:a=b->c<b->c<a:=lin tk3 0 [a,b,c] []
theorem qyY:a<=1000->1000000<=b->c=a->c<=b:=lin tk3 1 [a,b,c] []
theorem qpV:a=b->c=b->d<c->d<a:=lin tk3 2 [a,b,c,d] []
theorem qlE:a=b->c<a->c<b:=lin tk3 3 [a,b,c] []
theorem qyZ:a<64->b=a->b<64:=lin tk3 4 [a,b] []
theorem qpW:8<=a->(b+(8*a))<c->(b+64)<c:=lin tk3 5 [a,b,c] []
theorem qy0:a<=1000000->(min a b)<=1000000:=lin tk3 6 [a,b,(min a b)] [] (qac a b)
theorem qy1:(1+a)=(a+1):=lin tk3 7 [a] []
theorem qhr:(-(2^62:Int))<=((a:Nat):Int):=lin tk3 8 [a] []
theorem qlF:a<=1000->((a:Nat):Int)<(2^62:Int):=lin tk3 9 [a] []
theorem qy2:a<=1000->(Int.toNat ((a:Nat):Int))<=1000000:=lin tk3 10 [a,(Int.toNat ((a:Nat):Int))] [] (qbk ((a:Nat):Int))
theorem qy3:(-(2^63:Int))<=((((a+b)%18):Nat):Int):=lin tk3 11 [a,b,((a+b)/18),((a+b)%18)] []
theorem qy4:((((a+b)%18):Nat):Int)<(2^63:Int):=lin tk3 12 [a,b,((a+b)/18),((a+b)%18)] [] (qeH (a+b) 18 (by decide))
theorem qy5:a=18->((b+c)%18)<a:=lin tk3 13 [a,b,c,((b+c)/18),((b+c)%18)] [] (qeH (b+c) 18 (by decide))
theorem qy6:(Int.toNat ((a:Nat):Int))=a:=lin tk3 14 [a,(Int.toNat ((a:Nat):Int))] [] (qbk ((a:Nat):Int))
theorem qy7:a<=1000->(a+(a*0))<=16777216:=lin tk3 15 [a] []
theorem qpX:a<=1000->b<=a->((b:Nat):Int)<(2^63:Int):=lin tk3 16 [a,b] []
theorem qy8:(((a-(b+1))+1)+((c-(d+1))+1))<=e->e=((e-1)+1):=lin tk3 17 [a,b,(a-(b+1)),c,d,(c-(d+1)),e,(e-1)] [] (qg e 1)
theorem qlG:a<=1000->1000000<=b->c<=d->d<a->c<=b:=lin tk3 18 [a,b,c,d] []
theorem qhs:a<=1000->a<1000000:=lin tk3 19 [a] []
theorem qc0:a<b->(a+1)<=b:=lin tk3 20 [a,b] []
theorem qpY:a<=b->b<c->(a+1)<=c:=lin tk3 21 [a,b,c] []
theorem qd8:a<b->a<=b:=lin tk3 22 [a,b] []
theorem qy9:(((a-(b+1))+1)+((c-(d+1))+1))<=(e+1)->(a-f)=g->g<=(a-(b+1))->((a-f)+(c-d))<=e:=lin tk3 23 [a,b,(a-(b+1)),c,d,(c-(d+1)),e,f,(a-f),g,(c-d)] [] (qg c (d+1)) (qg c d)
noncomputable def tb4:List LR:=[
 ⟨[(sb v3 v2 v4),(sb v3 (.a v1 c1) v6),.le v0 v1,.lt v2 v3,.eq v4 v5,.le v5 v6],.le (.a v0 c1) v2,7,[268435457,268435457,1104075096320,18696009482496]⟩,
 ⟨[(sb v0 (.a v1 c1) v2),(sb v0 v1 (.v 10)),.le (.a (.a v2 c1) (.a v5 c1)) (.a v6 c1),.eq v8 v9,.le v9 v5],.le (.a (.v 10) v8) v6,11,[1168516382976,1168516382977,4097,1168516382976]⟩,
 ⟨[(sb v3 v2 v4),(sb v3 (.a v1 c1) v6),.le v0 v1,.lt v2 v3,.eq v4 v5,.le v5 v6],.le v0 v2,7,[268435457,268435457,1104075096320,18696009482496]⟩,
 ⟨[.le v0 v1,.lt v1 v2],.le v0 v2,3,[273]⟩,
 ⟨[.le (.a (.a v2 c1) (.a v5 c1)) (.a v6 c1),.eq v8 v9,.le v9 v2,.eq (.v 11) (.v 12),.le (.v 12) v5],.le (.a v8 (.v 11)) v6,13,[285282321]⟩,
 ⟨[],.no (.zlt (.n v0) (.d 0)),1,[17]⟩,
 ⟨[(mn v0 v1 v2),.le v0 v1],.eq v2 v0,3,[65792,65552,69888,65553]⟩,
 ⟨[.le v0 (.c 1000),.le (.c 1000000) v1],.le v0 v1,2,[273]⟩,
 ⟨[(sb v0 v2 v4),.le v0 (.c 1000),.le (.c 1000000) v1,.le v2 v0,.le v3 v2],.le (.a v3 v4) v1,5,[286330896,285282320]⟩,
 ⟨[.le v0 (.c 1000)],.lt v0 (.c 9223372036854775808),1,[17]⟩,
 ⟨[.le (.c 1000000) v0,.le (.a v1 c1) (.c 1000)],.lt v1 v0,2,[273]⟩,
 ⟨[.le (.a v0 c1) (.c 1000)],.le v0 (.c 1000),1,[17]⟩,
 ⟨[.le (.a v0 (.a v1 c1)) (.c 1000)],.le (.a v0 v1) (.c 1000),2,[17]⟩,
 ⟨[.le (.c 1000000) v0,.le (.a v1 (.a v2 c1)) (.c 1000)],.le v1 v0,3,[4369]⟩,
 ⟨[.le (.a v0 (.a v1 c1)) (.c 1000)],.le (.a (.a v0 c1) v1) (.c 1000),2,[17]⟩,
 ⟨[.le v0 v1,.le v2 (.a v3 c1),.le v1 v4],.an (.le (.a v0 c1) (.a v4 c1)) (.le v2 (.a v3 c1)),5,[4353,4112]⟩,
 ⟨[.le v0 (.a v1 c1),.le v2 v3,.le v3 v4],.an (.le v0 (.a v1 c1)) (.le (.a v2 c1) (.a v4 c1)),5,[4097,4368]⟩,
 ⟨[.le v0 v1,.le v2 v3,.le v1 v4,.le v3 v5],.an (.le v0 (.a v4 c1)) (.le v2 (.a v5 c1)),6,[65793,69648]⟩,
 ⟨[.le v0 (.c 30)],.le v0 (.c 1000),1,[17]⟩,
 ⟨[.le v0 (.c 30),.le v1 (.c 30),.le (.c 1000000) v2,.le v3 v0,.le v4 v1],.le (.a v3 v4) v2,5,[1118481]⟩,
 ⟨[.le v0 (.c 30),.le v1 (.c 30),.le v2 v0,.le v3 v1],.lt (.a v2 v3) (.c 64),4,[69905]⟩,
 ⟨[(sb v0 v1 v2)],.le v0 (.a v1 v2),3,[4353,4352]⟩,
 ⟨[(mn v0 v1 v2),(sb v1 v0 v4),(mn v3 v4 v5),(sb v1 (.a v0 v3) v6)],.eq (.a (.a v2 v5) v6) v1,7,[299140177199360,282574773616657,299071457722624,282574756773904,299071458775296,282574756839441,299140178252032,282574773551120,299140177199360,282574773616656,299071457722624,282574756773904,299071458771200,282574756839440,299140178247936,282574773551120,72356661200683264,282574773616656,72356729920160000,282574756773905,299071458771200,282574756839440,299140178247936,282574773551121,299140177203456,282574773616657,299071457726720,282574756773905,299071458775296,282574756839441,299140178252032,282574773551121]⟩,
 ⟨[(mn v0 v2 v3),(sb v2 v0 v4),(mn v1 v4 v5),.lt (.a v0 v1) v2],.eq (.a v3 v5) (.a v0 v1),6,[1103806595328,1099780063248,68737306624,68737306624,1103806595328,1099780063248,68737302528,68737302528,18760417149184,1099780063249,68737302529,68737302529,1103806599424,1099780063249,68737302528,68737302528]⟩]
theorem tk4:tb4.all LR.ok=true:=by decide +kernel
theorem qpZ:a<=b->c<d->(d-c)=e->e<=(d-(b+1))->(a+1)<=c:=lin tk4 0 [a,b,c,d,(d-c),e,(d-(b+1))] [] (qg d c) (qg d (b+1))
theorem qza:(((a-(b+1))+1)+((c-(d+1))+1))<=(e+1)->(c-f)=g->g<=(c-(d+1))->((a-b)+(c-f))<=e:=lin tk4 1 [a,b,(a-(b+1)),c,d,(c-(d+1)),e,f,(c-f),g,(a-b)] [] (qg a (b+1)) (qg a b)
theorem qjf:a<=b->c<d->(d-c)=e->e<=(d-(b+1))->a<=c:=lin tk4 2 [a,b,c,d,(d-c),e,(d-(b+1))] [] (qg d c) (qg d (b+1))
theorem qjg:a<=b->b<c->a<=c:=lin tk4 3 [a,b,c] []
theorem qrI:(((a-(b+1))+1)+((c-(d+1))+1))<=(e+1)->(a-f)=g->g<=(a-(b+1))->(c-h)=i->i<=(c-(d+1))->((a-f)+(c-h))<=e:=lin tk4 4 [a,b,(a-(b+1)),c,d,(c-(d+1)),e,f,(a-f),g,h,(c-h),i] []
theorem qjh:¬ (((a:Nat):Int)<(0:Int)):=lin tk4 5 [a] []
theorem qrJ:a<=b->(min a b)=a:=lin tk4 6 [a,b,(min a b)] [] (qac a b)
theorem qg7:a<=1000->1000000<=b->a<=b:=lin tk4 7 [a,b] []
theorem qmQ:a<=1000->1000000<=b->c<=a->d<=c->(d+(a-c))<=b:=lin tk4 8 [a,b,c,d,(a-c)] [] (qg a c)
theorem qbr:a<=1000->a<(2^63:Nat):=lin tk4 9 [a] []
theorem qrK:1000000<=a->(b+1)<=1000->b<a:=lin tk4 10 [a,b] []
theorem qmR:(a+1)<=1000->a<=1000:=lin tk4 11 [a] []
theorem qrL:(a+(b+1))<=1000->(a+b)<=1000:=lin tk4 12 [a,b] []
theorem qrM:1000000<=a->(b+(c+1))<=1000->b<=a:=lin tk4 13 [a,b,c] []
theorem qrN:(a+(b+1))<=1000->((a+1)+b)<=1000:=lin tk4 14 [a,b] []
theorem qrO:a<=b->c<=(d+1)->b<=e->((a+1)<=(e+1)/\c<=(d+1)):=lin tk4 15 [a,b,c,d,e] []
theorem qrP:a<=(b+1)->c<=d->d<=e->(a<=(b+1)/\(c+1)<=(e+1)):=lin tk4 16 [a,b,c,d,e] []
theorem qrQ:a<=b->c<=d->b<=e->d<=f->(a<=(e+1)/\c<=(f+1)):=lin tk4 17 [a,b,c,d,e,f] []
theorem qmS:a<=30->a<=1000:=lin tk4 18 [a] []
theorem qrR:a<=30->b<=30->1000000<=c->d<=a->e<=b->(d+e)<=c:=lin tk4 19 [a,b,c,d,e] []
theorem qrS:a<=30->b<=30->c<=a->d<=b->(c+d)<64:=lin tk4 20 [a,b,c,d] []
theorem qrT:a<=(b+(a-b)):=lin tk4 21 [a,b,(a-b)] [] (qg a b)
theorem qrU:(((min a b)+(min c (b-a)))+(b-(a+c)))=b:=lin tk4 22 [a,b,(min a b),c,(b-a),(min c (b-a)),(b-(a+c))] [] (qac a b) (qg b a) (qac c (b-a)) (qg b (a+c))
theorem qrV:(a+b)<c->((min a c)+(min b (c-a)))=(a+b):=lin tk4 23 [a,b,c,(min a c),(c-a),(min b (c-a))] [] (qac a c) (qg c a) (qac b (c-a))
noncomputable def tb5:List LR:=[
 ⟨[.le v0 v1],.lt v0 (.a v1 c1),2,[17]⟩,
 ⟨[.le v0 v1],.le (.a c0 v0) v1,2,[17]⟩,
 ⟨[(mn v0 v1 v2),.lt v0 v1],.eq v2 v0,3,[65792,65552,4097,4097]⟩,
 ⟨[.eq v0 v1],.le v0 (.a v1 c1),2,[257]⟩,
 ⟨[(sb (.a v0 c1) v0 v1)],.eq v1 c1,2,[1,1,4352,4112]⟩,
 ⟨[(mn v0 v1 v2),(sb v1 v0 v3)],.eq (.a v2 v3) v1,4,[17830144,16842769,17826048,16842768,17826048,16842768,17830144,16842769]⟩,
 ⟨[.lt (.a v0 (.m 8 (.a v1 c3))) v2],.lt v0 v2,3,[32785]⟩,
 ⟨[.le v0 (.c 1000),.lt v1 v0],.zlt (.n v1) (.d 4611686018427387904),2,[273]⟩,
 ⟨[.lt v0 v1,.eq v2 v1],.le (.a v0 c0) v2,3,[4353]⟩,
 ⟨[.or (.an (.zle (.s (.n v1) (.n v3)) (.d 0)) (.eq v4 c0)) (.an (.zle (.d 0) (.s (.n v1) (.n v3))) (.zeq (.n v4) (.s (.n v1) (.n v3)))),.eq v0 v1,.lt v2 v4],.lt (.a v3 v2) v0,5,[68720525328,17891344]⟩,
 ⟨[],.zle (.d 0) (.a (.n v0) (.n v1)),2,[273]⟩,
 ⟨[.le v0 (.c 1000),.eq v1 v0,.lt (.a v2 v3) v1],.zlt (.a (.n v2) (.n v3)) (.d 9223372036854775808),4,[69649]⟩,
 ⟨[.or (.an (.zle (.a (.n v0) (.n v1)) (.d 0)) (.eq v2 c0)) (.an (.zle (.d 0) (.a (.n v0) (.n v1))) (.zeq (.n v2) (.a (.n v0) (.n v1))))],.eq v2 (.a v0 v1),3,[4353,17829904,4352,4112]⟩,
 ⟨[.le v0 (.c 1000),.eq v1 v0,.lt (.a v2 v3) v1],.lt (.a v2 v3) (.c 4611686018427387904),4,[69649]⟩,
 ⟨[.lt (.a v0 v1) v2],.le (.a v0 (.a v1 c1)) v2,3,[17]⟩,
 ⟨[.or (.an (.zle (.s (.n v1) (.n v2)) (.d 0)) (.eq v3 c0)) (.an (.zle (.d 0) (.s (.n v1) (.n v2))) (.zeq (.n v3) (.s (.n v1) (.n v2)))),(sb v0 v2 v4),.eq v0 v1],.eq v3 v4,5,[4295033088,4296015888,4311810305,4296019984,4295033089,4564455440,4311810304,4564451344]⟩,
 ⟨[.lt v0 v1,.eq v2 v1],.le v0 v2,3,[4353]⟩,
 ⟨[.le v0 (.c 1000),.eq v1 v0,.lt v2 v1],.lt v2 (.c 4611686018427387904),3,[69649]⟩,
 ⟨[.le v0 (.c 1000),.le (.c 1000000) v1,.lt v2 v0,.le v3 v2,.eq v4 v3],.le v4 v1,5,[16847121]⟩,
 ⟨[.zeq (.a (.d 1) (.n v0)) (.n v1)],.eq (.a c1 v0) v1,2,[272,257]⟩,
 ⟨[.eq v0 v1],.le v0 v1,2,[257]⟩,
 ⟨[.le v0 v1],.le v0 (.a v1 c0),2,[17]⟩,
 ⟨[.le v0 (.a v1 v2)],.le v0 (.a v1 (.a v2 c1)),3,[17]⟩,
 ⟨[.le v0 (.c 1000),.le v1 (.c 1000),.le (.c 1000000) v2,.lt v3 v1,.le v4 (.a v0 v3),.eq v5 v4],.le v5 v2,6,[269553937]⟩]
theorem tk5:tb5.all LR.ok=true:=by decide +kernel
theorem qrW:a<=b->(0+a)<=b:=lin tk5 1 [a,b] []
theorem qrX:a<b->(min a b)=a:=lin tk5 2 [a,b,(min a b)] [] (qac a b)
theorem qrY:a=b->a<=(b+1):=lin tk5 3 [a,b] []
theorem qrZ:((a+1)-a)=1:=lin tk5 4 [a,((a+1)-a)] [] (qg (a+1) a)
theorem qr0:((min a b)+(b-a))=b:=lin tk5 5 [a,b,(min a b),(b-a)] [] (qac a b) (qg b a)
theorem qr1:(a+(8*(b+3)))<c->a<c:=lin tk5 6 [a,b,c] []
theorem qmT:a<=1000->b<a->((b:Nat):Int)<(2^62:Int):=lin tk5 7 [a,b] []
theorem qmU:a<b->c=b->(a+0)<=c:=lin tk5 8 [a,b,c] []
theorem qmV:a=b->c<(Int.toNat (((b:Nat):Int)-((d:Nat):Int)))->(d+c)<a:=lin tk5 9 [a,b,c,d,(Int.toNat (((b:Nat):Int)-((d:Nat):Int)))] [] (qbk (((b:Nat):Int)-((d:Nat):Int)))
theorem qmW:(0:Int)<=(((a:Nat):Int)+((b:Nat):Int)):=lin tk5 10 [a,b] []
theorem qmX:a<=1000->b=a->(c+d)<b->(((c:Nat):Int)+((d:Nat):Int))<(2^63:Int):=lin tk5 11 [a,b,c,d] []
theorem qmY:(Int.toNat (((a:Nat):Int)+((b:Nat):Int)))=(a+b):=lin tk5 12 [a,b,(Int.toNat (((a:Nat):Int)+((b:Nat):Int)))] [] (qbk (((a:Nat):Int)+((b:Nat):Int)))
theorem qmZ:a<=1000->b=a->(c+d)<b->(c+d)<(2^62:Nat):=lin tk5 13 [a,b,c,d] []
theorem qg8:(a+b)<c->(a+(b+1))<=c:=lin tk5 14 [a,b,c] []
theorem qm0:a=b->(Int.toNat (((b:Nat):Int)-((c:Nat):Int)))=(a-c):=lin tk5 15 [a,b,c,(Int.toNat (((b:Nat):Int)-((c:Nat):Int))),(a-c)] [] (qbk (((b:Nat):Int)-((c:Nat):Int))) (qg a c)
theorem qg9:a<b->c=b->a<=c:=lin tk5 16 [a,b,c] []
theorem qr2:a<=1000->b=a->c<b->c<(2^62:Nat):=lin tk5 17 [a,b,c] []
theorem qr3:a<=1000->1000000<=b->c<a->d<=c->e=d->e<=b:=lin tk5 18 [a,b,c,d,e] []
theorem qr4:((1:Int)+((a:Nat):Int))=((b:Nat):Int)->(1+a)=b:=lin tk5 19 [a,b] []
theorem qji:a=b->a<=b:=lin tk5 20 [a,b] []
theorem qr5:a<=b->a<=(b+0):=lin tk5 21 [a,b] []
theorem qr6:a<=(b+c)->a<=(b+(c+1)):=lin tk5 22 [a,b,c] []
theorem qr7:a<=1000->b<=1000->1000000<=c->d<b->e<=(a+d)->f=e->f<=c:=lin tk5 23 [a,b,c,d,e,f] []
noncomputable def tb6:List LR:=[
 ⟨[.le v0 (.a v1 v2)],.le (.a v0 c1) (.a v1 (.a v2 c1)),3,[17]⟩,
 ⟨[],.le c0 (.a v0 v1),2,[273]⟩,
 ⟨[],.le (.a (.a v0 c1) v1) (.a v0 (.a v1 c1)),2,[1]⟩,
 ⟨[],.zeq (.a (.n v0) (.n v1)) (.n (.a v0 v1)),2,[1,1]⟩,
 ⟨[.or (.an (.zle (.s (.d 8) (.d 1)) (.d 0)) (.eq v1 c0)) (.an (.zle (.d 0) (.s (.d 8) (.d 1))) (.zeq (.n v1) (.s (.d 8) (.d 1)))),.lt v0 v1],.lt v0 (.c 7),2,[1,69648]⟩,
 ⟨[],.zeq (.a (.d 1) (.n v0)) (.n (.a v0 c1)),1,[1,1]⟩,
 ⟨[.lt v0 c3],.zle (.n v0) (.d 1000000),1,[17]⟩,
 ⟨[.lt v0 (.c 7)],.lt (.a v0 c1) (.c 8),1,[17]⟩,
 ⟨[.eq v0 c3,.lt v1 c3],.lt v1 v0,2,[4368]⟩,
 ⟨[.lt v0 c3],.zlt (.n v0) (.d 9223372036854775808),1,[17]⟩,
 ⟨[.le v0 c3],.le v0 (.c 1000000),1,[17]⟩,
 ⟨[.le v0 c3],.lt v0 (.c 9223372036854775808),1,[17]⟩,
 ⟨[],.le c1 (.a v0 c1),1,[17]⟩,
 ⟨[.le v0 c3],.le v0 (.c 1000),1,[17]⟩,
 ⟨[.le v0 (.c 8)],.le v0 (.c 1000),1,[17]⟩,
 ⟨[.zeq (.n v0) (.d 1)],.eq v0 c1,1,[272,257]⟩,
 ⟨[.lt v0 (.c 7)],.le v0 (.c 7),1,[17]⟩,
 ⟨[.le v0 c3],.lt v0 c4,1,[17]⟩,
 ⟨[(mn v0 v1 v2),.le v0 (.c 8)],.le v2 (.c 1000000),3,[69648,69649]⟩,
 ⟨[(mn v1 v0 v2),.eq v0 v1],.eq v2 v1,3,[1048832,1048592,1114368,1048593]⟩,
 ⟨[.le v0 (.c 8)],.lt v0 (.c 64),1,[17]⟩,
 ⟨[.le v0 (.c 8),.eq v1 v0],.le v1 (.c 1000000),2,[4113]⟩,
 ⟨[.le v0 c3],.zle (.n v0) (.d 1000000),1,[17]⟩,
 ⟨[.le (.c 8) v0,.lt (.a v1 (.m 8 (.a v0 (.c 6)))) v2],.lt (.a v1 (.c 64)) v2,3,[280]⟩]
theorem tk6:tb6.all LR.ok=true:=by decide +kernel
theorem qr8:a<=(b+c)->(a+1)<=(b+(c+1)):=lin tk6 0 [a,b,c] []
theorem qr9:0<=(a+b):=lin tk6 1 [a,b] []
theorem qsa:((a+1)+b)<=(a+(b+1)):=lin tk6 2 [a,b] []
theorem qm2:(((a:Nat):Int)+((b:Nat):Int))=(((a+b):Nat):Int):=lin tk6 3 [a,b] []
theorem qsb:a<(Int.toNat ((8:Int)-(1:Int)))->a<7:=lin tk6 4 [a,(Int.toNat ((8:Int)-(1:Int)))] [] (qbk ((8:Int)-(1:Int)))
theorem qsc:((1:Int)+((a:Nat):Int))=(((a+1):Nat):Int):=lin tk6 5 [a] []
theorem qjj:a<3->((a:Nat):Int)<=(1000000:Int):=lin tk6 6 [a] []
theorem qm3:a<7->(a+1)<8:=lin tk6 7 [a] []
theorem qjk:a=3->b<3->b<a:=lin tk6 8 [a,b] []
theorem qm4:a<3->((a:Nat):Int)<(2^63:Int):=lin tk6 9 [a] []
theorem qm5:a<=3->a<=1000000:=lin tk6 10 [a] []
theorem qda:a<=3->a<(2^63:Nat):=lin tk6 11 [a] []
theorem qeI:1<=(a+1):=lin tk6 12 [a] []
theorem qsd:a<=3->a<=1000:=lin tk6 13 [a] []
theorem qse:a<=8->a<=1000:=lin tk6 14 [a] []
theorem qm6:((a:Nat):Int)=(1:Int)->a=1:=lin tk6 15 [a] []
theorem qsf:a<7->a<=7:=lin tk6 16 [a] []
theorem qm7:a<=3->a<4:=lin tk6 17 [a] []
theorem qha:a<=8->(min a b)<=1000000:=lin tk6 18 [a,b,(min a b)] [] (qac a b)
theorem qhb:a=b->(min b a)=b:=lin tk6 19 [a,b,(min b a)] [] (qac b a)
theorem qsg:a<=8->a<64:=lin tk6 20 [a] []
theorem qm8:a<=8->b=a->b<=1000000:=lin tk6 21 [a,b] []
theorem qm9:a<=3->((a:Nat):Int)<=(1000000:Int):=lin tk6 22 [a] []
theorem qfA:8<=a->(b+(8*(a+6)))<c->(b+64)<c:=lin tk6 23 [a,b,c] []
noncomputable def tb7:List LR:=[
 ⟨[],.le c1 (.a v0 (.c 6)),1,[17]⟩,
 ⟨[.eq v0 v1],.le v1 v0,2,[272]⟩,
 ⟨[.le v0 (.c 64),.no (.eq v0 (.c 64))],.lt v0 (.c 64),1,[272,17]⟩,
 ⟨[.le v0 (.c 32),.le (.c 1000000) v1],.le (.a v0 v0) v1,2,[274]⟩,
 ⟨[.le v0 (.c 32)],.le (.a v0 v0) (.c 64),1,[18]⟩,
 ⟨[.eq (.a v0 v0) (.c 64)],.eq v0 (.c 32),1,[528,513]⟩,
 ⟨[.le v0 (.c 32),.le (.c 1000000) v1,.eq v2 (.a v0 v0)],.le (.a v2 c1) v1,3,[65810]⟩,
 ⟨[.lt v0 (.c 64)],.le v0 (.c 64),1,[17]⟩,
 ⟨[.lt v0 (.c 64),.eq v0 (.c 64)],.ff,1,[257]⟩,
 ⟨[.lt v0 (.c 64),.le (.c 1000000) v1,.eq v2 v0],.le (.a v2 c1) v1,3,[65809]⟩,
 ⟨[.le v0 (.c 32),.eq v1 (.a v0 v0)],.le v1 (.c 999),2,[4114]⟩,
 ⟨[.lt v0 (.c 64),.eq v1 v0],.le v1 (.c 999),2,[4113]⟩,
 ⟨[(mn v2 v0 v3),.le v0 (.c 1000),.lt v1 v3,.le v4 v1,.le (.c 2000) v5],.le (.a v4 c1) v5,6,[286330897,286330896]⟩,
 ⟨[.le v0 v1],.le (.a v0 c1) (.a v1 c1),2,[17]⟩,
 ⟨[.le v0 (.c 8)],.le v0 (.c 1000000),1,[17]⟩,
 ⟨[.eq v0 c3],.le v0 (.c 1000000),1,[257]⟩,
 ⟨[.le (.c 8) v0],.le (.c 8) (.a v0 (.c 5)),1,[17]⟩,
 ⟨[(sb v2 v0 v3),.eq v0 v1,.le v0 v2,.eq v3 c0],.eq v2 v1,4,[4296081408,4294971393,4295032833,4311748864]⟩,
 ⟨[.lt c1 v0],.no (.eq v0 c1),1,[17]⟩,
 ⟨[.lt c1 v0],.no (.zeq (.n v0) (.d 1)),1,[17]⟩,
 ⟨[.le v0 c1],.or (.eq v0 c0) (.eq v0 c1),1,[4112,257,272,257]⟩,
 ⟨[.le v0 (.c 63),.le (.c 1000000) v1],.le v0 v1,2,[273]⟩,
 ⟨[(mn c3 v1 v2),.le (.c 1000000) v0],.le (.a v2 c3) v0,3,[69648,69649]⟩,
 ⟨[.le (.c 8) v0],.le (.c 8) (.a v0 c1),1,[17]⟩]
theorem tk7:tb7.all LR.ok=true:=by decide +kernel
theorem qsh:1<=(a+6):=lin tk7 0 [a] []
theorem qna:a=b->b<=a:=lin tk7 1 [a,b] []
theorem qsi:a<=64->(¬ (a=64))->a<64:=lin tk7 2 [a] []
theorem qsj:a<=32->1000000<=b->(a+a)<=b:=lin tk7 3 [a,b] []
theorem qsk:a<=32->(a+a)<=64:=lin tk7 4 [a] []
theorem qsl:(a+a)=64->a=32:=lin tk7 5 [a] []
theorem qsm:a<=32->1000000<=b->c=(a+a)->(c+1)<=b:=lin tk7 6 [a,b,c] []
theorem qsn:a<64->a<=64:=lin tk7 7 [a] []
theorem qso:a<64->a=64->False:=lin tk7 8 [a] []
theorem qsp:a<64->1000000<=b->c=a->(c+1)<=b:=lin tk7 9 [a,b,c] []
theorem qnb:a<=32->b=(a+a)->b<=999:=lin tk7 10 [a,b] []
theorem qnc:a<64->b=a->b<=999:=lin tk7 11 [a,b] []
theorem qsq:a<=1000->b<(min c a)->d<=b->2000<=e->(d+1)<=e:=lin tk7 12 [a,b,c,(min c a),d,e] [] (qac c a)
theorem qnd:a<=b->(a+1)<=(b+1):=lin tk7 13 [a,b] []
theorem qsr:a<=8->a<=1000000:=lin tk7 14 [a] []
theorem qjl:a=3->a<=1000000:=lin tk7 15 [a] []
theorem qss:8<=a->8<=(a+5):=lin tk7 16 [a] []
theorem qst:a=b->c≥a->(c-a)=0->c=b:=lin tk7 17 [a,b,c,(c-a)] [] (qg c a)
theorem qsu:1<a->¬ (a=1):=lin tk7 18 [a] []
theorem qsv:1<a->((a:Nat):Int)≠(1:Int):=lin tk7 19 [a] []
theorem qsw:1≥a->(a=0\/a=1):=lin tk7 20 [a] []
theorem qsx:a<=63->1000000<=b->a<=b:=lin tk7 21 [a,b] []
theorem qne:1000000<=a->((min 3 b)+3)<=a:=lin tk7 22 [a,b,(min 3 b)] [] (qac 3 b)
theorem qnf:8<=a->8<=(a+1):=lin tk7 23 [a] []
noncomputable def tb8:List LR:=[
 ⟨[.no (.zlt (.n (.c 63)) (.n v0))],.le v0 (.c 63),1,[17]⟩,
 ⟨[.le v0 (.c 1000),.le (.c 10000) v1],.le (.a v0 c2) v1,2,[273]⟩,
 ⟨[.le v0 (.c 1000),.le (.c 10000) v1],.le v0 v1,2,[273]⟩,
 ⟨[.le v0 (.c 1000),.le v1 v0],.lt v1 (.c 9223372036854775808),2,[273]⟩,
 ⟨[],.zle (.g (.d 9223372036854775808)) (.n v0),1,[17]⟩,
 ⟨[.lt v0 c4],.zlt (.n v0) (.d 9223372036854775808),1,[17]⟩,
 ⟨[.le v0 (.c 1000),.le (.c 10000) v1,.le v2 (.c 1000)],.le (.a v0 v2) v1,3,[4369]⟩,
 ⟨[.le v0 (.c 1000),.le v1 (.c 1000),.le (.c 10000) v2,.le v3 v0,.le v4 (.c 1000)],.le (.a (.a v1 v4) v3) v2,5,[1118481]⟩,
 ⟨[.le v0 (.c 1000),.eq v1 v0],.lt v1 (.c 9223372036854775808),2,[4113]⟩,
 ⟨[.zlt (.n v0) (.a (.n v1) (.n v2))],.lt v0 (.a v1 v2),3,[17]⟩,
 ⟨[.no (.zlt (.n v0) (.a (.n v1) (.n v2)))],.no (.lt v0 (.a v1 v2)),3,[17]⟩,
 ⟨[.le v0 (.c 1000),.le (.c 100000) v1],.le v0 v1,2,[273]⟩,
 ⟨[(mn v1 v2 v3),.le v0 (.c 1000),.eq v1 v0],.le v3 (.c 1000000),4,[16846864,16846865]⟩,
 ⟨[(sb (.a v1 c1) v0 v2),(sb (.a v1 c1) (.a v0 c1) v3),.le v0 v1],.eq v2 (.a v3 c1),4,[16777217,16777217,4097,4097,285278464,269488144,268501248,269484048]⟩,
 ⟨[(sb (.a v1 c1) v0 v2),.no (.le v0 v1)],.eq v2 c0,3,[65792,65552,65793,69648]⟩,
 ⟨[.lt c0 v0,.eq v1 v0],.lt c0 v1,2,[4353]⟩,
 ⟨[.lt c0 v0],.lt c0 v0,1,[17]⟩,
 ⟨[],.le c0 (.c 10000),0,[1]⟩,
 ⟨[.no (.eq v0 v1)],.no (.zeq (.n v0) (.n v1)),2,[257,17]⟩,
 ⟨[.no (.zeq (.n v0) (.d 1))],.no (.eq v0 c1),1,[257,17]⟩,
 ⟨[(mn c1 v0 v1),.lt c0 v0],.eq v1 c1,2,[65792,65552,69888,65553]⟩,
 ⟨[(sb v0 c1 v1),(sb v1 c1 v2),(sb v0 c2 v3)],.eq v2 v3,4,[68988960768,73014509568,16777217,16777217,4112,4112,4112,4112,68988960768,73014509568,68988965120,73031286784,68988964864,73031286800,68988961024,73014509584]⟩,
 ⟨[(sb v1 c1 v2),(sb v2 c1 v3),(sb v0 c1 v4),(mn v3 v4 v5),(sb v1 c2 v6),.eq v0 v1],.eq v5 v6,7,[0x100010100000100000,0x100100010000010000,281474976710657,281474976710657,0x100010100100000000,0x100100010010000000,281474976710657,281474976710657,0x100010100000100000,0x100100010000010000,281474976710657,281474976710657,0x100010100101000000,0x101100010010000001,281474976710657,281474976710657,4112,4112,4112,4112,4112,4112,4112,4112,4112,4112,4112,4112,4112,4112,4112,4112,0x100010100000100000,0x100100010000010000,0x10001000001000000,0x10001000001000000,0x100010100100000000,0x100100010010000000,0x10001000001000000,0x10001000001000000,0x100010100000100000,0x100100010000010000,0x100010100000101100,0x100101010000010000,0x100010100101000000,0x100100011000010000,0x10001001100010000,0x10001001100010000,0x10000000001001010,0x10000000001001010,0x10000000001001010,0x10000000001001010,0x10000000001001010,0x10000000001001010,0x10000000001001010,0x10000000001001010,0x100010100000101000,0x100101010000010010,0x100010100000100100,0x100100010000010010,0x10000001100010010,0x10000001100010010,0x10000001100010010,0x10000001100010010]⟩,
 ⟨[(sb v1 c2 v2),(sb v1 c1 v3),(sb v3 c1 v4),.lt v0 v2],.lt v0 v4,5,[1172526071824,16842752,1172526071824,1172542849040,4097,4097,1172543897616,1172527120400]⟩]
theorem tk8:tb8.all LR.ok=true:=by decide +kernel
theorem qsy:(¬ (((63:Nat):Int)<((a:Nat):Int)))->a<=63:=lin tk8 0 [a] []
theorem qsz:a<=1000->10000<=b->(a+2)<=b:=lin tk8 1 [a,b] []
theorem qjm:a<=1000->10000<=b->a<=b:=lin tk8 2 [a,b] []
theorem qng:a<=1000->b<=a->b<(2^63:Nat):=lin tk8 3 [a,b] []
theorem qjn:(-(2^63:Int))<=((a:Nat):Int):=lin tk8 4 [a] []
theorem qsA:a<4->((a:Nat):Int)<(2^63:Int):=lin tk8 5 [a] []
theorem qsB:a<=1000->10000<=b->c<=1000->(a+c)<=b:=lin tk8 6 [a,b,c] []
theorem qsC:a<=1000->b<=1000->10000<=c->d<=a->e<=1000->((b+e)+d)<=c:=lin tk8 7 [a,b,c,d,e] []
theorem qnh:a<=1000->b=a->b<(2^63:Nat):=lin tk8 8 [a,b] []
theorem qsD:((a:Nat):Int)<(((b:Nat):Int)+((c:Nat):Int))->a<(b+c):=lin tk8 9 [a,b,c] []
theorem qsE:(¬ (((a:Nat):Int)<(((b:Nat):Int)+((c:Nat):Int))))->¬ (a<(b+c)):=lin tk8 10 [a,b,c] []
theorem qfB:a<=1000->100000<=b->a<=b:=lin tk8 11 [a,b] []
theorem qsF:a<=1000->b=a->(min b c)<=1000000:=lin tk8 12 [a,b,c,(min b c)] [] (qac b c)
theorem qni:a<=b->((b+1)-a)=(((b+1)-(a+1))+1):=lin tk8 13 [a,b,((b+1)-a),((b+1)-(a+1))] [] (qg (b+1) a) (qg (b+1) (a+1))
theorem qsG:(¬ (a<=b))->((b+1)-a)=0:=lin tk8 14 [a,b,((b+1)-a)] [] (qg (b+1) a)
theorem qsH:0<a->b=a->0<b:=lin tk8 15 [a,b] []
theorem qsI:0<a->0<a:=lin tk8 16 [a] []
theorem qsJ :0<=10000:=lin tk8 17 [] []
theorem qnj:(¬ (a=b))->((a:Nat):Int)≠((b:Nat):Int):=lin tk8 18 [a,b] []
theorem qsK:((a:Nat):Int)≠(1:Int)->a≠1:=lin tk8 19 [a] []
theorem qsL:0<a->(min 1 a)=1:=lin tk8 20 [a,(min 1 a)] [] (qac 1 a)
theorem qsM:((a-1)-1)=(a-2):=lin tk8 21 [a,(a-1),((a-1)-1),(a-2)] [] (qg a 1) (qg (a-1) 1) (qg a 2)
theorem qsN:a=b->(min ((b-1)-1) (a-1))=(b-2):=lin tk8 22 [a,b,(b-1),((b-1)-1),(a-1),(min ((b-1)-1) (a-1)),(b-2)] [] (qg b 1) (qg (b-1) 1) (qg a 1) (qac ((b-1)-1) (a-1)) (qg b 2)
theorem qnk:a<(b-2)->a<((b-1)-1):=lin tk8 23 [a,b,(b-2),(b-1),((b-1)-1)] [] (qg b 2) (qg b 1) (qg (b-1) 1)
noncomputable def tb9:List LR:=[
 ⟨[(sb v1 c2 v2),.lt v0 v2],.lt (.a v0 c1) v1,3,[268439568,69648]⟩,
 ⟨[.le v0 (.c 1000),.le v1 v0],.le v1 (.c 10000),2,[273]⟩,
 ⟨[],.zeq (.a (.n v0) (.d 1)) (.n (.a v0 c1)),1,[1,1]⟩,
 ⟨[(sb (.a v1 c1) (.a v0 c1) v2),(sb (.a v1 c1) v0 v3),.le v0 v1],.lt v2 v3,4,[16781312,286261264,4097,269484048]⟩,
 ⟨[.no (.zle (.n v0) (.n v1))],.no (.le v0 v1),2,[17]⟩,
 ⟨[(sb v0 c1 v2),.lt c0 v0,.eq v1 v0],.lt v2 v1,3,[17829904,17825808]⟩,
 ⟨[(sb v0 c1 v1),.lt c0 v0],.lt v1 v0,2,[69648,65552]⟩,
 ⟨[.or (.an (.zle (.a (.g (.d 1)) (.n v0)) (.d 0)) (.eq v1 c0)) (.an (.zle (.d 0) (.a (.g (.d 1)) (.n v0))) (.zeq (.n v1) (.a (.g (.d 1)) (.n v0)))),(sb v0 c1 v2)],.eq v1 v2,3,[16843008,17825808,16843009,17829904,16843009,17829904,16843008,17825808]⟩,
 ⟨[.lt c0 v0],.zle (.g (.n v0)) (.g (.d 1)),1,[17]⟩,
 ⟨[(sb v1 v2 v3),.zle (.n v0) (.s (.n v1) (.n v2))],.or (.an (.le v0 v3) (.le v2 v1)) (.an (.eq v0 c0) (.le v2 v1)),4,[69889,69889,69889,68719546368,1118208,68719546368,69888,69888,69888,65537,65537,65537]⟩,
 ⟨[.or (.an (.le v0 v3) (.le v2 v1)) (.an (.eq v0 c0) (.le v2 v1))],.le v2 v1,4,[272,4352]⟩,
 ⟨[.zle (.n v0) (.s (.n v1) (.n v2))],.no (.zlt (.s (.n v1) (.n v2)) (.n v0)),3,[17]⟩,
 ⟨[(sb v1 v0 v2),.le v0 v1],.zeq (.s (.n v1) (.n v0)) (.n v2),3,[69648,65793,65552,65792]⟩,
 ⟨[(sb v0 v1 v2),.le v0 (.c 1000)],.le v2 (.c 10000),3,[65552,16846864]⟩,
 ⟨[.no (.zle (.n v0) (.s (.n v1) (.n v2)))],.zlt (.s (.n v1) (.n v2)) (.n v0),3,[17]⟩,
 ⟨[],.lt v0 (.a v0 (.c 6)),1,[1]⟩,
 ⟨[(sb v0 v1 v2),(sb v0 v4 v5),.le v2 (.a v3 c1),.lt v1 v4],.le v5 v3,6,[17596481077248,268439553,17596481077248,4580245760]⟩,
 ⟨[(sb v1 v0 v2),(sb v2 c1 v3),.lt v0 v1],.eq v2 (.a v3 c1),4,[16777217,16777217,4112,4112,285278464,269488128,268500992,269484032]⟩,
 ⟨[(sb v2 v1 v3),(sb v2 v0 v4),(sb v4 c1 v5),.lt v0 v1],.le v3 v5,6,[1103806595088,16842752,1103806595088,1103823372304,68719480833,16842752,1172543897616,1172527120400]⟩,
 ⟨[],.le v2 v2,3,[1]⟩,
 ⟨[.lt c0 v0],.an (.lt c0 v0) (.le v0 (.a v0 c1)),1,[17,16]⟩,
 ⟨[.no (.lt v0 v1),.lt v0 (.a v1 c1)],.eq v0 v1,2,[257,272]⟩,
 ⟨[(sb v0 c1 v1),.lt c0 v0],.eq (.a v1 c1) v0,2,[65793,69648,65792,65552]⟩,
 ⟨[(sb v1 c1 v2),.lt v0 v1,.no (.eq v0 v2)],.lt v0 v2,3,[1114112,69889,1114112,69888]⟩]
theorem tk9:tb9.all LR.ok=true:=by decide +kernel
theorem qsO:a<(b-2)->(a+1)<b:=lin tk9 0 [a,b,(b-2)] [] (qg b 2)
theorem qsP:a<=1000->b<=a->b<=10000:=lin tk9 1 [a,b] []
theorem qnl:(((a:Nat):Int)+(1:Int))=(((a+1):Nat):Int):=lin tk9 2 [a] []
theorem qsQ:a<=b->((b+1)-(a+1))<((b+1)-a):=lin tk9 3 [a,b,((b+1)-(a+1)),((b+1)-a)] [] (qg (b+1) (a+1)) (qg (b+1) a)
theorem qsR:(¬ (((a:Nat):Int)<=((b:Nat):Int)))->¬ (a<=b):=lin tk9 4 [a,b] []
theorem qnm:0<a->b=a->(a-1)<b:=lin tk9 5 [a,b,(a-1)] [] (qg a 1)
theorem qjo:0<a->(a-1)<a:=lin tk9 6 [a,(a-1)] [] (qg a 1)
theorem qjp:(Int.toNat ((-(1:Int))+((a:Nat):Int)))=(a-1):=lin tk9 7 [a,(Int.toNat ((-(1:Int))+((a:Nat):Int))),(a-1)] [] (qbk ((-(1:Int))+((a:Nat):Int))) (qg a 1)
theorem qhc:0<a->(-((a:Nat):Int))<=(-(1:Int)):=lin tk9 8 [a] []
theorem qsS:((a:Nat):Int)<=(((b:Nat):Int)-((c:Nat):Int))->((a<=(b-c)/\c<=b)\/(a=0/\c<=b)):=lin tk9 9 [a,b,c,(b-c)] [] (qg b c)
theorem qsT:((a<=(b-c)/\c<=b)\/(a=0/\c<=b))->c<=b:=lin tk9 10 [a,b,c,(b-c)] []
theorem qsU:((a:Nat):Int)<=(((b:Nat):Int)-((c:Nat):Int))->¬ ((((b:Nat):Int)-((c:Nat):Int))<((a:Nat):Int)):=lin tk9 11 [a,b,c] []
theorem qsV:a<=b->(((b:Nat):Int)-((a:Nat):Int))=(((b-a):Nat):Int):=lin tk9 12 [a,b,(b-a)] [] (qg b a)
theorem qsW:a<=1000->(a-b)<=10000:=lin tk9 13 [a,b,(a-b)] [] (qg a b)
theorem qsX:(¬ (((a:Nat):Int)<=(((b:Nat):Int)-((c:Nat):Int))))->(((b:Nat):Int)-((c:Nat):Int))<((a:Nat):Int):=lin tk9 14 [a,b,c] []
theorem qsY:a<(a+6):=lin tk9 15 [a] []
theorem qnn:(a-b)<=(c+1)->b<d->(a-d)<=c:=lin tk9 16 [a,b,(a-b),c,d,(a-d)] [] (qg a b) (qg a d)
theorem qno:a<b->(b-a)=(((b-a)-1)+1):=lin tk9 17 [a,b,(b-a),((b-a)-1)] [] (qg b a) (qg (b-a) 1)
theorem qsZ:a<b->(c-b)<=((c-a)-1):=lin tk9 18 [a,b,c,(c-b),(c-a),((c-a)-1)] [] (qg c b) (qg c a) (qg (c-a) 1)
theorem qs0:(a-b)<=(a-b):=lin tk9 19 [a,b,(a-b)] []
theorem qs1:0<a->(0<a/\a<=(a+1)):=lin tk9 20 [a] []
theorem qs2:(¬ (a<b))->a<(b+1)->a=b:=lin tk9 21 [a,b] []
theorem qs3:0<a->((a-1)+1)=a:=lin tk9 22 [a,(a-1)] [] (qg a 1)
theorem qnp:a<b->(¬ (a=(b-1)))->a<(b-1):=lin tk9 23 [a,b,(b-1)] [] (qg b 1)
noncomputable def tb10:List LR:=[
 ⟨[.le v0 (.c 1000),.le (.c 100000) v1,.le v2 v0,.le v3 v0],.le (.a v2 v3) v1,4,[69906]⟩,
 ⟨[.lt v0 v1],.zlt (.n v0) (.n v1),2,[17]⟩,
 ⟨[.no (.lt v0 v1)],.no (.zlt (.n v0) (.n v1)),2,[17]⟩,
 ⟨[(sb v1 v2 v3),(sb v1 v0 v4),.lt v0 v1,.lt v0 v2],.lt v3 v4,5,[16781312,4312793104,16781312,4564451344]⟩,
 ⟨[.le v0 (.a v1 c1),.lt v1 v2,.le v3 (.a v0 c1)],.le v3 (.a v2 c1),4,[4369]⟩,
 ⟨[.le (.c 100000) v0,.le v1 (.c 1000)],.le v1 v0,2,[273]⟩,
 ⟨[],.zeq (.a (.n v0) (.d 6)) (.n (.a v0 (.c 6))),1,[1,1]⟩,
 ⟨[.le (.c 100000) v0,.le v1 (.a v2 c1),.le v2 (.c 2000)],.le v1 v0,3,[4369]⟩,
 ⟨[],.le v0 (.a v0 (.c 6)),1,[1]⟩,
 ⟨[.le v0 (.c 1000),.lt v1 v0],.le (.a v1 (.c 6)) (.c 2000),2,[273]⟩,
 ⟨[],.zeq (.a (.n v0) (.d 2)) (.n (.a v0 c2)),1,[1,1]⟩,
 ⟨[],.le v0 (.a v0 c2),1,[1]⟩,
 ⟨[.le v0 (.c 1000),.lt v1 v0],.le (.a v1 c2) (.c 2000),2,[273]⟩,
 ⟨[.le v0 (.c 2000)],.zlt (.n v0) (.d 9223372036854775808),1,[17]⟩,
 ⟨[.le v0 (.c 1000),.lt v1 v0],.le (.a v1 c1) (.c 2000),2,[273]⟩,
 ⟨[.le v0 (.a v1 c1),.le v1 (.c 2000)],.lt v0 (.c 9223372036854775808),2,[273]⟩,
 ⟨[.zlt (.n v0) (.d 0)],.eq v3 v0,4,[273,1048577]⟩,
 ⟨[.or (.an (.zle (.n v0) (.d 0)) (.eq v2 c0)) (.an (.zle (.d 0) (.n v0)) (.zeq (.n v2) (.n v0))),(mn v2 v1 v3),.lt v0 v1],.eq v3 v0,4,[269484289,17592454545424,286261248,17592202825744,269484288,268501008,16781328,16781328]⟩,
 ⟨[.zlt (.a (.n v0) (.n v1)) (.d 0)],.lt v0 v4,5,[1048849]⟩,
 ⟨[.or (.an (.zle (.a (.n v0) (.n v2)) (.d 0)) (.eq v3 c0)) (.an (.zle (.d 0) (.a (.n v0) (.n v2))) (.zeq (.n v3) (.a (.n v0) (.n v2)))),(mn v3 v1 v4),.lt v0 v1,.or (.eq v2 c1) (.eq v2 c2)],.lt v0 v4,5,[73015492865,73015492865,68737302528,68737302528,73015492864,73015492864,68737302528,68737302528]⟩,
 ⟨[(sb v2 v0 v3),(sb v1 v0 v4),(mn v3 v4 v5),.lt v0 v1,.lt v0 v2],.no (.eq v5 c0),6,[68719480832,68719480832,1099511627777,68737302544,68719480832,68719480832,18695992639744,17665201537024]⟩,
 ⟨[(sb v0 c1 v1),.no (.eq v0 c0)],.zeq (.a (.g (.d 1)) (.n v0)) (.n v1),2,[16781312,65793,69648,65793,4097,4097,65552,65792]⟩,
 ⟨[.or (.an (.zle (.a (.g (.d 1)) (.n v0)) (.d 0)) (.eq v2 c0)) (.an (.zle (.d 0) (.a (.g (.d 1)) (.n v0))) (.zeq (.n v2) (.a (.g (.d 1)) (.n v0)))),.zeq (.a (.g (.d 1)) (.n v0)) (.n v1)],.an (.an (.zle (.d 0) (.a (.g (.d 1)) (.n v0))) (.zlt (.a (.g (.d 1)) (.n v0)) (.n v0))) (.eq v2 v1),3,[269549568,1048576,1114369,269484048,1048577,1048576,1114368,1052688]⟩,
 ⟨[(sb v0 c1 v1),.no (.eq v0 c0)],.lt v1 v0,2,[16781312,69648,4097,65552]⟩]
theorem qaQ:tb10.all LR.ok=true:=by decide +kernel
theorem qs4:a<=1000->100000<=b->c<=a->d<=a->(c+d)<=b:=lin qaQ 0 [a,b,c,d] []
theorem qnq:a<b->((a:Nat):Int)<((b:Nat):Int):=lin qaQ 1 [a,b] []
theorem qnr:(¬ (a<b))->¬ (((a:Nat):Int)<((b:Nat):Int)):=lin qaQ 2 [a,b] []
theorem qs5:a<b->a<c->(b-c)<(b-a):=lin qaQ 3 [a,b,c,(b-c),(b-a)] [] (qg b c) (qg b a)
theorem qs6:a<=(b+1)->b<c->d<=(a+1)->d<=(c+1):=lin qaQ 4 [a,b,c,d] []
theorem qjq:100000<=a->b<=1000->b<=a:=lin qaQ 5 [a,b] []
theorem qs7:(((a:Nat):Int)+(6:Int))=(((a+6):Nat):Int):=lin qaQ 6 [a] []
theorem qns:100000<=a->b<=(c+1)->c<=2000->b<=a:=lin qaQ 7 [a,b,c] []
theorem qs8:a<=(a+6):=lin qaQ 8 [a] []
theorem qs9:a<=1000->b<a->(b+6)<=2000:=lin qaQ 9 [a,b] []
theorem qta:(((a:Nat):Int)+(2:Int))=(((a+2):Nat):Int):=lin qaQ 10 [a] []
theorem qtb:a<=(a+2):=lin qaQ 11 [a] []
theorem qtc:a<=1000->b<a->(b+2)<=2000:=lin qaQ 12 [a,b] []
theorem qtd:a<=2000->((a:Nat):Int)<(2^63:Int):=lin qaQ 13 [a] []
theorem qte:a<=1000->b<a->(b+1)<=2000:=lin qaQ 14 [a,b] []
theorem qnt:a<=(b+1)->b<=2000->a<(2^63:Nat):=lin qaQ 15 [a,b] []
theorem qtf:((a:Nat):Int)<(0:Int)->(b-(Int.toNat (-((a:Nat):Int))))=a:=lin qaQ 16 [a,b,(Int.toNat (-((a:Nat):Int))),(b-(Int.toNat (-((a:Nat):Int))))] []
theorem qtg:a<b->(min (Int.toNat ((a:Nat):Int)) b)=a:=lin qaQ 17 [a,b,(Int.toNat ((a:Nat):Int)),(min (Int.toNat ((a:Nat):Int)) b)] [] (qbk ((a:Nat):Int)) (qac (Int.toNat ((a:Nat):Int)) b)
theorem qth:(((a:Nat):Int)+((b:Nat):Int))<(0:Int)->a<(c-(Int.toNat (-(((a:Nat):Int)+((b:Nat):Int))))):=lin qaQ 18 [a,b,c,(Int.toNat (-(((a:Nat):Int)+((b:Nat):Int)))),(c-(Int.toNat (-(((a:Nat):Int)+((b:Nat):Int)))))] []
theorem qti:a<b->(c=1\/c=2)->a<(min (Int.toNat (((a:Nat):Int)+((c:Nat):Int))) b):=lin qaQ 19 [a,b,c,(Int.toNat (((a:Nat):Int)+((c:Nat):Int))),(min (Int.toNat (((a:Nat):Int)+((c:Nat):Int))) b)] [] (qbk (((a:Nat):Int)+((c:Nat):Int))) (qac (Int.toNat (((a:Nat):Int)+((c:Nat):Int))) b)
theorem qtj:a<b->a<c->(min (c-a) (b-a))≠0:=lin qaQ 20 [a,b,c,(c-a),(b-a),(min (c-a) (b-a))] [] (qg c a) (qg b a) (qac (c-a) (b-a))
theorem qtk:a≠0->((-(1:Int))+((a:Nat):Int))=(((a-1):Nat):Int):=lin qaQ 21 [a,(a-1)] [] (qg a 1)
theorem qtl:((-(1:Int))+((a:Nat):Int))=(((a-1):Nat):Int)->(((0:Int)<=((-(1:Int))+((a:Nat):Int))/\((-(1:Int))+((a:Nat):Int))<((a:Nat):Int))/\(Int.toNat ((-(1:Int))+((a:Nat):Int)))=(a-1)):=lin qaQ 22 [a,(a-1),(Int.toNat ((-(1:Int))+((a:Nat):Int)))] [] (qbk ((-(1:Int))+((a:Nat):Int)))
theorem qtm:a≠0->(a-1)<a:=lin qaQ 23 [a,(a-1)] [] (qg a 1)
noncomputable def tb11:List LR:=[
 ⟨[.le (.c 100000) v0,.le v1 (.c 2000),.le v2 v1],.le v2 v0,3,[4369]⟩,
 ⟨[.le v0 (.c 1000),.lt v1 v0,.or (.eq v2 c1) (.eq v2 c2)],.le (.a v1 v2) (.c 2000),3,[65809,65809]⟩,
 ⟨[.le v0 v1],.le v0 (.a v1 v2),3,[273]⟩,
 ⟨[.le v0 v1,.or (.eq v2 c1) (.eq v2 c2)],.le (.a v0 c1) (.a v1 v2),3,[4353,4353]⟩,
 ⟨[.le v0 (.c 1000),.lt v1 v0],.zlt (.n v1) (.d 9223372036854775808),2,[273]⟩,
 ⟨[.le v0 (.c 1000),.le v1 v2,.lt v2 v0],.lt v1 (.c 9223372036854775808),3,[4369]⟩,
 ⟨[.le v0 (.c 1000),.le (.c 100000) v1,.le v2 v3,.lt v3 v0],.le v2 v1,4,[69905]⟩,
 ⟨[.le v0 v1,.no (.zlt (.n v0) (.n v1))],.eq v0 v1,2,[272,257]⟩,
 ⟨[.le v0 (.m 2 v1),.le v2 c2],.le (.a v0 v2) (.m 2 (.a v1 c1)),3,[273]⟩,
 ⟨[.le v0 (.m 2 v1)],.le v0 (.m 10 v1),2,[2065]⟩,
 ⟨[.le v0 v1],.le v0 (.m 2 v1),2,[273]⟩,
 ⟨[.no (.eq (.a v0 c1) v1)],.no (.zeq (.n (.a v0 c1)) (.n v1)),2,[257,17]⟩,
 ⟨[.le v0 (.c 1000),.le (.c 1000000) v1,.le v2 (.m 2 v3),.eq (.a v3 c1) v0],.le v2 v1,4,[1057042]⟩,
 ⟨[.le v0 (.m 10 v1),.eq (.a v1 c1) v2,.eq v3 c2],.le (.a v0 v3) (.a (.m 10 v2) (.c 10)),4,[1052833]⟩,
 ⟨[.le v0 (.m 2 v1),.eq (.a v1 c1) v2],.le v0 (.a (.m 2 v2) c1),3,[4129]⟩,
 ⟨[.lt v0 v1,.no (.eq (.a v0 c1) v1)],.lt (.a v0 c1) v1,2,[272,17]⟩,
 ⟨[.lt (.a v0 c1) v1],.le (.a v0 c1) v1,2,[17]⟩,
 ⟨[.le v0 (.c 1000),.le (.c 1000000) v1,.eq (.a (.a v2 c1) v3) v4,.eq v5 v3,.lt v4 v0],.le v5 v1,6,[17592471322897]⟩,
 ⟨[.eq (.a (.a v0 c1) v1) v2],.eq (.a (.a v0 c1) (.a v1 c1)) (.a v2 c1),3,[272,257]⟩,
 ⟨[.le v0 (.c 1000),.le v1 v0,.eq (.a (.a v2 c1) v3) v1],.le v3 (.c 1000),4,[16843025]⟩,
 ⟨[.le v0 (.m 2 v1),.le v1 (.c 1000)],.le (.a v0 (.r v1 0)) (.c 16777216),2,[289]⟩,
 ⟨[.le v0 (.c 1000),.le (.c 1000000) v1,.le v2 (.m 2 v3),.lt (.a v3 c1) v0],.le v2 v1,4,[74002]⟩,
 ⟨[.le v0 (.c 1000),.le (.c 1000000) v1,.le v2 (.m 2 v3),.lt (.a v3 c1) v0],.le (.a v2 c1) v1,4,[74002]⟩,
 ⟨[(sb v1 v0 v2),.lt (.a v0 c1) v1],.lt c0 v2,3,[4097,69888]⟩]
theorem qaR:tb11.all LR.ok=true:=by decide +kernel
theorem qtn:100000<=a->b<=2000->c<=b->c<=a:=lin qaR 0 [a,b,c] []
theorem qto:a<=1000->b<a->(c=1\/c=2)->(b+c)<=2000:=lin qaR 1 [a,b,c] []
theorem qnu:a<=b->a<=(b+c):=lin qaR 2 [a,b,c] []
theorem qtp:a<=b->(c=1\/c=2)->(a+1)<=(b+c):=lin qaR 3 [a,b,c] []
theorem qnv:a<=1000->b<a->((b:Nat):Int)<(2^63:Int):=lin qaR 4 [a,b] []
theorem qtq:a<=1000->b<=c->c<a->b<(2^63:Nat):=lin qaR 5 [a,b,c] []
theorem qjr:a<=1000->100000<=b->c<=d->d<a->c<=b:=lin qaR 6 [a,b,c,d] []
theorem qnw:a<=b->(¬ (((a:Nat):Int)<((b:Nat):Int)))->a=b:=lin qaR 7 [a,b] []
theorem qnx:a<=(2*b)->c<=2->(a+c)<=(2*(b+1)):=lin qaR 8 [a,b,c] []
theorem qny:a<=(2*b)->a<=(10*b):=lin qaR 9 [a,b] []
theorem qnz:a<=b->a<=(2*b):=lin qaR 10 [a,b] []
theorem qtr:(¬ ((a+1)=b))->(((a+1):Nat):Int)≠((b:Nat):Int):=lin qaR 11 [a,b] []
theorem qts:a<=1000->1000000<=b->c<=(2*d)->(d+1)=a->c<=b:=lin qaR 12 [a,b,c,d] []
theorem qtt:a<=(10*b)->(b+1)=c->d=2->(a+d)<=((10*c)+10):=lin qaR 13 [a,b,c,d] []
theorem qtu:a<=(2*b)->(b+1)=c->a<=((2*c)+1):=lin qaR 14 [a,b,c] []
theorem qtv:a<b->(¬ ((a+1)=b))->(a+1)<b:=lin qaR 15 [a,b] []
theorem qtw:(a+1)<b->(a+1)<=b:=lin qaR 16 [a,b] []
theorem qtx:a<=1000->1000000<=b->((c+1)+d)=e->f=d->e<a->f<=b:=lin qaR 17 [a,b,c,d,e,f] []
theorem qty:((a+1)+b)=c->((a+1)+(b+1))=(c+1):=lin qaR 18 [a,b,c] []
theorem qtz:a<=1000->b<=a->((c+1)+d)=b->d<=1000:=lin qaR 19 [a,b,c,d] []
theorem qtA:a<=(2*b)->b<=1000->(a+(b*0))<=16777216:=lin qaR 20 [a,b] []
theorem qnA:a<=1000->1000000<=b->c<=(2*d)->(d+1)<a->c<=b:=lin qaR 21 [a,b,c,d] []
theorem qtB:a<=1000->1000000<=b->c<=(2*d)->(d+1)<a->(c+1)<=b:=lin qaR 22 [a,b,c,d] []
theorem qtC:(a+1)<b->0<(b-a):=lin qaR 23 [a,b,(b-a)] [] (qg b a)
noncomputable def tb12:List LR:=[
 ⟨[(sb v1 v0 v2),.eq v0 v1],.eq c0 v2,3,[1048592,1048832,1114128,1048833]⟩,
 ⟨[.le v0 (.m 10 v1),.le v2 (.m 2 v3),.eq (.a (.a v1 c1) v3) v4,.le v5 v2,.eq v6 c2],.le (.a (.a v0 v6) v5) (.m 10 v4),7,[275147721297]⟩,
 ⟨[.le v0 (.m 2 v1),.lt (.a v1 c1) v2,.eq v3 v2],.le (.a v0 c2) (.m 2 v3),4,[73761]⟩,
 ⟨[.le v0 v1,.no (.eq v0 v1)],.lt v0 v1,2,[272,17]⟩,
 ⟨[.le (.c 1000000) v0],.le (.c 6) v0,1,[17]⟩,
 ⟨[.le (.c 1000000) v0,.le v1 (.m 2 v2),.le v2 (.c 1000),.le v3 v1],.le v3 v0,4,[70161]⟩,
 ⟨[.le (.c 1000000) v0,.le v1 (.m 2 v2),.le v2 (.c 1000),.le v3 v1,.eq v4 (.c 6)],.le (.a v4 v3) v0,5,[16847377]⟩,
 ⟨[.le (.c 1000000) v0,.le v1 (.m 2 v2),.le v2 (.c 1000),.le v3 v1,.eq v4 (.c 6),.eq v5 c1],.le (.a (.a v4 v3) v5) v0,6,[4311814673]⟩,
 ⟨[(sb v3 v2 v4),(sb v3 v0 v5),.eq (.a (.a v0 c1) v1) v2,.lt v2 v3],.lt v4 v5,6,[4294967297,4294967297,72057598349676544,72057662775230480]⟩,
 ⟨[.le v0 (.m 10 v1),.le v2 (.m 2 v3),.eq (.a (.a v1 c1) v3) v4,.le v5 v2,.eq v6 (.c 6),.eq v7 c1],.le (.a v0 (.a (.a v6 v5) v7)) (.m 10 v4),8,[0x4001010150a51]⟩,
 ⟨[.le v0 (.m 2 v1),.eq (.a (.a v1 c1) v2) v3],.le (.a v0 c1) (.m 2 v3),4,[2101281]⟩,
 ⟨[.le v0 (.m 10 v1),.eq v1 v2],.le v0 (.a (.m 10 v2) (.c 10)),3,[4257]⟩,
 ⟨[.le v0 (.m 2 v1),.eq v1 v2],.le v0 (.a (.m 2 v2) c2),3,[4129]⟩,
 ⟨[.le v0 (.c 1000),.le v1 (.a (.m 10 v0) (.c 10))],.le (.a v1 (.r v2 0)) (.c 16777216),3,[282]⟩,
 ⟨[.le (.c 1000000) v0],.le c4 v0,1,[17]⟩,
 ⟨[.le v0 (.c 1000),.le (.c 1000000) v1,.le v2 (.a (.m 10 v0) (.c 10)),.le v3 v2],.le v3 v1,4,[69914]⟩,
 ⟨[.le v0 (.c 1000),.le (.c 1000000) v1,.le v2 (.a (.m 10 v0) (.c 10)),.le v3 v2,.eq v4 c4],.le (.a v4 v3) v1,5,[16847130]⟩,
 ⟨[.le v0 (.c 1000),.le (.c 1000000) v1,.le v2 (.a (.m 10 v0) (.c 10)),.le v3 v2,.eq v4 c4,.eq v5 c3],.le (.a (.a v4 v3) v5) v1,6,[4311814426]⟩,
 ⟨[.le v0 (.c 1000)],.le v0 (.c 1000000),1,[17]⟩,
 ⟨[.no (.eq v0 v1)],.no (.zeq (.n v0) (.n v1)),2,[257,17]⟩,
 ⟨[(sb v2 c1 v3),.le (.a v0 (.a v1 c1)) v2],.eq v2 (.a v3 c1),4,[4563472400,65793,65552,65792]⟩,
 ⟨[.le (.a (.a v0 c1) (.a v1 c1)) (.a v2 c1)],.le (.a (.a v0 c1) v1) v2,3,[17]⟩,
 ⟨[(sb v2 c1 v3),.le (.a (.a v0 c1) v1) v2],.eq v2 (.a v3 c1),4,[4563472400,65793,65552,65792]⟩,
 ⟨[.le (.a (.a v0 c1) (.a v1 c1)) (.a v2 c1)],.le (.a v0 (.a v1 c1)) v2,3,[17]⟩]
theorem qaS:tb12.all LR.ok=true:=by decide +kernel
theorem qtD:a=b->0=(b-a):=lin qaS 0 [a,b,(b-a)] [] (qg b a)
theorem qtE:a<=(10*b)->c<=(2*d)->((b+1)+d)=e->f<=c->g=2->((a+g)+f)<=(10*e):=lin qaS 1 [a,b,c,d,e,f,g] []
theorem qtF:a<=(2*b)->(b+1)<c->d=c->(a+2)<=(2*d):=lin qaS 2 [a,b,c,d] []
theorem qnB:a<=b->(¬ (a=b))->a<b:=lin qaS 3 [a,b] []
theorem qtG:1000000<=a->6<=a:=lin qaS 4 [a] []
theorem qtH:1000000<=a->b<=(2*c)->c<=1000->d<=b->d<=a:=lin qaS 5 [a,b,c,d] []
theorem qtI:1000000<=a->b<=(2*c)->c<=1000->d<=b->e=6->(e+d)<=a:=lin qaS 6 [a,b,c,d,e] []
theorem qtJ:1000000<=a->b<=(2*c)->c<=1000->d<=b->e=6->f=1->((e+d)+f)<=a:=lin qaS 7 [a,b,c,d,e,f] []
theorem qtK:((a+1)+b)=c->c<d->(d-c)<(d-a):=lin qaS 8 [a,b,c,d,(d-c),(d-a)] [] (qg d c) (qg d a)
theorem qtL:a<=(10*b)->c<=(2*d)->((b+1)+d)=e->f<=c->g=6->h=1->(a+((g+f)+h))<=(10*e):=lin qaS 9 [a,b,c,d,e,f,g,h] []
theorem qtM:a<=(2*b)->((b+1)+c)=d->(a+1)<=(2*d):=lin qaS 10 [a,b,c,d] []
theorem qtN:a<=(10*b)->b=c->a<=((10*c)+10):=lin qaS 11 [a,b,c] []
theorem qtO:a<=(2*b)->b=c->a<=((2*c)+2):=lin qaS 12 [a,b,c] []
theorem qtP:a<=1000->b<=((10*a)+10)->(b+(c*0))<=16777216:=lin qaS 13 [a,b,c] []
theorem qtQ:1000000<=a->4<=a:=lin qaS 14 [a] []
theorem qtR:a<=1000->1000000<=b->c<=((10*a)+10)->d<=c->d<=b:=lin qaS 15 [a,b,c,d] []
theorem qtS:a<=1000->1000000<=b->c<=((10*a)+10)->d<=c->e=4->(e+d)<=b:=lin qaS 16 [a,b,c,d,e] []
theorem qtT:a<=1000->1000000<=b->c<=((10*a)+10)->d<=c->e=4->f=3->((e+d)+f)<=b:=lin qaS 17 [a,b,c,d,e,f] []
theorem qtU:a<=1000->a<=1000000:=lin qaS 18 [a] []
theorem qtV:(¬ (a=b))->¬ (((a:Nat):Int)=((b:Nat):Int)):=lin qaS 19 [a,b] []
theorem qnC:(a+(b+1))<=c->c=((c-1)+1):=lin qaS 20 [a,b,c,(c-1)] [] (qg c 1)
theorem qtW:((a+1)+(b+1))<=(c+1)->((a+1)+b)<=c:=lin qaS 21 [a,b,c] []
theorem qnD:((a+1)+b)<=c->c=((c-1)+1):=lin qaS 22 [a,b,c,(c-1)] [] (qg c 1)
theorem qtX:((a+1)+(b+1))<=(c+1)->(a+(b+1))<=c:=lin qaS 23 [a,b,c] []
noncomputable def tb13:List LR:=[
 ⟨[(sb v2 c1 v3),.le (.a (.a v0 c1) (.a v1 c1)) v2],.eq v2 (.a v3 c1),4,[4563472400,65793,65552,65792]⟩,
 ⟨[.le (.a (.a v0 c1) (.a v1 c1)) (.a v2 c1)],.le (.a v0 v1) v2,3,[17]⟩,
 ⟨[.no (.eq v0 c0)],.lt c0 v0,1,[257,17]⟩,
 ⟨[(sb v0 c1 v1),.le c2 v0],.eq v0 (.a v1 c1),2,[4097,4097,65552,65792]⟩,
 ⟨[.le (.a (.a v0 (.a v1 c1)) (.a (.a v2 (.a v3 (.a v1 c1))) c1)) (.a v4 c1)],.le (.a (.a v0 (.a v1 c1)) (.a v3 (.a v1 c1))) v4,5,[65553]⟩,
 ⟨[.le (.a (.a (.a v0 (.a v1 (.a v2 c1))) c1) (.a v3 (.a v2 c1))) (.a v4 c1)],.le (.a (.a v1 (.a v2 c1)) (.a v3 (.a v2 c1))) v4,5,[16777233]⟩,
 ⟨[.le (.a (.a (.a v0 (.a v1 (.a v2 c1))) c1) (.a (.a v3 (.a v4 (.a v2 c1))) c1)) (.a v5 c1)],.le (.a (.a v1 (.a v2 c1)) (.a v4 (.a v2 c1))) v5,6,[268501009]⟩,
 ⟨[(sb v0 v1 v3),.le v0 (.a v1 v2)],.le v3 v2,4,[16842768,69648]⟩,
 ⟨[.eq v0 (.c 92)],.no (.eq v0 (.c 46)),1,[272]⟩,
 ⟨[(sb v0 v1 v3),.lt v0 (.a v1 v2),.le v1 v0],.no (.le v2 v3),4,[1118224,1052688]⟩,
 ⟨[.no (.lt v0 (.a v1 v2))],.le v1 v0,3,[273]⟩,
 ⟨[(sb v0 v1 v3),.no (.lt v0 (.a v1 v2))],.le v2 v3,4,[69889,69888]⟩,
 ⟨[.le (.a v0 v1) v2],.no (.zlt (.s (.n v2) (.n v1)) (.n v0)),3,[17]⟩,
 ⟨[.no (.le (.a v0 v1) v2)],.zlt (.s (.n v2) (.n v1)) (.n v0),3,[17]⟩,
 ⟨[.lt v0 c4],.or (.eq v0 c0) (.or (.eq v0 c1) (.or (.eq v0 c2) (.eq v0 c3))),1,[1048592,65537,4112,4112,272,272,272,272,272,272,272,272,4352,4352,69632,65537]⟩,
 ⟨[],.eq (.a v0 c1) (.a c1 v0),1,[1,1]⟩,
 ⟨[.le v0 v1,.le v1 v2],.le v0 v2,3,[273]⟩,
 ⟨[(sb v0 v1 v2),(sb v2 c1 v3),(sb v0 (.a v1 c1) v4)],.eq v3 v4,5,[68988960768,73014509568,16777217,16777217,4112,4112,4112,4112,68988960768,73014509568,68988965120,73031286784,68988964864,73031286800,68988961024,73014509584]⟩,
 ⟨[(sb v0 v1 v2),(sb v2 c0 v3),(sb v0 (.a v1 c0) v4)],.eq v3 v4,5,[68988960768,73014509568,68988960769,73031286784,68988961024,73014509584,68988961025,73031286800,68988960768,73014509568,68988965120,73014509569,68988961025,73031286800,68988961024,73014509584]⟩,
 ⟨[(sb v1 v0 v2),(sb v1 (.a v0 c1) v3),.no (.lt v0 v1)],.eq v2 v3,4,[268501248,269484048,4097,4097,268501249,286261264,16781312,16781312]⟩,
 ⟨[.eq v0 (.a v1 c1),.le v0 (.a v2 c1)],.le v1 v2,3,[4368]⟩,
 ⟨[.le v0 v1],.no (.lt v1 v0),2,[17]⟩,
 ⟨[.no (.lt v0 v1)],.lt v1 (.a v0 c1),2,[17]⟩,
 ⟨[(sb v0 v1 v2),.lt c0 v2,.le v0 v1],.ff,3,[4112,69648]⟩]
theorem qaT:tb13.all LR.ok=true:=by decide +kernel
theorem qnE:((a+1)+(b+1))<=c->c=((c-1)+1):=lin qaT 0 [a,b,c,(c-1)] [] (qg c 1)
theorem qtY:((a+1)+(b+1))<=(c+1)->(a+b)<=c:=lin qaT 1 [a,b,c] []
theorem qtZ:a≠0->0<a:=lin qaT 2 [a] []
theorem qt0:2<=a->a=((a-1)+1):=lin qaT 3 [a,(a-1)] [] (qg a 1)
theorem qt1:((a+(b+1))+((c+(d+(b+1)))+1))<=(e+1)->((a+(b+1))+(d+(b+1)))<=e:=lin qaT 4 [a,b,c,d,e] []
theorem qt2:(((a+(b+(c+1)))+1)+(d+(c+1)))<=(e+1)->((b+(c+1))+(d+(c+1)))<=e:=lin qaT 5 [a,b,c,d,e] []
theorem qt3:(((a+(b+(c+1)))+1)+((d+(e+(c+1)))+1))<=(f+1)->((b+(c+1))+(e+(c+1)))<=f:=lin qaT 6 [a,b,c,d,e,f] []
theorem qt4:a<=(b+c)->(a-b)<=c:=lin qaT 7 [a,b,c,(a-b)] [] (qg a b)
theorem qt5:a=92->¬ (a=46):=lin qaT 8 [a] []
theorem qt6:a<(b+c)->b<=a->¬ (c<=(a-b)):=lin qaT 9 [a,b,c,(a-b)] [] (qg a b)
theorem qt7:(¬ (a<(b+c)))->b<=a:=lin qaT 10 [a,b,c] []
theorem qt8:(¬ (a<(b+c)))->c<=(a-b):=lin qaT 11 [a,b,c,(a-b)] [] (qg a b)
theorem qt9:(a+b)<=c->¬ ((((c:Nat):Int)-((b:Nat):Int))<((a:Nat):Int)):=lin qaT 12 [a,b,c] []
theorem qua:(¬ ((a+b)<=c))->(((c:Nat):Int)-((b:Nat):Int))<((a:Nat):Int):=lin qaT 13 [a,b,c] []
theorem qub:a<4->(a=0\/(a=1\/(a=2\/a=3))):=lin qaT 14 [a] []
theorem quc:(a+1)=(1+a):=lin qaT 15 [a] []
theorem qcL:a<=b->b<=c->a<=c:=lin qaT 16 [a,b,c] []
theorem qud:((a-b)-1)=(a-(b+1)):=lin qaT 17 [a,b,(a-b),((a-b)-1),(a-(b+1))] [] (qg a b) (qg (a-b) 1) (qg a (b+1))
theorem que:((a-b)-0)=(a-(b+0)):=lin qaT 18 [a,b,(a-b),((a-b)-0),(a-(b+0))] [] (qg a b) (qg (a-b) 0) (qg a (b+0))
theorem quf:(¬ (a<b))->(b-a)=(b-(a+1)):=lin qaT 19 [a,b,(b-a),(b-(a+1))] [] (qg b a) (qg b (a+1))
theorem qug:a=(b+1)->a<=(c+1)->b<=c:=lin qaT 20 [a,b,c] []
theorem quh:a<=b->¬ (b<a):=lin qaT 21 [a,b] []
theorem qui:(¬ (a<b))->b<(a+1):=lin qaT 22 [a,b] []
theorem quj:0<(a-b)->a<=b->False:=lin qaT 23 [a,b,(a-b)] [] (qg a b)
noncomputable def tb14:List LR:=[
 ⟨[.le v0 (.c 8),.le v1 (.c 8),.le v2 (.c 8),.le v3 (.c 8)],.le (.a (.a (.a v0 v1) v2) v3) (.c 32),4,[69905]⟩,
 ⟨[.le v0 (.c 8),.le v1 (.c 8),.le v2 (.c 8)],.lt (.a (.a v0 v1) v2) (.c 64),3,[4369]⟩,
 ⟨[.lt v0 (.m 8 c0)],.ff,1,[17]⟩,
 ⟨[.eq v0 (.c 8),.lt v1 (.c 8)],.lt v1 v0,2,[4368]⟩,
 ⟨[.eq v0 (.c 8),.no (.lt v1 (.c 8))],.le v0 v1,2,[4353]⟩,
 ⟨[(sb v0 (.c 8) v2),.lt v0 (.m 8 (.a v1 c1)),.no (.lt v0 (.c 8))],.lt v2 (.m 8 v1),3,[1118224,1052688]⟩,
 ⟨[.eq v0 (.c 8),.eq (.a (.a (.a v1 v2) v3) v4) (.c 32),.le v1 (.c 8),.le v2 (.c 8),.le v3 (.c 8),.le v4 (.c 8)],.eq v1 v0,5,[4581232641,4295032848]⟩,
 ⟨[.eq v0 (.c 8),.eq (.a (.a (.a v1 v2) v3) v4) (.c 32),.le v1 (.c 8),.le v2 (.c 8),.le v3 (.c 8),.le v4 (.c 8)],.eq v2 v0,5,[4580249601,4296015888]⟩,
 ⟨[.eq v0 (.c 8),.eq (.a (.a (.a v1 v2) v3) v4) (.c 32),.le v1 (.c 8),.le v2 (.c 8),.le v3 (.c 8),.le v4 (.c 8)],.eq v3 v0,5,[4564520961,4311744528]⟩,
 ⟨[.eq v0 (.c 8),.eq (.a (.a (.a v1 v2) v3) v4) (.c 32),.le v1 (.c 8),.le v2 (.c 8),.le v3 (.c 8),.le v4 (.c 8)],.eq v4 v0,5,[4312862721,4563402768]⟩,
 ⟨[.lt v0 (.c 64)],.lt v0 (.m 8 (.c 8)),1,[17]⟩,
 ⟨[.lt v0 v1],.no (.eq (.r v1 1) (.r v0 1)),2,[17]⟩,
 ⟨[.le v0 c1],.or (.eq v0 c0) (.eq v0 c1),1,[4112,257,272,257]⟩,
 ⟨[],.le (.r v0 0) (.a (.r v1 0) c1),2,[1]⟩,
 ⟨[.le v0 (.a v1 c1)],.le (.r v0 1) (.a (.r v1 1) c1),2,[17]⟩,
 ⟨[.lt c0 (.r v0 0)],.lt (.r v1 0) (.r v0 0),2,[1]⟩,
 ⟨[.lt c0 (.r v0 1)],.lt c0 v0,1,[17]⟩,
 ⟨[.lt v0 v1],.lt (.r v0 1) (.r v1 1),2,[17]⟩,
 ⟨[],.le (.r v0 0) (.r v1 0),2,[1]⟩,
 ⟨[.le v0 v1],.le (.r v0 1) (.r v1 1),2,[17]⟩,
 ⟨[.lt v0 v1],.no (.eq v1 v0),2,[17]⟩,
 ⟨[.lt v0 v1],.no (.lt v1 v0),2,[17]⟩,
 ⟨[.lt v0 c3],.or (.eq v0 c0) (.or (.eq v0 c1) (.eq v0 c2)),1,[65552,4097,272,272,272,272,4352,4097]⟩,
 ⟨[(zmn (.a (.z 0) (.n v0)) (.n v0) (.z 1)),(zmx (.d 0) (.z 1) (.z 2)),.or (.an (.zle (.g (.z 0)) (.d 0)) (.eq v1 c0)) (.an (.zle (.d 0) (.g (.z 0))) (.zeq (.n v1) (.g (.z 0)))),(sb v0 v1 v2)],.zeq (.z 2) (.n v2),3,[282574489391104,299136150732817,282578801131776,299067431256081,282574489391104,299136150732816,282578784354560,299067431256080,282574489387008,299067162820608,282578801135872,299135882297344,282574489387008,299067162820608,282578784358656,299135882297344,282574489391104,299136150732816,282578784354560,299067431256080,282574489391104,299136150732817,282578801131776,299067431256081,282574489387008,299067162820608,282578784358656,299135882297344,282574489387008,299067162820608,282578801135872,299135882297344]⟩]
theorem qa5:tb14.all LR.ok=true:=by decide +kernel
theorem quk:a<=8->b<=8->c<=8->d<=8->(((a+b)+c)+d)<=32:=lin qa5 0 [a,b,c,d] []
theorem qul:a<=8->b<=8->c<=8->((a+b)+c)<64:=lin qa5 1 [a,b,c] []
theorem qum:a<(8*0)->False:=lin qa5 2 [a] []
theorem qhd:a=8->b<8->b<a:=lin qa5 3 [a,b] []
theorem qun:a=8->(¬ (b<8))->a<=b:=lin qa5 4 [a,b] []
theorem quo:a<(8*(b+1))->(¬ (a<8))->(a-8)<(8*b):=lin qa5 5 [a,b,(a-8)] [] (qg a 8)
theorem qup:a=8->(((b+c)+d)+e)=32->b<=8->c<=8->d<=8->e<=8->b=a:=lin qa5 6 [a,b,c,d,e] []
theorem quq:a=8->(((b+c)+d)+e)=32->b<=8->c<=8->d<=8->e<=8->c=a:=lin qa5 7 [a,b,c,d,e] []
theorem qur:a=8->(((b+c)+d)+e)=32->b<=8->c<=8->d<=8->e<=8->d=a:=lin qa5 8 [a,b,c,d,e] []
theorem qus:a=8->(((b+c)+d)+e)=32->b<=8->c<=8->d<=8->e<=8->e=a:=lin qa5 9 [a,b,c,d,e] []
theorem qut:a<64->a<(8*8):=lin qa5 10 [a] []
theorem quu:a<b->(b*1)≠(a*1):=lin qa5 11 [a,b] []
theorem quv:a<=1->(a=0\/a=1):=lin qa5 12 [a] []
theorem quw:(a*0)<=((b*0)+1):=lin qa5 13 [a,b] []
theorem qux:a<=(b+1)->(a*1)<=((b*1)+1):=lin qa5 14 [a,b] []
theorem quy:0<(a*0)->(b*0)<(a*0):=lin qa5 15 [a,b] []
theorem quz:0<(a*1)->0<a:=lin qa5 16 [a] []
theorem quA:a<b->(a*1)<(b*1):=lin qa5 17 [a,b] []
theorem quB:(a*0)<=(b*0):=lin qa5 18 [a,b] []
theorem quC:a<=b->(a*1)<=(b*1):=lin qa5 19 [a,b] []
theorem quD:a<b->¬ (b=a):=lin qa5 20 [a,b] []
theorem qnF:a<b->¬ (b<a):=lin qa5 21 [a,b] []
theorem qnG{a:Int}:(max (0:Int) (min (a+((b:Nat):Int)) ((b:Nat):Int)))=(((b-(Int.toNat (-a))):Nat):Int):=lin qa5 23 [b,(Int.toNat (-a)),(b-(Int.toNat (-a)))] [a,(min (a+((b:Nat):Int)) ((b:Nat):Int)),(max (0:Int) (min (a+((b:Nat):Int)) ((b:Nat):Int)))] (qkv (a+((b:Nat):Int)) ((b:Nat):Int)) (qkw (0:Int) (min (a+((b:Nat):Int)) ((b:Nat):Int))) (qbk (-a)) (qg b (Int.toNat (-a)))
noncomputable def tb15:List LR:=[
 ⟨[(zmn (.z 0) (.n v0) (.z 1)),(zmx (.d 0) (.z 1) (.z 2)),.or (.an (.zle (.z 0) (.d 0)) (.eq v1 c0)) (.an (.zle (.d 0) (.z 0)) (.zeq (.n v1) (.z 0))),(mn v1 v0 v2)],.zeq (.z 2) (.n v2),3,[282574757826560,299071474565136,282643477303296,299067162820625,282574757822720,299071457787920,282643477299456,299067162820625,282574757822464,299071457787904,282643477299200,4785074604146688,282574757826816,299071474565120,282643477303552,299067179597825,282574757826560,299071474565137,282574489387264,299067162820624,282643208864000,299071457787921,282574489387264,299067162820624,282643208868096,299071457787904,282574489391360,4785074604146688,282643208868096,299071474565120,282574489391360,4785074604146688]⟩,
 ⟨[.or (.an (.zle (.s (.a (.s (.n v0) (.n v1)) (.d 1)) (.d 1)) (.d 0)) (.eq v2 c0)) (.an (.zle (.d 0) (.s (.a (.s (.n v0) (.n v1)) (.d 1)) (.d 1))) (.zeq (.n v2) (.s (.a (.s (.n v0) (.n v1)) (.d 1)) (.d 1)))),(sb v0 v1 v3)],.eq v2 v3,4,[16843008,17825808,16843009,17829904,16843009,17829904,16843008,17825808]⟩,
 ⟨[.or (.an (.zle (.d 0) (.d 0)) (.eq v2 c0)) (.an (.zle (.d 0) (.d 0)) (.zeq (.n v2) (.d 0))),(sb v1 v0 v3),.no (.zlt (.n v0) (.n v1))],.eq v2 v3,4,[268501248,269484048,285278464,269488144,268501248,269484048,285278464,269488144]⟩,
 ⟨[.or (.an (.zle (.a (.n v0) (.m 1 (.n v1))) (.d 0)) (.eq v2 c0)) (.an (.zle (.d 0) (.a (.n v0) (.m 1 (.n v1)))) (.zeq (.n v2) (.a (.n v0) (.m 1 (.n v1)))))],.eq v2 (.a v0 v1),3,[4353,17829904,4352,4112]⟩,
 ⟨[(sb v0 v1 v2)],.le v2 v0,3,[16781328,1052688]⟩,
 ⟨[(mn v0 v1 v2)],.le v2 v1,3,[4113,4112]⟩,
 ⟨[],.eq (.a v0 (.a v1 c1)) (.a (.a v0 c1) v1),2,[1,1]⟩,
 ⟨[(sb v0 v1 v2),.eq v2 v3,.le v0 v3],.or (.an (.eq v1 c0) (.eq v0 v3)) (.eq v3 c0),4,[268439808,268501008,268439808,268501008,268439808,268501008,17825792,17825792,268439809,1099528404992,17891344,17891344,268439809,1099528470544,17825792,17825792]⟩,
 ⟨[(sb v0 c1 v1),(sb v1 v2 v3),(sb (.a c0 v0) c1 v4),(sb v4 v2 v5)],.eq v3 v5,6,[282574489387008,299067162820608,282574757826816,299135882297344,282574489387008,299067162820608,282574757826817,299135882297344,282574489391104,299140177264656,282574757822720,299071457787920,282574489391104,299140194041872,282574757822721,299071474565136,282574489387008,299067162820608,282574757826817,299135882297344,282574489387008,299067162820608,282574757826816,299135882297344,282574489391104,299140194041872,282574757822721,299071474565136,282574489391104,299140177264656,282574757822720,299071457787920]⟩,
 ⟨[.lt v0 (.a v1 c1),.no (.lt v0 v1)],.eq v0 v1,2,[272,257]⟩,
 ⟨[(sb v1 c1 v2),.le v0 v1,.no (.eq v0 v1)],.le v0 v2,3,[1114369,69632,1114368,69632]⟩,
 ⟨[(sb v0 c1 v1),.le c1 v0],.lt v1 v0,2,[69648,65552]⟩,
 ⟨[.le (.a v0 c1) v1],.le v0 v1,2,[17]⟩,
 ⟨[.le v0 (.a (.a v1 c1) v2)],.le v0 (.a v1 (.a v2 c1)),3,[17]⟩,
 ⟨[.eq v0 (.a (.a v1 c1) v2)],.eq v0 (.a v1 (.a v2 c1)),3,[272,257]⟩,
 ⟨[.le (.a v0 (.a v1 c1)) v2],.lt v0 v2,3,[4113]⟩,
 ⟨[.le v0 v1,.lt v1 v2],.lt v0 v2,3,[273]⟩,
 ⟨[.le (.a v0 (.a v1 c1)) v2,.eq v3 v2],.le (.a (.a v0 c1) v1) v3,4,[4353]⟩,
 ⟨[(sb (.a v2 v0) c1 v4),(sb v4 v3 v5),.le v2 v3,.lt v3 v0],.lt v5 v0,6,[4563472640,35188935557136,8875278337,4311810064]⟩,
 ⟨[(sb (.a v3 v1) c1 v4),(sb v4 v0 v5),.lt v0 v1],.le v3 v5,6,[286265601,286261505,286265600,286261504]⟩,
 ⟨[],.no (.an (.le v2 v0) (.lt v0 v0)),3,[16]⟩,
 ⟨[],.le (.a c0 c1) (.a v0 c1),1,[17]⟩,
 ⟨[(sb (.a v0 c1) (.a c0 c1) v1),(sb (.a v0 c1) c1 v3),.le v1 v2,.lt v2 (.a v0 c1)],.eq v2 v3,4,[4311810304,4564451329,4311810305,4564451328,4311810305,4564455424,4311810304,4564451328]⟩,
 ⟨[.le (.a v0 (.a v1 c1)) v2],.le (.a (.a v0 c1) v1) v2,3,[17]⟩]
theorem qaU:tb15.all LR.ok=true:=by decide +kernel
theorem qnH{a:Int}:(max (0:Int) (min a ((b:Nat):Int)))=(((min (Int.toNat a) b):Nat):Int):=lin qaU 0 [b,(Int.toNat a),(min (Int.toNat a) b)] [a,(min a ((b:Nat):Int)),(max (0:Int) (min a ((b:Nat):Int)))] (qkv a ((b:Nat):Int)) (qkw (0:Int) (min a ((b:Nat):Int))) (qbk a) (qac (Int.toNat a) b)
theorem quE:(Int.toNat (((((a:Nat):Int)-((b:Nat):Int))+(1:Int))-(1:Int)))=(a-b):=lin qaU 1 [a,b,(Int.toNat (((((a:Nat):Int)-((b:Nat):Int))+(1:Int))-(1:Int))),(a-b)] [] (qbk (((((a:Nat):Int)-((b:Nat):Int))+(1:Int))-(1:Int))) (qg a b)
theorem quF:(¬ (((a:Nat):Int)<((b:Nat):Int)))->(Int.toNat (0:Int))=(b-a):=lin qaU 2 [a,b,(Int.toNat (0:Int)),(b-a)] [] (qbk (0:Int)) (qg b a)
theorem quG:(Int.toNat (((a:Nat):Int)+((1:Int)*((b:Nat):Int))))=(a+b):=lin qaU 3 [a,b,(Int.toNat (((a:Nat):Int)+((1:Int)*((b:Nat):Int))))] [] (qbk (((a:Nat):Int)+((1:Int)*((b:Nat):Int))))
theorem quH{b:Int}:(a-(Int.toNat (-b)))<=a:=lin qaU 4 [a,(Int.toNat (-b)),(a-(Int.toNat (-b)))] [b] (qg a (Int.toNat (-b)))
theorem quI{a:Int}:(min (Int.toNat a) b)<=b:=lin qaU 5 [(Int.toNat a),b,(min (Int.toNat a) b)] [a] (qac (Int.toNat a) b)
theorem quJ:(a+(Nat.succ b))=((a+1)+b):=lin qaU 6 [a,b] []
theorem quK:(a-b)=c->a<=c->((b=0/\a=c)\/c=0):=lin qaU 7 [a,b,(a-b),c] [] (qg a b)
theorem quL:((a-1)-b)=(((0+a)-1)-b):=lin qaU 8 [a,(a-1),b,((a-1)-b),((0+a)-1),(((0+a)-1)-b)] [] (qg a 1) (qg (a-1) b) (qg (0+a) 1) (qg ((0+a)-1) b)
theorem qhe:a<(b+1)->(¬ (a<b))->a=b:=lin qaU 9 [a,b] []
theorem qjs:a<=b->(¬ (a=b))->a<=(b-1):=lin qaU 10 [a,b,(b-1)] [] (qg b 1)
theorem qjt:1<=a->(a-1)<a:=lin qaU 11 [a,(a-1)] [] (qg a 1)
theorem qhf:(a+1)<=b->a<=b:=lin qaU 12 [a,b] []
theorem qhg:a<=((b+1)+c)->a<=(b+(c+1)):=lin qaU 13 [a,b,c] []
theorem quM:a=((b+1)+c)->a=(b+(c+1)):=lin qaU 14 [a,b,c] []
theorem qju:(a+(b+1))<=c->a<c:=lin qaU 15 [a,b,c] []
theorem qhh:a<=b->b<c->a<c:=lin qaU 16 [a,b,c] []
theorem quN:(a+(b+1))<=c->d=c->((a+1)+b)<=d:=lin qaU 17 [a,b,c,d] []
theorem qhi:(a-(b+1))<=c->c<a->((((a-(b+1))+a)-1)-c)<a:=lin qaU 18 [a,b,(a-(b+1)),c,(((a-(b+1))+a)-1),((((a-(b+1))+a)-1)-c)] [] (qg ((a-(b+1))+a) 1) (qg (((a-(b+1))+a)-1) c)
theorem qnI:a<b->(b-(c+1))<=((((b-(c+1))+b)-1)-a):=lin qaU 19 [a,b,c,(b-(c+1)),(((b-(c+1))+b)-1),((((b-(c+1))+b)-1)-a)] [] (qg ((b-(c+1))+b) 1) (qg (((b-(c+1))+b)-1) a)
theorem quO:¬ (((a-(b+1))<=a/\a<a)):=lin qaU 20 [a,b,(a-(b+1))] []
theorem qjv:(0+1)<=(a+1):=lin qaU 21 [a] []
theorem qjw:((a+1)-(0+1))<=b->b<(a+1)->b=((a+1)-1):=lin qaU 22 [a,((a+1)-(0+1)),b,((a+1)-1)] [] (qg (a+1) (0+1)) (qg (a+1) 1)
theorem qjx:(a+(b+1))<=c->((a+1)+b)<=c:=lin qaU 23 [a,b,c] []
noncomputable def tb16:List LR:=[
 ⟨[],.le v0 (.a v0 (.a v1 c1)),2,[17]⟩,
 ⟨[.le (.a v0 c1) v1],.le (.a (.a v0 c1) c1) (.a v1 c1),2,[17]⟩,
 ⟨[(sb (.a v0 c1) c1 v1)],.eq v1 v0,2,[4353,1052688,4352,4112]⟩,
 ⟨[(sb (.a v0 c1) (.a (.a v1 c1) c1) v2),(sb v0 (.a v1 c1) v4),.le v2 v3],.le v4 v3,5,[285278464,285278465,285278465,285278464]⟩,
 ⟨[.lt v0 (.a v1 c1),.no (.eq v0 v1)],.lt v0 v1,2,[272,17]⟩,
 ⟨[.eq v0 (.c 64)],.le c2 v0,1,[272]⟩,
 ⟨[.eq v0 (.c 64)],.le v0 (.c 1000),1,[257]⟩,
 ⟨[.an (.eq (.a (.m 8 v2) v3) v1) (.lt v3 (.c 8)),.eq v0 (.c 8)],.lt v3 v0,4,[1114368]⟩,
 ⟨[.eq v0 (.c 64),.lt v1 (.c 64)],.lt v1 v0,2,[4368]⟩,
 ⟨[(mx v0 v0 v2),.eq v0 (.c 64),.lt v1 (.c 64)],.lt v1 v2,3,[17891584,17891584]⟩,
 ⟨[.no (.lt v0 (.c 64))],.le (.c 64) v0,1,[17]⟩,
 ⟨[.eq v0 (.c 64),.eq v1 (.c 64)],.eq v1 v0,2,[69633,65808]⟩,
 ⟨[(sb v3 v1 v4),(sb v3 v0 v5),.le v0 v1],.le v4 v5,6,[269484048,269488144,286265360,286261264]⟩,
 ⟨[(sb v1 c1 v2),(sb v2 v3 v4),.lt v0 v1],.lt v4 v1,5,[281475261988864,281543981465616,268500993,68987977744]⟩,
 ⟨[.le c1 v0,.le v0 v1],.le c1 v1,2,[273]⟩,
 ⟨[(sb v1 v0 v3),.le v0 v1,.le v2 (.a v0 v3)],.le v2 v1,4,[1118224,1114128]⟩,
 ⟨[(sb v1 (.a v0 c1) v3),.le (.a v0 c1) v1,.le v1 v2],.le (.a (.a v0 c1) v3) v2,4,[1118224,1114128]⟩,
 ⟨[.le (.a v0 c1) v1],.le c1 v1,2,[4113]⟩,
 ⟨[(sb v1 (.a v0 c1) v3),.le (.a v0 c1) v1,.le v2 (.a (.a v0 c1) v3)],.le v2 v1,4,[1118224,1114128]⟩,
 ⟨[.le v0 v1,.eq v2 v1],.le v0 v2,3,[4353]⟩,
 ⟨[(sb v1 (.a v0 c1) v4),.le (.a v0 c1) v1,.le v1 v2,.le v3 (.a (.a v0 c1) v4),.eq v5 v2],.le v3 v5,6,[4564520976,4564516880]⟩,
 ⟨[.le v0 v1,.lt v1 c1],.eq v0 v1,2,[65808,257]⟩,
 ⟨[(sb v0 c1 v2),.le c1 v0,.no (.eq v1 v0)],.no (.eq v1 (.a c1 v2)),3,[16843009,1118224,16843008,1114128]⟩,
 ⟨[(sb v0 c1 v2),.le c1 v0,.le v1 (.a c1 v2)],.le v1 v0,3,[1118224,1114128]⟩]
theorem qaV:tb16.all LR.ok=true:=by decide +kernel
theorem quP:a<=(a+(b+1)):=lin qaV 0 [a,b] []
theorem quQ:(a+1)<=b->((a+1)+1)<=(b+1):=lin qaV 1 [a,b] []
theorem quR:((a+1)-1)=a:=lin qaV 2 [a,((a+1)-1)] [] (qg (a+1) 1)
theorem quS:((a+1)-((b+1)+1))<=c->(a-(b+1))<=c:=lin qaV 3 [a,b,((a+1)-((b+1)+1)),c,(a-(b+1))] [] (qg (a+1) ((b+1)+1)) (qg a (b+1))
theorem quT:a<(b+1)->(¬ (a=b))->a<b:=lin qaV 4 [a,b] []
theorem quU:a=64->2<=a:=lin qaV 5 [a] []
theorem quV:a=64->a<=1000:=lin qaV 6 [a] []
theorem quW:a=8->(b%8)<a:=lin qaV 7 [a,b,(b/8),(b%8)] [] (qeH b 8 (by decide))
theorem quX:a=64->b<64->b<a:=lin qaV 8 [a,b] []
theorem quY:a=64->b<64->b<(min a a):=lin qaV 9 [a,b,(min a a)] [] (qac a a)
theorem qnJ:(¬ (a<64))->64<=a:=lin qaV 10 [a] []
theorem quZ:a=64->b=64->b=a:=lin qaV 11 [a,b] []
theorem qu0:a<=b->((c-1)-b)<=((c-1)-a):=lin qaV 12 [a,b,c,(c-1),((c-1)-b),((c-1)-a)] [] (qg (c-1) b) (qg (c-1) a)
theorem qnK:a<b->((b-1)-c)<b:=lin qaV 13 [a,b,(b-1),c,((b-1)-c)] [] (qg b 1) (qg (b-1) c)
theorem qu1:1<=a->a<=b->1<=b:=lin qaV 14 [a,b] []
theorem qu2:a<=b->c<=(a+(b-a))->c<=b:=lin qaV 15 [a,b,c,(b-a)] [] (qg b a)
theorem qu3:(a+1)<=b->b<=c->((a+1)+(b-(a+1)))<=c:=lin qaV 16 [a,b,c,(b-(a+1))] [] (qg b (a+1))
theorem qnL:(a+1)<=b->1<=b:=lin qaV 17 [a,b] []
theorem qnM:(a+1)<=b->c<=((a+1)+(b-(a+1)))->c<=b:=lin qaV 18 [a,b,c,(b-(a+1))] [] (qg b (a+1))
theorem qnN:a<=b->c=b->a<=c:=lin qaV 19 [a,b,c] []
theorem qu4:(a+1)<=b->b<=c->d<=((a+1)+(b-(a+1)))->e=c->d<=e:=lin qaV 20 [a,b,c,d,(b-(a+1)),e] [] (qg b (a+1))
theorem qu5:a<=b->b<1->a=b:=lin qaV 21 [a,b] []
theorem qu6:1<=a->(¬ (b=a))->¬ (b=(1+(a-1))):=lin qaV 22 [a,b,(a-1)] [] (qg a 1)
theorem qu7:1<=a->b<=(1+(a-1))->b<=a:=lin qaV 23 [a,b,(a-1)] [] (qg a 1)
noncomputable def tb17:List LR:=[
 ⟨[(sb v1 c1 v2),.lt v0 v1],.le v0 v2,3,[69889,69888]⟩,
 ⟨[(sb v0 c1 v1),.lt c1 v0],.lt v1 v0,2,[4097,65552]⟩,
 ⟨[(sb v0 c1 v3),.le c1 v0,.le v0 v1,.le v2 (.a c1 v3)],.le v2 v1,4,[17895440,17891344]⟩,
 ⟨[.le v0 v1,.no (.lt v0 v1)],.eq v0 v1,2,[272,257]⟩,
 ⟨[(sb v0 c1 v2),.le c1 v0,.le v1 (.a c1 v2),.no (.eq v1 v0)],.le (.a v1 c1) v0,3,[17825792,1118224,17825792,1114128]⟩,
 ⟨[.le c1 v0,.no (.lt c1 v0)],.eq v0 c1,1,[257,272]⟩,
 ⟨[.le c1 v0,.no (.eq c1 v0)],.le (.a c1 c1) v0,1,[272,17]⟩,
 ⟨[.le v0 v1,.lt v1 (.a c1 c1),.no (.eq v0 v1)],.eq v0 c0,2,[1052672,4368,257,257]⟩,
 ⟨[.lt v0 (.a c1 c1),.no (.eq v1 v0),.eq v1 c0],.eq v0 c1,2,[69648,65537,16777488,65537]⟩,
 ⟨[(sb v0 v1 v2),.le v2 c0,.le v1 v3],.le v0 v3,4,[1114113,1118464]⟩,
 ⟨[.le v0 v1,.le v1 v2],.le v0 v2,3,[273]⟩,
 ⟨[.an (.le (.m 2 v2) (.a v1 v0)) (.lt (.a v1 v0) (.a (.m 2 v2) c2)),.no (.le v0 v1)],.le v1 v2,3,[8464]⟩,
 ⟨[.an (.le (.m 2 v3) (.a v2 v0)) (.lt (.a v2 v0) (.a (.m 2 v3) c2)),.le v0 v1,.no (.le v0 v2)],.le v3 v1,4,[135681]⟩,
 ⟨[(sb v0 v1 v2),.an (.le (.m 2 v4) (.a v1 v0)) (.lt (.a v1 v0) (.a (.m 2 v4) c2)),(sb v4 v1 v5),.le v2 (.a v3 c1)],.le v5 v3,6,[281543712964608,563087425933313,281543712964608,281616744190208]⟩,
 ⟨[.an (.le (.m 2 v2) (.a v1 v0)) (.lt (.a v1 v0) (.a (.m 2 v2) c2)),.no (.le v0 v1)],.le (.a v2 c1) v0,3,[8449]⟩,
 ⟨[(sb v0 v1 v2),.an (.le (.m 2 v4) (.a v1 v0)) (.lt (.a v1 v0) (.a (.m 2 v4) c2)),(sb v0 (.a v4 c1) v5),.le v2 (.a v3 c1)],.le v5 v3,6,[281543712964608,2162689,281543712964608,73032335616]⟩,
 ⟨[.lt v0 (.a v3 c1)],.le v0 v3,4,[17]⟩,
 ⟨[.an (.le (.m 2 v3) (.a v2 v0)) (.lt (.a v2 v0) (.a (.m 2 v3) c2)),.le v0 v1,.no (.le v0 v2)],.lt v3 v1,4,[135681]⟩,
 ⟨[(sb v0 c0 v1)],.le v1 v0,2,[1052688,4112]⟩,
 ⟨[.lt v0 c0],.ff,1,[17]⟩,
 ⟨[.le v0 v1,.lt v1 v0],.ff,2,[17]⟩,
 ⟨[(sb v0 v1 v2)],.le v2 v0,3,[16781328,1052688]⟩,
 ⟨[(sb v1 v0 v2),(sb v1 v2 v3),.le v0 v1],.eq v3 v0,4,[286265360,1099780128769,286261264,268501249,269488144,17592454545408,269484048,268501248]⟩,
 ⟨[.le v0 v1,.eq v1 v2,.no (.eq v0 v2)],.lt v0 v2,3,[69632,4113]⟩]
theorem qaW:tb17.all LR.ok=true:=by decide +kernel
theorem qu8:a<b->a<=(b-1):=lin qaW 0 [a,b,(b-1)] [] (qg b 1)
theorem qu9:a>1->(a-1)<a:=lin qaW 1 [a,(a-1)] [] (qg a 1)
theorem qnO:1<=a->a<=b->c<=(1+(a-1))->c<=b:=lin qaW 2 [a,b,c,(a-1)] [] (qg a 1)
theorem qnP:a<=b->(¬ (a<b))->a=b:=lin qaW 3 [a,b] []
theorem qva:1<=a->b<=(1+(a-1))->(¬ (b=a))->(b+1)<=a:=lin qaW 4 [a,b,(a-1)] [] (qg a 1)
theorem qvb:1<=a->(¬ (a>1))->a=1:=lin qaW 5 [a] []
theorem qvc:1<=a->(¬ (1=a))->(1+1)<=a:=lin qaW 6 [a] []
theorem qvd:a<=b->b<(1+1)->(¬ (a=b))->a=0:=lin qaW 7 [a,b] []
theorem qve:a<(1+1)->(¬ (b=a))->b=0->a=1:=lin qaW 8 [a,b] []
theorem qvf:(a-b)<=0->b<=c->a<=c:=lin qaW 9 [a,b,(a-b),c] [] (qg a b)
theorem qvg:a≥b->a<=c->b<=c:=lin qaW 10 [b,a,c] []
theorem qnQ:(¬ (a≥b))->a<=((a+b)/2):=lin qaW 11 [b,a,((a+b)/2)] [] (qbd (a+b) 2 (by decide))
theorem qnR:a<=b->(¬ (c≥a))->((c+a)/2)<=b:=lin qaW 12 [a,b,c,((c+a)/2)] [] (qbd (c+a) 2 (by decide))
theorem qvh:(a-b)<=(c+1)->(((b+a)/2)-b)<=c:=lin qaW 13 [a,b,(a-b),c,((b+a)/2),(((b+a)/2)-b)] [] (qg a b) (qbd (b+a) 2 (by decide)) (qg ((b+a)/2) b)
theorem qnS:(¬ (a≥b))->(((a+b)/2)+1)<=b:=lin qaW 14 [b,a,((a+b)/2)] [] (qbd (a+b) 2 (by decide))
theorem qvi:(a-b)<=(c+1)->(a-(((b+a)/2)+1))<=c:=lin qaW 15 [a,b,(a-b),c,((b+a)/2),(a-(((b+a)/2)+1))] [] (qg a b) (qbd (b+a) 2 (by decide)) (qg a (((b+a)/2)+1))
theorem qvj:a<(((b+c)/2)+1)->a<=((b+c)/2):=lin qaW 16 [a,b,c,((b+c)/2)] []
theorem qvk:a<=b->(¬ (c≥a))->((c+a)/2)<b:=lin qaW 17 [a,b,c,((c+a)/2)] [] (qbd (c+a) 2 (by decide))
theorem qvl:(a-0)<=a:=lin qaW 18 [a,(a-0)] [] (qg a 0)
theorem qvm:a<0->False:=lin qaW 19 [a] []
theorem qvn:a<=b->b<a->False:=lin qaW 20 [a,b] []
theorem qnT:(a-b)<=a:=lin qaW 21 [a,b,(a-b)] [] (qg a b)
theorem qvo:a<=b->(b-(b-a))=a:=lin qaW 22 [a,b,(b-a),(b-(b-a))] [] (qg b a) (qg b (b-a))
theorem qvp:a<=b->b=c->(¬ (a=c))->a<c:=lin qaW 23 [a,b,c] []
noncomputable def tb18:List LR:=[
 ⟨[(sb v0 c1 v2),(sb v1 c1 v3),.le v0 v1],.le v2 v3,4,[269484048,269488144,286265360,286261264]⟩,
 ⟨[],.eq (.a v0 (.a v1 c1)) (.a (.a v0 c1) v1),2,[1,1]⟩,
 ⟨[(mx v0 c1 v1),.le c1 v0],.eq v1 v0,2,[65793,69648,65792,65552]⟩,
 ⟨[(sb v1 v2 v3),.eq v0 v1,.lt v2 v1],.le (.a v2 v3) v0,4,[1048577,16842768]⟩,
 ⟨[(sb v1 v0 v2),.lt v0 v1],.eq v1 (.a v0 v2),3,[4097,4097,65552,65792]⟩,
 ⟨[(sb (.a v0 v2) v0 v3)],.eq v3 v2,4,[4353,1052688,4352,4112]⟩,
 ⟨[.le v0 (.c 1000),.le (.c 1000) v1],.le v0 v1,2,[273]⟩,
 ⟨[.le c2 v0],.no (.lt v0 c2),1,[17]⟩,
 ⟨[.le v0 (.c 1000),.le (.c 1000) v1],.le v0 (.a v1 c1),2,[273]⟩,
 ⟨[.no (.eq v0 v1),.le v2 v1,.le v1 v0],.no (.eq v0 v2),3,[257,4113]⟩,
 ⟨[.no (.eq v0 v1),.le v0 v1,.le v1 v0],.ff,2,[257,17]⟩,
 ⟨[.lt v0 c2,.le (.c 1000) v1],.le v0 v1,2,[273]⟩,
 ⟨[.lt v0 c2],.lt v0 c2,1,[17]⟩,
 ⟨[.lt v0 c2],.le v0 (.a v1 c1),2,[273]⟩,
 ⟨[.zeq (.n v0) (.n v1)],.eq v0 v1,2,[272,257]⟩,
 ⟨[.lt v0 c2,.eq v0 (.a (.a v1 c1) c1)],.ff,2,[4353]⟩,
 ⟨[.no (.lt v0 c2)],.lt c0 v0,1,[17]⟩,
 ⟨[.no (.lt v0 c2)],.le c1 v0,1,[17]⟩,
 ⟨[.no (.lt v0 c2)],.le c2 v0,1,[17]⟩,
 ⟨[.lt v0 (.c 64)],.le v0 (.c 1000),1,[17]⟩,
 ⟨[.no (.lt v0 c2),.eq v1 v0],.lt c0 v1,2,[4353]⟩,
 ⟨[.lt v0 (.c 64)],.lt v0 (.c 64),1,[17]⟩,
 ⟨[.lt v0 v1,.eq v1 v2],.lt v0 v2,3,[4113]⟩,
 ⟨[.lt v0 v1,.lt v1 v2],.lt v0 v2,3,[273]⟩]
theorem qa6:tb18.all LR.ok=true:=by decide +kernel
theorem qvq:(a+(b+1))=((a+1)+b):=lin qa6 1 [a,b] []
theorem qnU:1<=a->(max a 1)=a:=lin qa6 2 [a,(max a 1)] [] (qc9 a 1)
theorem qvr:a=b->c<b->(c+(b-c))<=a:=lin qa6 3 [a,b,c,(b-c)] [] (qg b c)
theorem qvs:a<b->b=(a+(b-a)):=lin qa6 4 [a,b,(b-a)] [] (qg b a)
theorem qvt:((a+(b-a))-a)=(b-a):=lin qa6 5 [a,b,(b-a),((a+(b-a))-a)] [] (qg (a+(b-a)) a)
theorem qhj:a<=1000->1000<=b->a<=b:=lin qa6 6 [a,b] []
theorem qvu:2<=a->¬ (a<2):=lin qa6 7 [a] []
theorem qvv:a<=1000->1000<=b->a<=(b+1):=lin qa6 8 [a,b] []
theorem qvw:(¬ (a=b))->c<=b->b<=a->¬ (a=c):=lin qa6 9 [a,b,c] []
theorem qvx:(¬ (a=b))->a<=b->b<=a->False:=lin qa6 10 [a,b] []
theorem qhk:a<2->1000<=b->a<=b:=lin qa6 11 [a,b] []
theorem qvy:a<2->a<2:=lin qa6 12 [a] []
theorem qvz:a<2->a<=(b+1):=lin qa6 13 [a,b] []
theorem qvA:((a:Nat):Int)=((b:Nat):Int)->a=b:=lin qa6 14 [a,b] []
theorem qvB:a<2->a=((b+1)+1)->False:=lin qa6 15 [a,b] []
theorem qvC:(¬ (a<2))->0<a:=lin qa6 16 [a] []
theorem qvD:(¬ (a<2))->1<=a:=lin qa6 17 [a] []
theorem qnV:(¬ (a<2))->2<=a:=lin qa6 18 [a] []
theorem qvE:a<64->a<=1000:=lin qa6 19 [a] []
theorem qvF:(¬ (a<2))->b=a->0<b:=lin qa6 20 [a,b] []
theorem qvG:a<64->a<64:=lin qa6 21 [a] []
theorem qvH:a<b->b=c->a<c:=lin qa6 22 [a,b,c] []
theorem qnW:a<b->b<c->a<c:=lin qa6 23 [a,b,c] []
noncomputable def tb19:List LR:=[
 ⟨[],.le c1 (.c 8),0,[1]⟩,
 ⟨[(mx c1 v0 v1),.le (.c 9) v0,.le v1 (.c 8)],.ff,2,[69888,4097]⟩,
 ⟨[.le v0 (.c 8)],.lt v0 (.c 9),1,[17]⟩,
 ⟨[(sb (.a v1 v0) c1 v2),(sb v0 c1 v3),.le c1 v0],.eq v2 (.a v1 v3),4,[285278465,1099781111824,268501249,1099781115920,285278464,269488144,268501248,269484048]⟩,
 ⟨[(sb v0 c1 v1),.le v0 (.c 8)],.lt v1 (.c 9),2,[65552,69648]⟩,
 ⟨[.le v0 (.c 8),.no (.eq v0 (.c 8))],.lt v0 (.c 8),1,[272,17]⟩,
 ⟨[(sb v0 c1 v1),.le v0 (.c 8)],.lt v1 (.c 8),2,[65552,69648]⟩,
 ⟨[.le v0 (.c 8),.no (.eq v0 (.c 8))],.le (.a v0 c1) (.c 8),1,[272,17]⟩,
 ⟨[.le (.c 9) v0],.no (.eq (.c 8) v0),1,[257]⟩,
 ⟨[],.lt c0 (.c 9),0,[1]⟩,
 ⟨[],.lt (.c 7) (.c 9),0,[1]⟩,
 ⟨[(mx v0 c1 v2),(mx v2 v1 v3),.le c1 v0,.le v0 v1],.eq v3 v1,4,[4296015872,4295032832,4296019968,4580245520,4296015872,4295032832,4296019968,4563468304]⟩,
 ⟨[.le (.a v0 v1) v2,.lt v3 v1,.eq v4 v2],.lt (.a v0 v3) v4,5,[69649]⟩,
 ⟨[],.le c0 v0,1,[17]⟩,
 ⟨[],.le v1 v1,2,[1]⟩,
 ⟨[(mx c0 v0 v1),(sb v0 v1 v2)],.eq v2 c0,3,[17825792,16842752,17825808,16843008,17825792,16842752,17829888,16843009]⟩,
 ⟨[.an (.le (.m 2 v5) (.a v4 v3)) (.lt (.a v4 v3) (.a (.m 2 v5) c2)),.lt (.a v0 v1) v2,.le v3 v1,.no (.le v3 v4)],.lt (.a v0 v5) v2,6,[2171393]⟩,
 ⟨[(sb v0 v1 v2),(sb v3 v4 v5),.an (.le (.m 2 v6) (.a v1 v0)) (.lt (.a v1 v0) (.a (.m 2 v6) c2)),(sb v6 v1 v7),(sb v3 (.a v4 c1) v8),.le v2 v5],.le v7 v8,9,[0x1010001000000000,17592186048512,0x2020002001000001,17592186048512,0x1010001000000000,0x1010101000000000,0x2020002001000001,0x2020202001000001,0x1010001000000000,17592186048512,0x2120002001010100,17592186048512,0x1010001000000000,0x1010101000000000,0x2120102001010100,0x2120102001010100]⟩,
 ⟨[(sb v0 v1 v2),(sb v0 (.a v1 c1) v4),.eq v2 (.a v3 c1)],.eq v4 v3,5,[4564451344,1099780063248,4097,4097,4564455440,1103806660608,4564451344,4311810304]⟩,
 ⟨[(sb v0 v1 v2),(sb v3 v4 v5),.an (.le (.m 2 v6) (.a v1 v0)) (.lt (.a v1 v0) (.a (.m 2 v6) c2)),(sb v0 (.a v6 c1) v7),(sb v3 (.a v4 c1) v8),.le v2 v5],.le v7 v8,9,[0x1010001000000000,17592186048512,8858370049,8858370049,0x1010001000000000,0x1010101000000000,8858370049,8858370049,0x1010001000000000,17592186048512,72057602896363776,17592186048512,0x1010001000000000,0x1010101000000000,0x2120102010010100,0x2120102010010100]⟩,
 ⟨[(sb (.a v0 v1) (.a v0 v2) v3)],.le v3 (.a v0 v1),4,[285216784,269488144]⟩,
 ⟨[(sb v1 v0 v2),(sb v1 (.a v0 c1) v3),.lt v0 v1],.eq v2 (.a v3 c1),4,[16777217,16777217,4097,4097,285278464,269488144,268501248,269484048]⟩,
 ⟨[],.lt c0 c1,0,[1]⟩,
 ⟨[],.le (.a c0 c1) c1,0,[1]⟩]
theorem qaX:tb19.all LR.ok=true:=by decide +kernel
theorem qvI :1<=8:=lin qaX 0 [] []
theorem qvJ:9<=a->(max 1 a)<=8->False:=lin qaX 1 [a,(max 1 a)] [] (qc9 1 a)
theorem qvK:a<=8->a<9:=lin qaX 2 [a] []
theorem qvL:1<=a->((b+a)-1)=(b+(a-1)):=lin qaX 3 [a,b,((b+a)-1),(a-1)] [] (qg (b+a) 1) (qg a 1)
theorem qvM:a<=8->(a-1)<9:=lin qaX 4 [a,(a-1)] [] (qg a 1)
theorem qvN:a<=8->(¬ (a=8))->a<8:=lin qaX 5 [a] []
theorem qvO:a<=8->(a-1)<8:=lin qaX 6 [a,(a-1)] [] (qg a 1)
theorem qvP:a<=8->(¬ (a=8))->(a+1)<=8:=lin qaX 7 [a] []
theorem qvQ:9<=a->¬ (8=a):=lin qaX 8 [a] []
theorem qvR :0<9:=lin qaX 9 [] []
theorem qvS :7<9:=lin qaX 10 [] []
theorem qvT:1<=a->a<=b->(max (max a 1) b)=b:=lin qaX 11 [a,b,(max a 1),(max (max a 1) b)] [] (qc9 a 1) (qc9 (max a 1) b)
theorem qvU:(a+b)<=c->d<b->e=c->(a+d)<e:=lin qaX 12 [a,b,c,d,e] []
theorem qnX:0<=a:=lin qaX 13 [a] []
theorem qvV:(a-0)<=(a-0):=lin qaX 14 [a,(a-0)] []
theorem qvW:(a-(max 0 a))=0:=lin qaX 15 [a,(max 0 a),(a-(max 0 a))] [] (qc9 0 a) (qg a (max 0 a))
theorem qvX:(a+b)<c->d<=b->(¬ (e≥d))->(a+((e+d)/2))<c:=lin qaX 16 [a,b,c,d,e,((e+d)/2)] [] (qbd (e+d) 2 (by decide))
theorem qvY:(a-b)<=(c-d)->(((b+a)/2)-b)<=(c-(d+1)):=lin qaX 17 [a,b,(a-b),c,d,(c-d),((b+a)/2),(((b+a)/2)-b),(c-(d+1))] [] (qg a b) (qg c d) (qbd (b+a) 2 (by decide)) (qg ((b+a)/2) b) (qg c (d+1))
theorem qnY:(a-b)=(c+1)->(a-(b+1))=c:=lin qaX 18 [a,b,(a-b),c,(a-(b+1))] [] (qg a b) (qg a (b+1))
theorem qvZ:(a-b)<=(c-d)->(a-(((b+a)/2)+1))<=(c-(d+1)):=lin qaX 19 [a,b,(a-b),c,d,(c-d),((b+a)/2),(a-(((b+a)/2)+1)),(c-(d+1))] [] (qg a b) (qg c d) (qbd (b+a) 2 (by decide)) (qg a (((b+a)/2)+1)) (qg c (d+1))
theorem qv0:((a+b)-(a+c))<=(a+b):=lin qaX 20 [a,b,c,((a+b)-(a+c))] [] (qg (a+b) (a+c))
theorem qv1:a<b->(b-a)=((b-(a+1))+1):=lin qaX 21 [a,b,(b-a),(b-(a+1))] [] (qg b a) (qg b (a+1))
theorem qnZ :0<1:=lin qaX 22 [] []
theorem qn0 :(0+1)<=1:=lin qaX 23 [] []
noncomputable def tb20:List LR:=[
 ⟨[.lt v0 v1],.lt (.a v0 c0) v1,2,[17]⟩,
 ⟨[(mx c0 v0 v1),(sb v0 v3 v4),.le (.a v1 c1) v2],.le v4 v2,5,[285278465,69004755200,285278464,69004755201]⟩,
 ⟨[(sb v0 v1 v2),.no (.le v2 v3)],.lt (.a v1 v3) v0,4,[1052688,69648]⟩,
 ⟨[],.lt v0 (.a (.m 2 v0) c1),1,[17]⟩,
 ⟨[.le (.a v0 c1) v1],.le (.a (.a v0 c1) c1) (.a (.m 2 v1) c1),2,[273]⟩,
 ⟨[.no (.lt (.a v0 v1) v2)],.le v2 (.a v0 v1),3,[17]⟩,
 ⟨[.lt (.a v0 v1) v2],.le (.a (.a v0 v1) c1) v2,3,[17]⟩,
 ⟨[(sb v1 v2 v3),(mn v4 v3 v5),.le v0 v1,.or (.le v3 v4) (.le v0 (.a v2 v4))],.le v0 (.a v2 v5),6,[4581228801,4564451328,4312793345,4312793345,4581228800,4564451328,4312793344,4312793344]⟩,
 ⟨[(sb v2 v0 v3),(mn v1 v3 v4),(sb (.a v0 v4) (.a (.a v0 v5) c1) v6),(sb v2 c0 v7)],.le v6 v7,8,[299067431190528,299136150667264,0x1001100010011010,0x1001101010011010,299067431190528,299136150667264,0x1001100010010010,0x1001101010010010,299067431190528,299136150667264,0x100001001101010011010,0x100001001100010011010,299067431190528,299136150667264,0x100001001101010010010,0x100001001100010010010]⟩,
 ⟨[(sb v1 v0 v3),(mn v2 v3 v4),.lt v0 v1],.le (.a v0 v4) v1,5,[16777217,16777217,268505104,268501008]⟩,
 ⟨[(sb v2 v0 v3),(mx c0 v4 v5),(sb v4 v5 v6),.le v0 v1,.le v1 v2,.le v3 v6],.eq v2 v1,7,[282574488338432,281543696187393,282574488338432,281543696187393,282574488338432,281543696187393,282574488338432,281543696187393,282574488338432,299136150667520,282574488338432,299136151716096,282574488338432,299136150667520,282574488338432,299136151720192]⟩,
 ⟨[.le v0 v1,.le v1 v2,.le v2 v0],.eq v2 v1,3,[4112,4353]⟩,
 ⟨[(sb v0 v2 v3),.an (.le (.m 2 v4) v3) (.lt v3 (.a (.m 2 v4) c2)),.le v0 v1,.no (.le v0 v2)],.lt (.a v2 v4) v1,5,[16777217,555749392]⟩,
 ⟨[.lt (.a v0 v3) v4],.le (.a (.a v0 v3) c1) v4,5,[17]⟩,
 ⟨[(sb v0 v1 v2),(sb v3 v4 v5),(sb v0 (.a (.a v1 v6) c1) v7),(sb v3 (.a v4 c1) v8),.le v2 v5],.le v7 v8,9,[4521192081850368,68719480832,0x10000000001000001,68719480832,4521192081850368,4521260801327104,0x10000000001000001,0x10000000001000001,4521192081850368,68719480832,0x10011100010010100,68719480832,4521192081850368,4521260801327104,0x10011101010010100,0x10011100010010100]⟩,
 ⟨[.no (.lt (.a v0 v3) v4)],.le v4 (.a v0 v3),5,[17]⟩,
 ⟨[(sb v3 v4 v5),.an (.le (.m 2 v6) v2) (.lt v2 (.a (.m 2 v6) c2)),(sb (.a v1 v6) v1 v7),(sb v3 (.a v4 c1) v8),.le v2 v5],.le v7 v8,9,[282574505115648,4294967297,582741196279824,4294967297,282574505115648,282578800082944,582745491247120,582745491247120]⟩,
 ⟨[(sb v3 v2 v4),.an (.le (.m 2 v5) v4) (.lt v4 (.a (.m 2 v5) c2)),.le v0 v1,.le v2 v0,.le v3 v1],.le (.a v2 v5) v1,6,[8625590288,9126809617]⟩,
 ⟨[(sb v0 c0 v2),.no (.lt v0 v1)],.le v1 v2,3,[69889,69888]⟩,
 ⟨[(mx c0 v1 v2),.lt v0 v1,.le (.a v2 c1) v3],.le (.a v0 c1) v3,4,[1118464,1118465]⟩,
 ⟨[(sb v0 v2 v3),.lt v0 v1],.lt v3 v1,4,[4295036944,16846864]⟩,
 ⟨[.no (.le (.a v0 c1) v1)],.le v1 v0,2,[17]⟩,
 ⟨[.no (.lt v2 v3)],.le v3 v2,4,[17]⟩,
 ⟨[(sb v0 v1 v2),(mn v1 (.a v0 c1) v4),(sb (.a v0 c1) v4 v5),.or (.le (.a v0 c1) v1) (.lt v2 v3)],.le v5 v3,6,[4504699407433728,1168499540224,4504768127959040,1168500588801,4504699407433728,1168499540224,4504699408482304,1168500588800,16842753,16842753,68719476737,1168500588800,4097,4097,4097,4097]⟩]
theorem qaY:tb20.all LR.ok=true:=by decide +kernel
theorem qv2:a<b->(a+0)<b:=lin qaY 0 [a,b] []
theorem qv3:((max 0 a)+1)<=b->b≥(a-c):=lin qaY 1 [a,(max 0 a),b,c,(a-c)] [] (qc9 0 a) (qg a c)
theorem qv4:(¬ (a≥(b-c)))->(c+a)<b:=lin qaY 2 [b,c,(b-c),a] [] (qg b c)
theorem qn1:a<((2*a)+1):=lin qaY 3 [a] []
theorem qn2:(a+1)<=b->((a+1)+1)<=((2*b)+1):=lin qaY 4 [a,b] []
theorem qv5:(¬ ((a+b)<c))->c<=(a+b):=lin qaY 5 [a,b,c] []
theorem qv6:(a+b)<c->((a+b)+1)<=c:=lin qaY 6 [a,b,c] []
theorem qv7:a<=b->(c≥(b-d)\/a<=(d+c))->a<=(d+(min c (b-d))):=lin qaY 7 [a,b,d,(b-d),c,(min c (b-d))] [] (qg b d) (qac c (b-d))
theorem qv8:((a+(min b (c-a)))-((a+d)+1))<=(c-0):=lin qaY 8 [a,b,c,(c-a),(min b (c-a)),d,((a+(min b (c-a)))-((a+d)+1)),(c-0)] [] (qg c a) (qac b (c-a)) (qg (a+(min b (c-a))) ((a+d)+1)) (qg c 0)
theorem qv9:a<b->(a+(min c (b-a)))<=b:=lin qaY 9 [a,b,c,(b-a),(min c (b-a))] [] (qg b a) (qac c (b-a))
theorem qn3:a<=b->b<=c->(c-a)<=(d-(max 0 d))->c=b:=lin qaY 10 [a,b,c,(c-a),d,(max 0 d),(d-(max 0 d))] [] (qg c a) (qc9 0 d) (qg d (max 0 d))
theorem qn4:a<=b->b<=c->a≥c->c=b:=lin qaY 11 [a,b,c] []
theorem qn5:a<=b->(¬ (c≥a))->(c+((a-c)/2))<b:=lin qaY 12 [a,b,c,(a-c),((a-c)/2)] [] (qg a c) (qbd (a-c) 2 (by decide))
theorem qn6:(a+((b-a)/2))<c->((a+((b-a)/2))+1)<=c:=lin qaY 13 [a,b,(b-a),((b-a)/2),c] []
theorem qn7:(a-b)<=(c-d)->(a-((b+((a-b)/2))+1))<=(c-(d+1)):=lin qaY 14 [a,b,(a-b),c,d,(c-d),((a-b)/2),(a-((b+((a-b)/2))+1)),(c-(d+1))] [] (qg a b) (qg c d) (qg a ((b+((a-b)/2))+1)) (qg c (d+1))
theorem qn8:(¬ ((a+((b-a)/2))<c))->c<=(a+((b-a)/2)):=lin qaY 15 [a,b,(b-a),((b-a)/2),c] []
theorem qn9:(a-b)<=(c-d)->((b+((a-b)/2))-b)<=(c-(d+1)):=lin qaY 16 [a,b,(a-b),c,d,(c-d),((a-b)/2),((b+((a-b)/2))-b),(c-(d+1))] [] (qg c d) (qbd (a-b) 2 (by decide)) (qg (b+((a-b)/2)) b) (qg c (d+1))
theorem qwa:a<=b->c<=a->d<=b->(c+((d-c)/2))<=b:=lin qaY 17 [a,b,c,d,(d-c),((d-c)/2)] [] (qg d c) (qbd (d-c) 2 (by decide))
theorem qwb:(¬ (a<b))->b<=(a-0):=lin qaY 18 [a,b,(a-0)] [] (qg a 0)
theorem qwc:a<b->((max 0 b)+1)<=c->c≥(a+1):=lin qaY 19 [a,b,(max 0 b),c] [] (qc9 0 b)
theorem qwd:a<b->(a-c)<b:=lin qaY 20 [a,b,c,(a-c)] [] (qg a c)
theorem qwe:(¬ (a≥(b+1)))->a<=b:=lin qaY 21 [b,a] []
theorem qwf:(¬ ((a-b)<c))->c<=(a-b):=lin qaY 22 [a,b,(a-b),c] []
theorem qwg:(a≥(b+1)\/(b-a)<c)->((b+1)-(min a (b+1)))<=c:=lin qaY 23 [b,a,(b-a),c,(min a (b+1)),((b+1)-(min a (b+1)))] [] (qg b a) (qac a (b+1)) (qg (b+1) (min a (b+1)))
noncomputable def tb21:List LR:=[
 ⟨[.le v0 v3],.le v0 v3,4,[17]⟩,
 ⟨[(sb v0 v2 v3),(sb v3 v6 v7),(sb v1 c0 v8),.lt v0 v1],.le v7 v8,9,[1103806660608,1103823437824,4504703434031120,4504703450808336,1103806660608,1103823437824,0x100010011101010010,0x100010011100010010]⟩,
 ⟨[(sb v0 v2 v3),.lt v0 v1],.le v3 v1,4,[268501008,16846864]⟩,
 ⟨[(sb v0 v2 v3),.an (.le (.m 2 v4) v3) (.lt v3 (.a (.m 2 v4) c2)),.le v0 v1,.no (.le v0 v2)],.le (.a v2 v4) v1,5,[16777217,555749392]⟩,
 ⟨[],.le c0 (.c 50),0,[1]⟩,
 ⟨[],.lt c1 (.c 8),0,[1]⟩,
 ⟨[],.le c0 c1,0,[1]⟩,
 ⟨[.le c4 c1],.an (.eq (.a c0 c4) (.a (.m 4 c0) c1)) (.an (.eq c1 (.a (.m 4 c0) c4)) (.le (.a c0 c4) c1)),0,[1,1,1,1,1]⟩,
 ⟨[.lt v0 (.a c0 c1)],.eq v0 c0,1,[272,17]⟩,
 ⟨[],.le c0 c4,0,[1]⟩,
 ⟨[.le v0 (.c 50),.eq (.a v0 c1) (.a (.m 8 v1) v2),.lt v2 c4,.eq v3 (.a (.m 4 v1) v2)],.lt v3 (.c 28),4,[33689857]⟩,
 ⟨[.no (.lt v0 c4)],.le c4 v0,1,[17]⟩,
 ⟨[.le v0 (.c 50),.eq (.a v0 c1) (.a (.m 8 v1) v2),.no (.lt v2 c4),.eq v3 (.a (.m 4 v1) c4)],.lt v3 (.c 28),4,[33689857]⟩,
 ⟨[.le v0 (.c 50),.eq (.a v0 c1) (.a (.m 8 v1) v2),.eq v3 (.m 4 v1)],.lt v3 (.c 28),4,[270541057]⟩,
 ⟨[.le v0 (.c 50),.eq (.a v0 c1) (.a (.m 8 v1) v2),.lt v2 (.c 8),.eq (.a v3 c4) (.a (.m 4 v1) v2)],.lt v3 (.c 28),4,[33689857]⟩,
 ⟨[.an (.le (.m 4 v2) v1) (.lt v1 (.a (.m 4 v2) c4)),.eq v0 (.c 8),.lt v1 (.c 28)],.lt v2 v0,3,[4276225]⟩,
 ⟨[.an (.le (.m 4 v2) v1) (.lt v1 (.a (.m 4 v2) c4)),.eq v0 (.c 8),.lt v1 (.c 28)],.lt (.a v2 c1) v0,3,[4276225]⟩,
 ⟨[.eq v0 (.a v1 c1),.lt v2 (.a v1 c1)],.no (.eq v2 v0),3,[65808]⟩,
 ⟨[.lt v0 (.a (.a v1 c1) c1),.no (.lt v0 (.a v1 c1))],.eq v0 (.a v1 c1),2,[272,257]⟩,
 ⟨[(mx (.c 28) (.c 28) v1),(sb v1 (.c 24) v2),(sb v1 (.a v0 c1) v3),.eq (.a v0 c1) (.c 28)],.eq (.a (.a (.a (.a (.c 50) c1) c1) v2) v3) (.c 56),4,[4352,4352,4352,4352,17596482060544,17592454545424,17596498837760,18691966173216,4352,4352,4352,4352,17596482060544,17592454545424,17596498837760,18691966173216]⟩,
 ⟨[.lt v0 (.c 52)],.lt v0 (.a (.a (.c 50) c1) c1),1,[17]⟩,
 ⟨[(sb v0 (.c 52) v1),.lt v0 (.c 56)],.lt v1 c4,2,[65552,69648]⟩,
 ⟨[(sb v0 (.c 52) v1),.lt v0 (.c 56)],.lt (.a (.c 24) v1) (.c 28),2,[65552,69648]⟩,
 ⟨[(sb v0 (.c 52) v1),(sb (.c 28) (.c 24) v2),.lt v0 (.c 56)],.lt v1 v2,3,[4096,269484048,4096,286261264]⟩]
theorem qaZ:tb21.all LR.ok=true:=by decide +kernel
theorem qwh:a<=(b-c)->a<=(b-c):=lin qaZ 0 [a,b,c,(b-c)] []
theorem qwi:a<b->((a-c)-((a+1)-(min d (a+1))))<=(b-0):=lin qaZ 1 [a,b,c,(a-c),d,(min d (a+1)),((a+1)-(min d (a+1))),((a-c)-((a+1)-(min d (a+1)))),(b-0)] [] (qg a c) (qg (a-c) ((a+1)-(min d (a+1)))) (qg b 0)
theorem qwj:a<b->(a-c)<=b:=lin qaZ 2 [a,b,c,(a-c)] [] (qg a c)
theorem qwk:a<=b->(¬ (c≥a))->(c+((a-c)/2))<=b:=lin qaZ 3 [a,b,c,(a-c),((a-c)/2)] [] (qg a c) (qbd (a-c) 2 (by decide))
theorem qwl :0<=50:=lin qaZ 4 [] []
theorem qwm :1<8:=lin qaZ 5 [] []
theorem qwn :0<=1:=lin qaZ 6 [] []
theorem qwo :4<=1->((0+4)=((4*0)+1)/\(1=((4*0)+4)/\(0+4)<=1)):=lin qaZ 7 [] []
theorem qoa:a<(0+1)->a=0:=lin qaZ 8 [a] []
theorem qeJ :0<=4:=lin qaZ 9 [] []
theorem qwp:a<=50->(a+1)=((8*b)+c)->c<4->d=((4*b)+c)->d<28:=lin qaZ 10 [a,b,c,d] []
theorem qjy:(¬ (a<4))->4<=a:=lin qaZ 11 [a] []
theorem qwq:a<=50->(a+1)=((8*b)+c)->(¬ (c<4))->d=((4*b)+4)->d<28:=lin qaZ 12 [a,b,c,d] []
theorem qwr:a<=50->(a+1)=((8*b)+c)->d=(4*b)->d<28:=lin qaZ 13 [a,b,c,d] []
theorem qws:a<=50->(a+1)=((8*b)+c)->c<8->(d+4)=((4*b)+c)->d<28:=lin qaZ 14 [a,b,c,d] []
theorem qwt:a=8->b<28->(b/4)<a:=lin qaZ 15 [a,b,(b/4)] [] (qbd b 4 (by decide))
theorem qwu:a=8->b<28->((b/4)+1)<a:=lin qaZ 16 [a,b,(b/4)] [] (qbd b 4 (by decide))
theorem qwv:a=(b+1)->c<(b+1)->¬ (c=a):=lin qaZ 17 [a,b,c] []
theorem qww:a<((b+1)+1)->(¬ (a<(b+1)))->a=(b+1):=lin qaZ 18 [a,b] []
theorem qwx:(a+1)=28->((((50+1)+1)+((min 28 28)-24))+((min 28 28)-(a+1)))=56:=lin qaZ 19 [a,(min 28 28),((min 28 28)-24),((min 28 28)-(a+1))] [] (qac 28 28) (qg (min 28 28) 24) (qg (min 28 28) (a+1))
theorem qwy:a<52->a<((50+1)+1):=lin qaZ 20 [a] []
theorem qwz:a<56->(a-52)<4:=lin qaZ 21 [a,(a-52)] [] (qg a 52)
theorem qwA:a<56->(24+(a-52))<28:=lin qaZ 22 [a,(a-52)] [] (qg a 52)
theorem qwB:a<56->(a-52)<(28-24):=lin qaZ 23 [a,(a-52),(28-24)] [] (qg a 52) (qg 28 24)
noncomputable def tb22:List LR:=[
 ⟨[.le v0 c4],.no (.le (.c 7) (.a v0 c1)),1,[17]⟩,
 ⟨[.eq (.a v0 c1) (.a (.m 8 v1) v2),.lt v3 (.c 28),.eq v3 (.a (.m 4 v1) v2),.no (.eq (.a v3 c1) (.c 28)),.eq v2 c3],.le (.a v0 c1) (.c 50),4,[4565630977,1048832]⟩,
 ⟨[.eq (.a v0 c1) (.a (.m 8 v1) v2),.eq v2 c3],.eq (.a (.a v0 c1) c1) (.a (.m 8 v1) c4),3,[69648,65793]⟩,
 ⟨[],.lt c4 (.c 8),0,[1]⟩,
 ⟨[.lt c4 c4],.an (.eq v0 (.m 4 v1)) (.an (.eq (.a v2 c1) (.a (.m 4 v1) c4)) (.le (.a v3 c1) c4)),4,[1,1,1,1,1]⟩,
 ⟨[.eq v0 (.m 4 v1),.eq v2 (.a (.m 4 v1) v3),.eq v3 c3],.an (.eq (.a v0 c4) (.a (.m 4 v1) c4)) (.an (.eq (.a v2 c1) (.a (.m 4 v1) c4)) (.le (.a c0 c4) c4)),4,[16777232,16777217,17829888,16843008,16777216]⟩,
 ⟨[.le v0 v1,.eq v1 c3],.le (.a v0 c1) c4,2,[4113]⟩,
 ⟨[.eq (.a v0 c1) (.a (.m 8 v1) v2)],.eq (.a (.a v0 c1) c1) (.a (.m 8 v1) (.a v2 c1)),3,[272,257]⟩,
 ⟨[.lt v0 c4],.lt (.a v0 c1) (.c 8),1,[17]⟩,
 ⟨[.eq v0 (.m 4 v1),.eq v2 (.a (.m 4 v1) v3),.le v4 v3],.an (.eq v0 (.m 4 v1)) (.an (.eq (.a v2 c1) (.a (.m 4 v1) (.a v3 c1))) (.le (.a v4 c1) (.a v3 c1))),5,[1048592,1048577,1052672,1048832,1114112]⟩,
 ⟨[.lt v0 c4,.eq v1 (.m 4 v2),.eq v3 (.a (.m 4 v2) v0),.le c4 (.a v0 c1)],.an (.eq (.a v1 c4) (.a (.m 4 v2) (.a v0 c1))) (.an (.eq (.a v3 c1) (.a (.m 4 v2) c4)) (.le (.a c0 c4) (.a v0 c1))),4,[16777473,17825808,17891328,16781313,17825792]⟩,
 ⟨[.lt v0 c4,.le v1 v0],.le (.a v1 c1) c4,2,[273]⟩,
 ⟨[.le v0 (.c 50),.eq (.a v0 c1) (.a (.m 8 v1) v2),.lt v2 (.c 8),.eq (.a v3 c4) (.a (.m 4 v1) v2)],.no (.eq v3 (.c 26)),4,[537006337]⟩,
 ⟨[.eq (.a v0 c1) (.a (.m 8 v1) v2),.eq v2 (.c 7)],.eq (.a (.a v0 c1) c1) (.a (.m 8 (.a v1 c1)) c0),3,[69648,65793]⟩,
 ⟨[],.lt c0 (.c 8),0,[1]⟩,
 ⟨[.eq (.a v0 c4) (.a (.m 4 v1) v2),.eq v3 (.a (.m 4 v1) c4),.eq v2 (.c 7)],.an (.eq (.a v0 c1) (.m 4 (.a v1 c1))) (.an (.eq v3 (.a (.m 4 (.a v1 c1)) c0)) (.le c0 c0)),4,[17825808,16842753,16781312,16777472,16777216]⟩,
 ⟨[.le c4 c0],.an (.eq (.a (.a v0 c1) c4) (.a (.m 4 (.a v1 c1)) c0)) (.an (.eq v2 (.a (.m 4 (.a v1 c1)) c4)) (.le (.a (.a v3 c1) c4) c0)),4,[1,1,1,1,1]⟩,
 ⟨[.le (.a v0 c4) v1,.eq v1 (.c 7)],.le (.a v0 c1) c4,2,[4113]⟩,
 ⟨[.lt v0 (.c 8),.no (.eq v0 (.c 7))],.lt (.a v0 c1) (.c 8),1,[272,17]⟩,
 ⟨[.no (.lt v0 c4),.lt (.a v0 c1) c4],.an (.eq (.a v1 c1) (.m 4 v2)) (.an (.eq v3 (.a (.m 4 v2) (.a v0 c1))) (.le c0 (.a v0 c1))),4,[17,17,17,17,17]⟩,
 ⟨[.eq (.a v0 c4) (.a (.m 4 v1) v2),.eq v3 (.a (.m 4 v1) c4),.le (.a v4 c4) v2],.an (.eq (.a (.a v0 c1) c4) (.a (.m 4 v1) (.a v2 c1))) (.an (.eq v3 (.a (.m 4 v1) c4)) (.le (.a (.a v4 c1) c4) (.a v2 c1))),5,[1048592,1048577,1052672,1048832,1114112]⟩,
 ⟨[.lt v0 (.c 8),.le (.a v1 c4) v0],.le (.a v1 c1) c4,2,[273]⟩,
 ⟨[],.no (.an (.le (.a v0 v1) v2) (.lt v2 (.a (.a v0 v1) c0))),3,[17]⟩,
 ⟨[.le (.a (.a v0 v1) (.a v2 c1)) v3],.le (.a (.a v0 (.a v1 c1)) v2) v3,4,[17]⟩]
theorem qa0:tb22.all LR.ok=true:=by decide +kernel
theorem qob:a<=4->¬ ((a+1)≥7):=lin qa0 0 [a] []
theorem qwC:(a+1)=((8*b)+c)->d<28->d=((4*b)+c)->(¬ ((d+1)=28))->c=3->(a+1)<=50:=lin qa0 1 [a,b,c,d] []
theorem qwD:(a+1)=((8*b)+c)->c=3->((a+1)+1)=((8*b)+4):=lin qa0 2 [a,b,c] []
theorem qwE :4<8:=lin qa0 3 [] []
theorem qwF:4<4->(a=(4*b)/\((c+1)=((4*b)+4)/\(d+1)<=4)):=lin qa0 4 [a,b,c,d] []
theorem qwG:a=(4*b)->c=((4*b)+d)->d=3->((a+4)=((4*b)+4)/\((c+1)=((4*b)+4)/\(0+4)<=4)):=lin qa0 5 [a,b,c,d] []
theorem qwH:a<=b->b=3->(a+1)<=4:=lin qa0 6 [a,b] []
theorem qoc:(a+1)=((8*b)+c)->((a+1)+1)=((8*b)+(c+1)):=lin qa0 7 [a,b,c] []
theorem qwI:a<4->(a+1)<8:=lin qa0 8 [a] []
theorem qwJ:a=(4*b)->c=((4*b)+d)->e<=d->(a=(4*b)/\((c+1)=((4*b)+(d+1))/\(e+1)<=(d+1))):=lin qa0 9 [a,b,c,d,e] []
theorem qwK:a<4->b=(4*c)->d=((4*c)+a)->4<=(a+1)->((b+4)=((4*c)+(a+1))/\((d+1)=((4*c)+4)/\(0+4)<=(a+1))):=lin qa0 10 [a,b,c,d] []
theorem qwL:a<4->b<=a->(b+1)<=4:=lin qa0 11 [a,b] []
theorem qwM:a<=50->(a+1)=((8*b)+c)->c<8->(d+4)=((4*b)+c)->¬ (d=26):=lin qa0 12 [a,b,c,d] []
theorem qwN:(a+1)=((8*b)+c)->c=7->((a+1)+1)=((8*(b+1))+0):=lin qa0 13 [a,b,c] []
theorem qwO :0<8:=lin qa0 14 [] []
theorem qwP:(a+4)=((4*b)+c)->d=((4*b)+4)->c=7->((a+1)=(4*(b+1))/\(d=((4*(b+1))+0)/\0<=0)):=lin qa0 15 [a,b,c,d] []
theorem qwQ:4<=0->(((a+1)+4)=((4*(b+1))+0)/\(c=((4*(b+1))+4)/\((d+1)+4)<=0)):=lin qa0 16 [a,b,c,d] []
theorem qwR:(a+4)<=b->b=7->(a+1)<=4:=lin qa0 17 [a,b] []
theorem qwS:a<8->(¬ (a=7))->(a+1)<8:=lin qa0 18 [a] []
theorem qwT:(¬ (a<4))->(a+1)<4->((b+1)=(4*c)/\(d=((4*c)+(a+1))/\0<=(a+1))):=lin qa0 19 [a,b,c,d] []
theorem qwU:(a+4)=((4*b)+c)->d=((4*b)+4)->(e+4)<=c->(((a+1)+4)=((4*b)+(c+1))/\(d=((4*b)+4)/\((e+1)+4)<=(c+1))):=lin qa0 20 [a,b,c,d,e] []
theorem qwV:a<8->(b+4)<=a->(b+1)<=4:=lin qa0 21 [a,b] []
theorem qwW:¬ (((a+b)<=c/\c<((a+b)+0))):=lin qa0 22 [a,b,c] []
theorem qwX:((a+b)+(c+1))<=d->((a+(b+1))+c)<=d:=lin qa0 23 [a,b,c,d] []
noncomputable def tb23:List LR:=[
 ⟨[],.no (.an (.le (.a v0 (.a v1 c1)) (.a v0 v1)) (.lt (.a v0 v1) (.a (.a v0 (.a v1 c1)) v2))),3,[1]⟩,
 ⟨[],.an (.le (.a v0 v1) (.a v0 v1)) (.lt (.a v0 v1) (.a (.a v0 v1) (.a v2 c1))),3,[1,17]⟩,
 ⟨[.le (.a v0 (.a v1 c1)) v2,.lt v2 (.a (.a v0 (.a v1 c1)) v3)],.an (.le (.a v0 v1) v2) (.lt v2 (.a (.a v0 v1) (.a v3 c1))),4,[257,272]⟩,
 ⟨[(sb v2 (.a v0 v1) v3),(sb v2 (.a v0 (.a v1 c1)) v4),.le (.a v0 (.a v1 c1)) v2],.eq v3 (.a v4 c1),5,[16777217,16777217,4097,4097,285278464,269488144,268501248,269484048]⟩,
 ⟨[.no (.eq v0 (.a v1 v2)),.no (.an (.le (.a v1 (.a v2 c1)) v0) (.lt v0 (.a (.a v1 (.a v2 c1)) v3)))],.no (.an (.le (.a v1 v2) v0) (.lt v0 (.a (.a v1 v2) (.a v3 c1)))),4,[257,257,17,4112]⟩,
 ⟨[.an (.eq (.a (.m 32 v3) v4) (.a v1 v2)) (.lt v4 (.c 32)),.an (.le (.m 4 v5) v4) (.lt v4 (.a (.m 4 v5) c4)),.eq v0 (.c 8)],.lt v5 v0,6,[1140855040]⟩,
 ⟨[.lt v0 (.c 28)],.lt (.a c4 v0) (.c 64),1,[17]⟩,
 ⟨[(mn (.c 32) (.c 64) v1),(sb v1 c4 v2),.lt v0 (.c 28)],.lt v0 v2,3,[4352,286261504,1,1]⟩,
 ⟨[.lt v0 (.c 28)],.lt (.a (.c 32) v0) (.c 64),1,[17]⟩,
 ⟨[(mn (.c 60) (.c 64) v1),(sb v1 (.c 32) v2),.lt v0 (.c 28)],.lt v0 v2,3,[4352,286261504,1,1]⟩,
 ⟨[(sb v0 c4 v1),.lt v0 (.a (.a c4 c0) (.c 56))],.lt v1 (.c 56),2,[65552,69648]⟩,
 ⟨[.an (.le (.m 8 v1) v0) (.lt v0 (.a (.m 8 v1) (.c 8))),(sb v0 c4 v2),.an (.le (.m 8 v3) (.a v2 c4)) (.lt (.a v2 c4) (.a (.m 8 v3) (.c 8)))],.eq v1 v3,4,[8798241558528,2164326657,2148536336,2164326401]⟩]
theorem qcG:tb23.all LR.ok=true:=by decide +kernel
theorem qwY:¬ (((a+(b+1))<=(a+b)/\(a+b)<((a+(b+1))+c))):=lin qcG 0 [a,b,c] []
theorem qwZ:((a+b)<=(a+b)/\(a+b)<((a+b)+(c+1))):=lin qcG 1 [a,b,c] []
theorem qw0:(a+(b+1))<=c->c<((a+(b+1))+d)->((a+b)<=c/\c<((a+b)+(d+1))):=lin qcG 2 [a,b,c,d] []
theorem qw1:(a+(b+1))<=c->(c-(a+b))=((c-(a+(b+1)))+1):=lin qcG 3 [a,b,c,(c-(a+b)),(c-(a+(b+1)))] [] (qg c (a+b)) (qg c (a+(b+1)))
theorem qw2:(¬ (a=(b+c)))->(¬ (((b+(c+1))<=a/\a<((b+(c+1))+d))))->¬ (((b+c)<=a/\a<((b+c)+(d+1)))):=lin qcG 4 [a,b,c,d] []
theorem qod:a=8->(((b+c)%32)/4)<a:=lin qcG 5 [a,b,c,((b+c)/32),((b+c)%32),(((b+c)%32)/4)] [] (qeH (b+c) 32 (by decide)) (qbd ((b+c)%32) 4 (by decide))
theorem qw3:a<28->(4+a)<64:=lin qcG 6 [a] []
theorem qw4:a<28->a<((min 32 64)-4):=lin qcG 7 [a,(min 32 64),((min 32 64)-4)] [] (qac 32 64) (qg (min 32 64) 4)
theorem qw5:a<28->(32+a)<64:=lin qcG 8 [a] []
theorem qw6:a<28->a<((min 60 64)-32):=lin qcG 9 [a,(min 60 64),((min 60 64)-32)] [] (qac 60 64) (qg (min 60 64) 32)
theorem qw7:a<((4+0)+56)->(a-4)<56:=lin qcG 10 [a,(a-4)] [] (qg a 4)
theorem qw8:(a/8)=(((a-4)+4)/8):=lin qcG 11 [a,(a/8),(a-4),(((a-4)+4)/8)] [] (qbd a 8 (by decide)) (qg a 4) (qbd ((a-4)+4) 8 (by decide))
noncomputable def ub0:List LR:=[
 ⟨[.le v0 v1,.le v2 v3],.le (.a v0 v2) (.a v1 v3),4,[273]⟩,
 ⟨[.le (.c 1000000) v0,.le v1 v2,.le v3 (.c 8),.le v2 (.m 7 (.c 8))],.le (.a v1 v3) v0,4,[69905]⟩,
 ⟨[],.eq (.a v0 v0) (.m 2 v0),1,[1,1]⟩,
 ⟨[],.zle (.g (.d 9223372036854775808)) (.n v2),3,[17]⟩,
 ⟨[.an (.eq (.a (.m 3 v1) v2) v0) (.lt v2 c3)],.zlt (.n v2) (.d 9223372036854775808),3,[4352]⟩,
 ⟨[],.zle (.g (.d 9223372036854775808)) (.n v2),3,[17]⟩,
 ⟨[.an (.eq (.a (.m 2 v1) v2) v0) (.lt v2 c2)],.zlt (.n v2) (.d 9223372036854775808),3,[4352]⟩,
 ⟨[.le v0 v1,.eq v1 v2,.an (.lt v2 v0) (.le v0 v3)],.ff,4,[4113]⟩,
 ⟨[.le v0 v1,.lt v1 (.a v2 c1),.no (.eq v1 v3),.no (.an (.lt v3 v1) (.le v1 v2)),.eq v0 v3],.ff,4,[1048833,4112,4352,4112]⟩,
 ⟨[.le v0 v1,.lt v1 (.a v2 c1),.no (.an (.lt v3 v1) (.le v1 v2)),.an (.lt v3 v0) (.le v0 v2)],.ff,4,[4353,272]⟩,
 ⟨[(sb v1 c1 v3),.an (.lt v0 v1) (.le v1 v2)],.le v0 v3,4,[1052929,1052928]⟩,
 ⟨[(sb v1 c1 v3),.an (.lt v0 v1) (.le v1 v2)],.lt v3 v2,4,[68720594960,1114128]⟩,
 ⟨[(sb v0 c1 v2),(sb v1 c1 v3),.le v0 v1],.le v2 v3,4,[269484048,269488144,286265360,286261264]⟩,
 ⟨[(sb v1 c1 v4),.le v0 v1,.an (.lt v2 v1) (.le v1 v3),.no (.an (.lt v2 v0) (.le v0 v3))],.le v0 v4,5,[285278465,17829888,285278464,17829888]⟩,
 ⟨[.le v0 v1],.le v0 v1,2,[17]⟩,
 ⟨[.le v0 v1,.lt v2 (.a v1 c1),.no (.eq v2 v0),.no (.an (.lt v0 v2) (.le v2 v1))],.lt v2 v1,3,[65793,4353,4352,4112]⟩]
theorem uk0:ub0.all LR.ok=true:=by decide +kernel
theorem as0{x0 x1 x2 x3:Nat}:x0<=x1->x2<=x3->(x0+x2)<=(x1+x3):=lin uk0 0 [x0,x1,x2,x3] []
theorem as1{x0 x1 x2 x3:Nat}:1000000<=x0->x1<=x2->x3<=8->x2<=(7*8)->(x1+x3)<=x0:=lin uk0 1 [x0,x1,x2,x3] []
theorem as2{x0:Nat}:(x0+x0)=(2*x0):=lin uk0 2 [x0] []
theorem as3{x0:Nat}:(-(2^63:Int))<=(((x0%3):Nat):Int):=lin uk0 3 [x0,(x0/3),(x0%3)] []
theorem as4{x0:Nat}:(((x0%3):Nat):Int)<(2^63:Int):=lin uk0 4 [x0,(x0/3),(x0%3)] [] (qeH x0 3 (by decide))
theorem as5{x0:Nat}:(-(2^63:Int))<=(((x0%2):Nat):Int):=lin uk0 5 [x0,(x0/2),(x0%2)] []
theorem as6{x0:Nat}:(((x0%2):Nat):Int)<(2^63:Int):=lin uk0 6 [x0,(x0/2),(x0%2)] [] (qeH x0 2 (by decide))
theorem as7{x0 x1 x2 x3:Nat}:x0<=x1->x1=x2->(x2<x0/\x0<=x3)->False:=lin uk0 7 [x0,x1,x2,x3] []
theorem as8{x0 x1 x2 x3:Nat}:x0<=x1->x1<(x2+1)->(¬ (x1=x3))->(¬ ((x3<x1/\x1<=x2)))->x0=x3->False:=lin uk0 8 [x0,x1,x2,x3] []
theorem as9{x0 x1 x2 x3:Nat}:x0<=x1->x1<(x2+1)->(¬ ((x3<x1/\x1<=x2)))->(x3<x0/\x0<=x2)->False:=lin uk0 9 [x0,x1,x2,x3] []
theorem qzb{x0 x1 x2:Nat}:(x0<x1/\x1<=x2)->x0<=(x1-1):=lin uk0 10 [x0,x1,x2,(x1-1)] [] (qg x1 1)
theorem qp0{x0 x1 x2:Nat}:(x0<x1/\x1<=x2)->(x1-1)<x2:=lin uk0 11 [x0,x1,x2,(x1-1)] [] (qg x1 1)
theorem qzc{x0 x1:Nat}:x0<=x1->(x0-1)<=(x1-1):=lin uk0 12 [x0,x1,(x0-1),(x1-1)] [] (qg x0 1) (qg x1 1)
theorem qzd{x0 x1 x2 x3:Nat}:x0<=x1->(x2<x1/\x1<=x3)->(¬ ((x2<x0/\x0<=x3)))->x0<=(x1-1):=lin uk0 13 [x0,x1,x2,x3,(x1-1)] [] (qg x1 1)
theorem qze{x0 x1:Nat}:x0<=x1->x0<=x1:=lin uk0 14 [x0,x1] []
theorem qzf{x0 x1 x2:Nat}:x0<=x1->x2<(x1+1)->(¬ (x2=x0))->(¬ ((x0<x2/\x2<=x1)))->x2<x1:=lin uk0 15 [x0,x1,x2] []
theorem ad1:∀ x0:Nat,x0<56->(¬ (x0<52))->((x0+4)/8)=(((24+(x0-52))/4)+1):=by decide +kernel
theorem ad2:∀ x0:Nat,x0<28->((x0/4)+1)=(((4+x0)%32)/4):=by decide +kernel
theorem ad3:∀ x0:Nat,x0<28->(x0/4)=(((32+x0)%32)/4):=by decide +kernel
theorem ad4:∀ x0:Nat,x0<64->(¬ (((4+0)<=x0/\x0<((4+0)+56))))->(x0/8)=((x0%32)/4):=by decide +kernel
theorem o_sn.{u}{α:Type u}{a:α}{G:Prop}(h:some a=none):G:=nomatch h
theorem o_ns.{u}{α:Type u}{a:α}{G:Prop}(h:none=some a):G:=nomatch h
section
universe u0 u1 u2 u3 u4 u5 u6
variable{G:Prop}{A0:Sort u0}{A1:Sort u1}{A2:Sort u2}{A3:Sort u3}{A4:Sort u4}{A5:Sort u5}{A6:Sort u6}
variable{P00 P01 P02 P03 P04 P05 P06:Prop}
variable{P10 P11 P12 P13 P14 P15:A0->Prop}
variable{P20 P21 P22 P23 P24:A0->A1->Prop}
variable{P30 P31 P32 P33 P34 P35 P36:A0->A1->A2->Prop}
variable{P40 P41 P42 P43 P44 P45 P46:A0->A1->A2->A3->Prop}
variable{P50 P51 P52 P53 P54 P55 P56:A0->A1->A2->A3->A4->Prop}
variable{P60 P61 P62 P63 P64 P65 P66 P67 P68 P69:A0->A1->A2->A3->A4->A5->Prop}
variable{P70 P71 P72 P73 P74 P75 P76 P77 P78:A0->A1->A2->A3->A4->A5->A6->Prop}
theorem oAA(h:P00/\P01/\P02)(k:P00->P01->P02->G):G:=k h.1 h.2.1 h.2.2
theorem qdq(h:P00/\P01/\P02/\P03)(k:P00->P01->P02->P03->G):G:=k h.1 h.2.1 h.2.2.1 h.2.2.2
theorem qht(h:P00/\P01/\P02/\P03/\P04/\P05)(k:P00->P01->P02->P03->P04->P05->G):G:=k h.1 h.2.1 h.2.2.1 h.2.2.2.1 h.2.2.2.2.1 h.2.2.2.2.2
theorem qoD(h:P00/\P01/\P02/\P03/\P04/\P05/\P06)(k:P00->P01->P02->P03->P04->P05->P06->G):G:=k h.1 h.2.1 h.2.2.1 h.2.2.2.1 h.2.2.2.2.1 h.2.2.2.2.2.1 h.2.2.2.2.2.2
theorem qbI(h:P00/\P01/\∃ x,P10 x/\P11 x)(k:P00->P01->∀ x,P10 x->P11 x->G):G:=h.2.2.elim fun x h1=>k h.1 h.2.1 x h1.1 h1.2
theorem qau(h:P00/\P01/\∃ x y,P20 x y/\P21 x y)(k:P00->P01->∀ x y,P20 x y->P21 x y->G):G:=h.2.2.elim fun x h1=>h1.elim fun y h2=>k h.1 h.2.1 x y h2.1 h2.2
theorem oAE(h:P00/\∃ x,P10 x)(k:P00->∀ x,P10 x->G):G:=h.2.elim fun x h1=>k h.1 x h1
theorem oEA(h:∃ x,P10 x/\P11 x)(k:∀ x,P10 x->P11 x->G):G:=h.elim fun x h1=>k x h1.1 h1.2
theorem qbe(h:∃ x,P10 x/\P11 x/\P12 x)(k:∀ x,P10 x->P11 x->P12 x->G):G:=h.elim fun x h1=>k x h1.1 h1.2.1 h1.2.2
theorem qdb(h:∃ x,P10 x/\P11 x/\P12 x/\P13 x)(k:∀ x,P10 x->P11 x->P12 x->P13 x->G):G:=h.elim fun x h1=>k x h1.1 h1.2.1 h1.2.2.1 h1.2.2.2
theorem qw9(h:∃ x,P10 x/\P11 x/\∃ y,P20 x y)(k:∀ x,P10 x->P11 x->∀ y,P20 x y->G):G:=h.elim fun x h1=>h1.2.2.elim fun y h2=>k x h1.1 h1.2.1 y h2
theorem qzg(h:∃ x,P10 x/\∃ y,P20 x y)(k:∀ x,P10 x->∀ y,P20 x y->G):G:=h.elim fun x h1=>h1.2.elim fun y h2=>k x h1.1 y h2
theorem oEE(h:∃ x y,P20 x y)(k:∀ x y,P20 x y->G):G:=h.elim fun x h1=>h1.elim fun y h2=>k x y h2
theorem qbu(h:∃ x y,P20 x y/\P21 x y)(k:∀ x y,P20 x y->P21 x y->G):G:=h.elim fun x h1=>h1.elim fun y h2=>k x y h2.1 h2.2
theorem qR(h:∃ x y,P20 x y/\P21 x y/\P22 x y)(k:∀ x y,P20 x y->P21 x y->P22 x y->G):G:=h.elim fun x h1=>h1.elim fun y h2=>k x y h2.1 h2.2.1 h2.2.2
theorem qhu(h:∃ x y,P20 x y/\P21 x y/\P22 x y/\P23 x y)(k:∀ x y,P20 x y->P21 x y->P22 x y->P23 x y->G):G:=h.elim fun x h1=>h1.elim fun y h2=>k x y h2.1 h2.2.1 h2.2.2.1 h2.2.2.2
theorem qbi(h:∃ x y,P20 x y/\P21 x y/\P22 x y/\P23 x y/\P24 x y)(k:∀ x y,P20 x y->P21 x y->P22 x y->P23 x y->P24 x y->G):G:=h.elim fun x h1=>h1.elim fun y h2=>k x y h2.1 h2.2.1 h2.2.2.1 h2.2.2.2.1 h2.2.2.2.2
theorem qd9(h:∃ x y z,P30 x y z)(k:∀ x y z,P30 x y z->G):G:=h.elim fun x h1=>h1.elim fun y h2=>h2.elim fun z h3=>k x y z h3
theorem qhl(h:∃ x y z,P30 x y z/\P31 x y z)(k:∀ x y z,P30 x y z->P31 x y z->G):G:=h.elim fun x h1=>h1.elim fun y h2=>h2.elim fun z h3=>k x y z h3.1 h3.2
theorem qkx(h:∃ x y z,P30 x y z/\P31 x y z/\P32 x y z)(k:∀ x y z,P30 x y z->P31 x y z->P32 x y z->G):G:=h.elim fun x h1=>h1.elim fun y h2=>h2.elim fun z h3=>k x y z h3.1 h3.2.1 h3.2.2
theorem qaC(h:∃ x y z,P30 x y z/\P31 x y z/\P32 x y z/\P33 x y z)(k:∀ x y z,P30 x y z->P31 x y z->P32 x y z->P33 x y z->G):G:=h.elim fun x h1=>h1.elim fun y h2=>h2.elim fun z h3=>k x y z h3.1 h3.2.1 h3.2.2.1 h3.2.2.2
theorem qhv(h:∃ x y z,P30 x y z/\P31 x y z/\P32 x y z/\P33 x y z/\P34 x y z)(k:∀ x y z,P30 x y z->P31 x y z->P32 x y z->P33 x y z->P34 x y z->G):G:=h.elim fun x h1=>h1.elim fun y h2=>h2.elim fun z h3=>k x y z h3.1 h3.2.1 h3.2.2.1 h3.2.2.2.1 h3.2.2.2.2
theorem qcM(h:∃ x y z,P30 x y z/\P31 x y z/\P32 x y z/\P33 x y z/\P34 x y z/\P35 x y z/\P36 x y z)(k:∀ x y z,P30 x y z->P31 x y z->P32 x y z->P33 x y z->P34 x y z->P35 x y z->P36 x y z->G):G:=h.elim fun x h1=>h1.elim fun y h2=>h2.elim fun z h3=>k x y z h3.1 h3.2.1 h3.2.2.1 h3.2.2.2.1 h3.2.2.2.2.1 h3.2.2.2.2.2.1 h3.2.2.2.2.2.2
theorem qch(h:∃ x y z u,P40 x y z u)(k:∀ x y z u,P40 x y z u->G):G:=h.elim fun x h1=>h1.elim fun y h2=>h2.elim fun z h3=>h3.elim fun u h4=>k x y z u h4
theorem qge(h:∃ x y z u,P40 x y z u/\P41 x y z u/\P42 x y z u)(k:∀ x y z u,P40 x y z u->P41 x y z u->P42 x y z u->G):G:=h.elim fun x h1=>h1.elim fun y h2=>h2.elim fun z h3=>h3.elim fun u h4=>k x y z u h4.1 h4.2.1 h4.2.2
theorem qlH(h:∃ x y z u,P40 x y z u/\P41 x y z u/\P42 x y z u/\P43 x y z u)(k:∀ x y z u,P40 x y z u->P41 x y z u->P42 x y z u->P43 x y z u->G):G:=h.elim fun x h1=>h1.elim fun y h2=>h2.elim fun z h3=>h3.elim fun u h4=>k x y z u h4.1 h4.2.1 h4.2.2.1 h4.2.2.2
theorem qky(h:∃ x y z u,P40 x y z u/\P41 x y z u/\P42 x y z u/\P43 x y z u/\P44 x y z u)(k:∀ x y z u,P40 x y z u->P41 x y z u->P42 x y z u->P43 x y z u->P44 x y z u->G):G:=h.elim fun x h1=>h1.elim fun y h2=>h2.elim fun z h3=>h3.elim fun u h4=>k x y z u h4.1 h4.2.1 h4.2.2.1 h4.2.2.2.1 h4.2.2.2.2
theorem qcw(h:∃ x y z u,P40 x y z u/\P41 x y z u/\P42 x y z u/\P43 x y z u/\P44 x y z u/\P45 x y z u/\P46 x y z u)(k:∀ x y z u,P40 x y z u->P41 x y z u->P42 x y z u->P43 x y z u->P44 x y z u->P45 x y z u->P46 x y z u->G):G:=h.elim fun x h1=>h1.elim fun y h2=>h2.elim fun z h3=>h3.elim fun u h4=>k x y z u h4.1 h4.2.1 h4.2.2.1 h4.2.2.2.1 h4.2.2.2.2.1 h4.2.2.2.2.2.1 h4.2.2.2.2.2.2
theorem qhw(h:∃ x y z u v,P50 x y z u v/\P51 x y z u v/\P52 x y z u v/\P53 x y z u v/\P54 x y z u v/\P55 x y z u v/\P56 x y z u v)(k:∀ x y z u v,P50 x y z u v->P51 x y z u v->P52 x y z u v->P53 x y z u v->P54 x y z u v->P55 x y z u v->P56 x y z u v->G):G:=h.elim fun x h1=>h1.elim fun y h2=>h2.elim fun z h3=>h3.elim fun u h4=>h4.elim fun v h5=>k x y z u v h5.1 h5.2.1 h5.2.2.1 h5.2.2.2.1 h5.2.2.2.2.1 h5.2.2.2.2.2.1 h5.2.2.2.2.2.2
theorem qlI(h:∃ x y z u v w,P60 x y z u v w/\P61 x y z u v w)(k:∀ x y z u v w,P60 x y z u v w->P61 x y z u v w->G):G:=h.elim fun x h1=>h1.elim fun y h2=>h2.elim fun z h3=>h3.elim fun u h4=>h4.elim fun v h5=>h5.elim fun w h6=>k x y z u v w h6.1 h6.2
theorem qkz(h:∃ x y z u v w,P60 x y z u v w/\P61 x y z u v w/\P62 x y z u v w)(k:∀ x y z u v w,P60 x y z u v w->P61 x y z u v w->P62 x y z u v w->G):G:=h.elim fun x h1=>h1.elim fun y h2=>h2.elim fun z h3=>h3.elim fun u h4=>h4.elim fun v h5=>h5.elim fun w h6=>k x y z u v w h6.1 h6.2.1 h6.2.2
theorem qaD(h:∃ x y z u v w,P60 x y z u v w/\P61 x y z u v w/\P62 x y z u v w/\P63 x y z u v w/\P64 x y z u v w/\P65 x y z u v w/\P66 x y z u v w/\P67 x y z u v w/\P68 x y z u v w/\P69 x y z u v w)(k:∀ x y z u v w,P60 x y z u v w->P61 x y z u v w->P62 x y z u v w->P63 x y z u v w->P64 x y z u v w->P65 x y z u v w->P66 x y z u v w->P67 x y z u v w->P68 x y z u v w->P69 x y z u v w->G):G:=h.elim fun x h1=>h1.elim fun y h2=>h2.elim fun z h3=>h3.elim fun u h4=>h4.elim fun v h5=>h5.elim fun w h6=>k x y z u v w h6.1 h6.2.1 h6.2.2.1 h6.2.2.2.1 h6.2.2.2.2.1 h6.2.2.2.2.2.1 h6.2.2.2.2.2.2.1 h6.2.2.2.2.2.2.2.1 h6.2.2.2.2.2.2.2.2.1 h6.2.2.2.2.2.2.2.2.2
theorem iAA(a:P00)(b:P01)(c:P02):P00/\P01/\P02:=⟨a,b,c⟩
theorem qdr(a:P00)(b:P01)(c:P02)(d:P03):P00/\P01/\P02/\P03:=⟨a,b,c,d⟩
theorem qjz(a:P00)(b:P01)(c:P02)(d:P03)(e:P04):P00/\P01/\P02/\P03/\P04:=⟨a,b,c,d,e⟩
theorem qea(a:P00)(b:P01)(c:P02)(d:P03)(e:P04)(f:P05):P00/\P01/\P02/\P03/\P04/\P05:=⟨a,b,c,d,e,f⟩
theorem qiy(a:P00)(b:P01)(c:P02)(x:A0)(d:P10 x)(e:P11 x)(f:P12 x):P00/\P01/\P02/\∃ x,P10 x/\P11 x/\P12 x:=⟨a,b,c,x,d,e,f⟩
theorem qjA(a:P00)(b:P01)(x:A0)(c:P10 x)(d:P11 x):P00/\P01/\∃ x,P10 x/\P11 x:=⟨a,b,x,c,d⟩
theorem qci(a:P00)(b:P01)(x:A0)(c:P10 x)(d:P11 x)(e:P12 x):P00/\P01/\∃ x,P10 x/\P11 x/\P12 x:=⟨a,b,x,c,d,e⟩
theorem qaH(a:P00)(b:P01)(x:A0)(y:A1)(z:A2)(u:A3)(v:A4)(w:A5)(t:A6)(c:P70 x y z u v w t)(d:P71 x y z u v w t)(e:P72 x y z u v w t)(f:P73 x y z u v w t)(g:P74 x y z u v w t)(i:P75 x y z u v w t)(j:P76 x y z u v w t)(l:P77 x y z u v w t)(m:P78 x y z u v w t):P00/\P01/\∃ x y z u v w t,P70 x y z u v w t/\P71 x y z u v w t/\P72 x y z u v w t/\P73 x y z u v w t/\P74 x y z u v w t/\P75 x y z u v w t/\P76 x y z u v w t/\P77 x y z u v w t/\P78 x y z u v w t:=⟨a,b,x,y,z,u,v,w,t,c,d,e,f,g,i,j,l,m⟩
theorem iAE(a:P00)(x:A0)(b:P10 x):P00/\∃ x,P10 x:=⟨a,x,b⟩
theorem qzh(a:P00)(x:A0)(b:P10 x)(c:P11 x):P00/\∃ x,P10 x/\P11 x:=⟨a,x,b,c⟩
theorem qoe(a:P00)(x:A0)(b:P10 x)(c:P11 x)(d:P12 x):P00/\∃ x,P10 x/\P11 x/\P12 x:=⟨a,x,b,c,d⟩
theorem qp1(a:P00)(x:A0)(b:P10 x)(c:P11 x)(d:P12 x)(e:P13 x):P00/\∃ x,P10 x/\P11 x/\P12 x/\P13 x:=⟨a,x,b,c,d,e⟩
theorem qkA(a:P00)(x:A0)(y:A1)(b:P20 x y)(c:P21 x y)(d:P22 x y):P00/\∃ x y,P20 x y/\P21 x y/\P22 x y:=⟨a,x,y,b,c,d⟩
theorem qdy(a:P00)(x:A0)(y:A1)(b:P20 x y)(c:P21 x y)(d:P22 x y)(e:P23 x y):P00/\∃ x y,P20 x y/\P21 x y/\P22 x y/\P23 x y:=⟨a,x,y,b,c,d,e⟩
theorem qav(a:P00)(x:A0)(y:A1)(b:P20 x y)(c:P21 x y)(d:P22 x y)(e:P23 x y)(f:P24 x y):P00/\∃ x y,P20 x y/\P21 x y/\P22 x y/\P23 x y/\P24 x y:=⟨a,x,y,b,c,d,e,f⟩
theorem iEA(x:A0)(a:P10 x)(b:P11 x):∃ x,P10 x/\P11 x:=⟨x,a,b⟩
theorem qeb(x:A0)(a:P10 x)(b:P11 x)(c:P12 x):∃ x,P10 x/\P11 x/\P12 x:=⟨x,a,b,c⟩
theorem qjB(x:A0)(a:P10 x)(b:P11 x)(c:P12 x)(d:P13 x):∃ x,P10 x/\P11 x/\P12 x/\P13 x:=⟨x,a,b,c,d⟩
theorem qp2(x:A0)(a:P10 x)(b:P11 x)(c:P12 x)(d:P13 x)(e:P14 x):∃ x,P10 x/\P11 x/\P12 x/\P13 x/\P14 x:=⟨x,a,b,c,d,e⟩
theorem qoE(x:A0)(a:P10 x)(b:P11 x)(c:P12 x)(d:P13 x)(e:P14 x)(f:P15 x):∃ x,P10 x/\P11 x/\P12 x/\P13 x/\P14 x/\P15 x:=⟨x,a,b,c,d,e,f⟩
theorem qp3(x:A0)(a:P10 x)(b:P11 x)(y:A1)(c:P20 x y)(d:P21 x y):∃ x,P10 x/\P11 x/\∃ y,P20 x y/\P21 x y:=⟨x,a,b,y,c,d⟩
theorem qiz(x:A0)(a:P10 x)(b:P11 x)(y:A1)(c:P20 x y)(d:P21 x y)(e:P22 x y):∃ x,P10 x/\P11 x/\∃ y,P20 x y/\P21 x y/\P22 x y:=⟨x,a,b,y,c,d,e⟩
theorem qzi(x:A0)(a:P10 x)(y:A1)(b:P20 x y):∃ x,P10 x/\∃ y,P20 x y:=⟨x,a,y,b⟩
theorem qkB(x:A0)(a:P10 x)(y:A1)(z:A2)(b:P30 x y z)(c:P31 x y z):∃ x,P10 x/\∃ y z,P30 x y z/\P31 x y z:=⟨x,a,y,z,b,c⟩
theorem iEE(x:A0)(y:A1)(a:P20 x y):∃ x y,P20 x y:=⟨x,y,a⟩
theorem qjC(x:A0)(y:A1)(a:P20 x y)(b:P21 x y):∃ x y,P20 x y/\P21 x y:=⟨x,y,a,b⟩
theorem qbJ(x:A0)(y:A1)(a:P20 x y)(b:P21 x y)(c:P22 x y):∃ x y,P20 x y/\P21 x y/\P22 x y:=⟨x,y,a,b,c⟩
theorem qcW(x:A0)(y:A1)(a:P20 x y)(b:P21 x y)(c:P22 x y)(d:P23 x y)(e:P24 x y):∃ x y,P20 x y/\P21 x y/\P22 x y/\P23 x y/\P24 x y:=⟨x,y,a,b,c,d,e⟩
theorem qp4(x:A0)(y:A1)(z:A2)(a:P30 x y z):∃ x y z,P30 x y z:=⟨x,y,z,a⟩
theorem qp5(x:A0)(y:A1)(z:A2)(a:P30 x y z)(b:P31 x y z)(c:P32 x y z):∃ x y z,P30 x y z/\P31 x y z/\P32 x y z:=⟨x,y,z,a,b,c⟩
theorem qoF(x:A0)(y:A1)(z:A2)(a:P30 x y z)(b:P31 x y z)(c:P32 x y z)(d:P33 x y z):∃ x y z,P30 x y z/\P31 x y z/\P32 x y z/\P33 x y z:=⟨x,y,z,a,b,c,d⟩
theorem qhx(x:A0)(y:A1)(z:A2)(a:P30 x y z)(b:P31 x y z)(c:P32 x y z)(d:P33 x y z)(e:P34 x y z):∃ x y z,P30 x y z/\P31 x y z/\P32 x y z/\P33 x y z/\P34 x y z:=⟨x,y,z,a,b,c,d,e⟩
theorem qec(x:A0)(y:A1)(z:A2)(a:P30 x y z)(b:P31 x y z)(c:P32 x y z)(d:P33 x y z)(e:P34 x y z)(f:P35 x y z):∃ x y z,P30 x y z/\P31 x y z/\P32 x y z/\P33 x y z/\P34 x y z/\P35 x y z:=⟨x,y,z,a,b,c,d,e,f⟩
theorem qcj(x:A0)(y:A1)(z:A2)(a:P30 x y z)(b:P31 x y z)(c:P32 x y z)(d:P33 x y z)(e:P34 x y z)(f:P35 x y z)(g:P36 x y z):∃ x y z,P30 x y z/\P31 x y z/\P32 x y z/\P33 x y z/\P34 x y z/\P35 x y z/\P36 x y z:=⟨x,y,z,a,b,c,d,e,f,g⟩
theorem qxa(x:A0)(y:A1)(z:A2)(u:A3)(a:P40 x y z u):∃ x y z u,P40 x y z u:=⟨x,y,z,u,a⟩
theorem qoG(x:A0)(y:A1)(z:A2)(u:A3)(a:P40 x y z u)(b:P41 x y z u)(c:P42 x y z u):∃ x y z u,P40 x y z u/\P41 x y z u/\P42 x y z u:=⟨x,y,z,u,a,b,c⟩
theorem qe4(x:A0)(y:A1)(z:A2)(u:A3)(a:P40 x y z u)(b:P41 x y z u)(c:P42 x y z u)(d:P43 x y z u)(e:P44 x y z u)(f:P45 x y z u)(g:P46 x y z u):∃ x y z u,P40 x y z u/\P41 x y z u/\P42 x y z u/\P43 x y z u/\P44 x y z u/\P45 x y z u/\P46 x y z u:=⟨x,y,z,u,a,b,c,d,e,f,g⟩
theorem qiA(h:P00/\P01/\P02/\∃ x,P10 x/\P11 x/\P12 x)(k:P00->P01->P02->∀ x,P10 x->P11 x->P12 x->G):G:=h.2.2.2.elim fun x h1=>k h.1 h.2.1 h.2.2.1 x h1.1 h1.2.1 h1.2.2
theorem qed(h:P00/\P01/\∃ x y z u v w t,P70 x y z u v w t/\P71 x y z u v w t/\P72 x y z u v w t/\P73 x y z u v w t/\P74 x y z u v w t/\P75 x y z u v w t/\P76 x y z u v w t/\P77 x y z u v w t/\P78 x y z u v w t)(k:P00->P01->∀ x y z u v w t,P70 x y z u v w t->P71 x y z u v w t->P72 x y z u v w t->P73 x y z u v w t->P74 x y z u v w t->P75 x y z u v w t->P76 x y z u v w t->P77 x y z u v w t->P78 x y z u v w t->G):G:=h.2.2.elim fun x h1=>h1.elim fun y h2=>h2.elim fun z h3=>h3.elim fun u h4=>h4.elim fun v h5=>h5.elim fun w h6=>h6.elim fun t h7=>k h.1 h.2.1 x y z u v w t h7.1 h7.2.1 h7.2.2.1 h7.2.2.2.1 h7.2.2.2.2.1 h7.2.2.2.2.2.1 h7.2.2.2.2.2.2.1 h7.2.2.2.2.2.2.2.1 h7.2.2.2.2.2.2.2.2
theorem qof(h:P00/\∃ x,P10 x/\P11 x/\P12 x)(k:P00->∀ x,P10 x->P11 x->P12 x->G):G:=h.2.elim fun x h1=>k h.1 x h1.1 h1.2.1 h1.2.2
theorem qp6(h:P00/\∃ x y,P20 x y/\P21 x y/\P22 x y)(k:P00->∀ x y,P20 x y->P21 x y->P22 x y->G):G:=h.2.elim fun x h1=>h1.elim fun y h2=>k h.1 x y h2.1 h2.2.1 h2.2.2
theorem qgf(h:P00/\∃ x y,P20 x y/\P21 x y/\P22 x y/\P23 x y)(k:P00->∀ x y,P20 x y->P21 x y->P22 x y->P23 x y->G):G:=h.2.elim fun x h1=>h1.elim fun y h2=>k h.1 x y h2.1 h2.2.1 h2.2.2.1 h2.2.2.2
theorem qby(h:P00/\∃ x y,P20 x y/\P21 x y/\P22 x y/\P23 x y/\P24 x y)(k:P00->∀ x y,P20 x y->P21 x y->P22 x y->P23 x y->P24 x y->G):G:=h.2.elim fun x h1=>h1.elim fun y h2=>k h.1 x y h2.1 h2.2.1 h2.2.2.1 h2.2.2.2.1 h2.2.2.2.2
theorem qp7(h:∃ x,P10 x/\P11 x/\P12 x/\P13 x/\P14 x)(k:∀ x,P10 x->P11 x->P12 x->P13 x->P14 x->G):G:=h.elim fun x h1=>k x h1.1 h1.2.1 h1.2.2.1 h1.2.2.2.1 h1.2.2.2.2
theorem qoH(h:∃ x y,P20 x y/\P21 x y/\∃ z,P30 x y z/\P31 x y z)(k:∀ x y,P20 x y->P21 x y->∀ z,P30 x y z->P31 x y z->G):G:=h.elim fun x h1=>h1.elim fun y h2=>h2.2.2.elim fun z h3=>k x y h2.1 h2.2.1 z h3.1 h3.2
theorem oA(h:P00/\P01)(k:P00->P01->G):G:=k h.1 h.2
theorem qkC(h:P00/\P01/\∃ x,P10 x/\P11 x/\P12 x)(k:P00->P01->∀ x,P10 x->P11 x->P12 x->G):G:=h.2.2.elim fun x h1=>k h.1 h.2.1 x h1.1 h1.2.1 h1.2.2
theorem qlJ(h:P00/\∃ x,P10 x/\P11 x)(k:P00->∀ x,P10 x->P11 x->G):G:=h.2.elim fun x h1=>k h.1 x h1.1 h1.2
theorem oE(h:∃ x,P10 x)(k:∀ x,P10 x->G):G:=h.elim fun x h1=>k x h1
theorem qp8(h:P00/\∃ x,P10 x/\P11 x/\P12 x/\P13 x)(k:P00->∀ x,P10 x->P11 x->P12 x->P13 x->G):G:=h.2.elim fun x h1=>k h.1 x h1.1 h1.2.1 h1.2.2.1 h1.2.2.2
theorem qoI(h:∃ x,P10 x/\P11 x/\P12 x/\P13 x/\P14 x/\P15 x)(k:∀ x,P10 x->P11 x->P12 x->P13 x->P14 x->P15 x->G):G:=h.elim fun x h1=>k x h1.1 h1.2.1 h1.2.2.1 h1.2.2.2.1 h1.2.2.2.2.1 h1.2.2.2.2.2
theorem qkD(h:∃ x y z,P30 x y z/\P31 x y z/\P32 x y z/\P33 x y z/\P34 x y z/\P35 x y z)(k:∀ x y z,P30 x y z->P31 x y z->P32 x y z->P33 x y z->P34 x y z->P35 x y z->G):G:=h.elim fun x h1=>h1.elim fun y h2=>h2.elim fun z h3=>k x y z h3.1 h3.2.1 h3.2.2.1 h3.2.2.2.1 h3.2.2.2.2.1 h3.2.2.2.2.2
end
open PySem PySem.W PyProof.Rows
noncomputable def norm:Value->Value
 | .int i _=>.int i 0
 | .float b _=>.float b 0
 | .str s _=>.str s 0
 | .bytes b _=>.bytes b 0
 | v=>v
noncomputable abbrev I(i:Int):Value:=.int i 0
noncomputable abbrev S(s:Str):Value:=.str s 0
theorem qD{v:Value}{i:Int}(h:norm v=I i):∃ t,v=.int i t:=by
 cases v<;>cases h;exact⟨_,rfl⟩
theorem qH{v:Value}{x:Str}(h:norm v=S x):∃ t,v=.str x t:=by
 cases v<;>cases h;exact⟨_,rfl⟩
theorem qbM{v:Value}{b:Bool}(h:norm v=.bool b):v=.bool b:=by
 cases v<;>first | exact h | cases h
theorem qz{v:Value}{a:Addr}(h:norm v=.ref a):v=.ref a:=by
 cases v<;>first | exact h | cases h
theorem qee{v:Value}(h:norm v=.none):v=.none:=by
 cases v<;>first | exact h | cases h
theorem qhy{v:Value}{a:String}(h:norm v=.builtin a):v=.builtin a:=by
 cases v<;>first | exact h | cases h
theorem qdc{v:Value}{a:String}(h:norm v=.type a):v=.type a:=by
 cases v<;>first | exact h | cases h
theorem nmc{f:Value->Value}{p:Value}{ps vs:List Value}(h:vs.map f=p::ps):∃ v r,vs=v::r/\f v=p/\r.map f=ps:=by
 cases vs with
 | nil=>cases h
 | cons v r=>injection h with h1 h2;exact qbJ v r rfl h1 h2
theorem nm0{f:Value->Value}{vs:List Value}(h:vs.map f=[]):vs=[]:=List.map_eq_nil_iff.mp h
theorem exc{vs:List Value}{n:Nat}(h:vs.length=n+1):∃ v r,vs=v::r/\r.length=n:=by
 cases vs with
 | nil=>cases h
 | cons v r=>exact qjC v r rfl (Nat.succ.inj h)
theorem ex1{vs:List Value}(h:vs.length=1):∃ a,vs=[a]:=by
 (refine qbu (exc h) fun v r e2' g=>?_;obtain rfl:=e2')
 exact⟨v,by refine substr (List.eq_nil_of_length_eq_zero g) rfl⟩
theorem ex2{vs:List Value}(h:vs.length=2):∃ a b,vs=[a,b]:=by
 (refine qbu (exc h) fun v r e2' g=>?_;obtain rfl:=e2')
 obtain⟨b,rfl⟩:=ex1 g
 exact iEE v b rfl
theorem ex3{vs:List Value}(h:vs.length=3):∃ a b c,vs=[a,b,c]:=by
 (refine qbu (exc h) fun v r e2' g=>?_;obtain rfl:=e2')
 (refine oEE (ex2 g) fun b c e2'=>?_;obtain rfl:=e2')
 exact qp4 v b c rfl
theorem ex4{vs:List Value}(h:vs.length=4):∃ a b c d,vs=[a,b,c,d]:=by
 (refine qbu (exc h) fun v r e2' g=>?_;obtain rfl:=e2')
 (refine qd9 (ex3 g) fun b c d e3'=>?_;obtain rfl:=e3')
 exact qxa v b c d rfl
noncomputable abbrev Loc:=List (String×Value)
noncomputable def look(x:String):Loc->Option Value
 | []=>none
 | (y,v)::r=>if x=y then some v else look x r
noncomputable def put(x:String)(v:Value):Loc->Loc
 | []=>[(x,v)]
 | (y,w)::r=>if x=y then(y,v)::r else(y,w)::put x v r
theorem qxb{x:String}{v:Value}:put x v []=[(x,v)]:=rfl
theorem qfC{x y:String}{v w:Value}{r:Loc}:put x v ((y,w)::r)=if x=y then(y,v)::r else(y,w)::put x v r:=rfl
theorem look_c{x y:String}{w:Value}{r:Loc}:look x ((y,w)::r)=if x=y then some w else look x r:=rfl
theorem qb8(x:String)(v:Value)(z:String):∀ M:Loc,look z (put x v M)=if z=x then some v else look z M
 | []=>rfl
 | (y,w)::r=>by
  have ih:=qb8 x v z r
  refine substr qfC ?_
  by_cases h:x=y
  ·subst h
   refine substr (if_pos rfl) (substr look_c ?_)
   by_cases e:z=x
   ·exact(if_pos e).trans (if_pos e).symm
   ·exact(if_neg e).trans (.symm ((if_neg e).trans (look_c.trans (if_neg e))))
  ·refine substr (if_neg h) (substr look_c (substr look_c (substr ih ?_)))
   by_cases h1:z=y
   ·subst h1;simp[Ne.symm h]
   ·simp[h1]
theorem qbv{x y:String}(h:Str.ofString x=Str.ofString y):x=y:=by
 rw[Str.ofString_eq_toList,Str.ofString_eq_toList] at h
 injection h with h
 have h2:x.toList.map Char.toNat=y.toList.map Char.toNat:=by simpa using congrArg Array.toList h
 have h3:x.toList=y.toList:=by
  refine List.map_inj_right (f:=Char.toNat) ?_ |>.mp h2
  intro a b hab
  exact Char.ext (UInt32.toNat_inj.mp hab)
 exact String.ext h3
noncomputable def MRep(m:Str->Option Value)(M:Loc):Prop:=∀ x:String,(m (Str.ofString x)).map norm=look x M
theorem MRep.get{m:Str->Option Value}{M:Loc}{x:String}{p:Value}(R:MRep m M)(h:look x M=some p):∃ v,m (Str.ofString x)=some v/\norm v=p:=by
 have:=R x
 rw[h] at this
 cases hm:m (Str.ofString x) with
 | none=>rw[hm] at this;exact o_ns this
 | some v=>rw[hm] at this;exact iEA v rfl (by simpa using this)
theorem MRep.put{m:Str->Option Value}{M:Loc}{x:String}{v:Value}(R:MRep m M):MRep (fun y=>if y=Str.ofString x then some v else m y) (put x (norm v) M):=by
 intro z
 refine substr (qb8 ..) ?_
 by_cases h:z=x
 ·subst h;simp
 ·have:Str.ofString z≠Str.ofString x:=fun e=>h (qbv e)
  simp only[this,if_false,h,R z]
inductive HO where
 | seq(cls:Value)(xs:List Value)
 | flds(cls:String)(xs:List Value)
 | cell(v:Option Value)
 | ns(M:Loc)
 | plain(cls:String)
 | it(T:String)(vs:Array Value)
 | raw(o:Obj)
noncomputable def ORep(h:Heap)(a:Addr):HO->Prop
 | .seq cls xs=>∃ vs n,h.get? a=some { cls:=cls,data:=.seq vs n }/\vs.toList.map norm=xs
 | .flds cls xs=>∃ vs,h.get? a=some { cls:=.type cls,data:=.fields vs }/\vs.toList.map norm=xs
 | .cell v=>∃ u,h.IsCell a u/\u.map norm=v
 | .ns M=>∃ m,h.Ns a m/\MRep m M
 | .plain cls=>h.get? a=some { cls:=.type cls }
 | .it T vs=>∃ o,h.get? a=some o/\o.cls=.type T/\o.data=.fields vs
 | .raw o=>h.get? a=some o
theorem ORep.some{h:Heap}{a:Addr}{d:HO}(R:ORep h a d):∃ o,h.get? a=some o:=by
 cases d with
 | seq c xs=>refine qbu R fun vs n e _=>?_;exact⟨_,e⟩
 | flds c xs=>refine oEA R fun vs e _=>?_;exact⟨_,e⟩
 | cell v=>obtain⟨u,⟨o,e,_⟩,_⟩:=R;exact⟨_,e⟩
 | ns M=>obtain⟨m,⟨o,es,ep,e,_⟩,_⟩:=R;exact⟨_,e⟩
 | plain c=>exact⟨_,R⟩
 | it T vs=>refine oEA R fun o e _=>?_;exact⟨_,e⟩
 | raw o=>exact⟨_,R⟩
theorem ORep.keeps{h h':Heap}{a:Addr}{d:HO}(R:ORep h a d)(k:∀ o,h.get? a=Option.some o->h'.get? a=Option.some o):ORep h' a d:=by
 cases d with
 | seq c xs=>refine qbu R fun vs n e r=>?_;exact⟨vs,n,k _ e,r⟩
 | flds c xs=>refine oEA R fun vs e r=>?_;exact⟨vs,k _ e,r⟩
 | cell v=>obtain⟨u,⟨o,e,q⟩,r⟩:=R;exact⟨u,⟨o,k _ e,q⟩,r⟩
 | ns M=>obtain⟨m,⟨o,es,ep,e,q⟩,r⟩:=R;exact⟨m,⟨o,es,ep,k _ e,q⟩,r⟩
 | plain c=>exact k _ R
 | it T vs=>refine oEA R fun o e q=>?_;exact⟨o,k _ e,q⟩
 | raw o=>exact k _ R
noncomputable abbrev AH:=Addr->Option HO
noncomputable def upd(H:AH)(a:Addr)(d:HO):AH:=fun b=>if b=a then some d else H b
theorem upd_same{H:AH}{a:Addr}{d:HO}:upd H a d a=some d:=if_pos rfl
theorem qe{H:AH}{a b:Addr}{d:HO}(h:b≠a):upd H a d b=H b:=if_neg h
theorem qx{H:AH}{a b:Addr}{d e:HO}(ha:H a=none)(hb:H b=some e):upd H a d b=some e:=by
 rw[qe];exact hb
 intro q;rw[q,ha] at hb;exact o_ns hb
noncomputable def Sub(H H':AH):Prop:=∀ a d,H a=some d->H' a=some d
theorem Sub.refl{H:AH}:Sub H H:=fun _ _ e=>e
theorem Sub.trans{H H' H'':AH}(x:Sub H H')(y:Sub H' H''):Sub H H'':=fun a d e=>y a d (x a d e)
theorem Sub.upd{H:AH}{a:Addr}{d:HO}(ha:H a=none):Sub H (upd H a d):=fun _ _ e=>qx ha e
structure Dyn where
 A:Around
 h₀:Heap
 L:Addr
 s₀:Shared
noncomputable def Dyn.fs(D:Dyn):List Addr:=((D.A.frames.getD []).drop 1).filterMap (·.frame)
noncomputable abbrev Turn(D:Dyn)(g:Heap):Prop:=KtsTurn D.fs D.h₀ g
theorem Turn.back{D:Dyn}{g:Heap}(T:Turn D g){b:Addr}(h:g.get? b=none):D.h₀.get? b=none:=by
 cases q:D.h₀.get? b with
 | none=>rfl
 | some o=>obtain⟨sl,hs⟩:=KtsTurn.up T q;rw[h] at hs;exact o_ns hs
structure At(D:Dyn)(s:Shared)(M:Loc)(H:AH):Prop where
 fr:∃ g m,Turn D g/\Fr g D.L s.heap m/\MRep m M
 own:∀ a d,H a=some d->a≠D.L/\D.h₀.get? a=none/\ORep s.heap a d
 gens:s.gens=D.s₀.gens
 drawn:s.drawn=D.s₀.drawn
 os:s.os=D.s₀.os
theorem At.sub{D:Dyn}{s:Shared}{M:Loc}{H H':AH}(a:At D s M H)(x:Sub H' H):At D s M H':=
 ⟨a.fr,fun b d e=>a.own b d (x b d e),a.gens,a.drawn,a.os⟩
theorem At.toks{D:Dyn}{s:Shared}{M:Loc}{H:AH}(a:At D s M H)(t:Nat):At D { s with toks:=t } M H:=⟨a.fr,a.own,a.gens,a.drawn,a.os⟩
theorem At.fresh{D:Dyn}{s:Shared}{M:Loc}{H:AH}(a:At D s M H):H s.heap.objs.size=none:=by
 cases h:H s.heap.objs.size with
 | none=>rfl
 | some d=>obtain⟨o,e⟩:=(a.own _ _ h).2.2.some;exact absurd (Heap.lt_size e) (Nat.lt_irrefl _)
theorem At.grow{D:Dyn}{s s':Shared}{M:Loc}{H:AH}(a:At D s M H)(hk:∀ b o,s.heap.get? b=some o->s'.heap.get? b=some o)
 (hg:s'.gens=s.gens:=by rfl) (hd:s'.drawn=s.drawn:=by rfl) (ho:s'.os=s.os:=by rfl):At D s' M H:=by
 refine qR a.fr fun g m T F R=>?_
 refine⟨(qbJ g m T ⟨F.ns.keeps hk,fun b o e=>hk b o (F.keep b o e),F.above⟩ R),fun b d e=>?_,hg.trans a.gens,hd.trans a.drawn,ho.trans a.os⟩
 refine oAA (a.own b d e) fun h1 h2 h3=>?_
 exact iAA h1 h2 (h3.keeps fun o=>hk b o)
theorem At.ltL{D:Dyn}{s:Shared}{M:Loc}{H:AH}(a:At D s M H):D.L<s.heap.objs.size:=by
 refine qR a.fr fun g m T F R=>?_
 refine qhl F.ns fun o _ _ e _=>?_
 exact Heap.lt_size e
theorem At.newNone{D:Dyn}{s:Shared}{M:Loc}{H:AH}(a:At D s M H){b:Addr}(hb:s.heap.get? b=none):D.h₀.get? b=none:=by
 refine qR a.fr fun g m T F R=>?_
 cases h:D.h₀.get? b with
 | none=>rfl
 | some o=>obtain⟨sl,h⟩:=T.up h;rw[F.keep _ _ h] at hb;exact o_sn hb
theorem At.add{D:Dyn}{s:Shared}{M:Loc}{H:AH}(a:At D s M H){b:Addr}{d:HO}(hb:b≠D.L)(h0:D.h₀.get? b=none)(R:ORep s.heap b d):At D s M (upd H b d):=by
 refine⟨a.fr,fun c e q=>?_,a.gens,a.drawn,a.os⟩
 unfold upd at q
 split at q
 ·rename_i hc;cases q;refine substr hc ?_;exact iAA hb h0 R
 ·exact a.own c e q
theorem At.alloc{D:Dyn}{s:Shared}{M:Loc}{H:AH}(a:At D s M H){o:Obj}{d:HO}(hf:o.isFreed=false)(R:∀ h:Heap,h.get? s.heap.objs.size=some o->ORep h s.heap.objs.size d):
 At D { s with heap:=s.heap.push o } M (upd H s.heap.objs.size d):=by
 refine(a.grow (s':={ s with heap:=s.heap.push o }) fun b o' e=>Heap.get?_push_of_some o e).add (Nat.ne_of_gt a.ltL) ?_ (R _ (Heap.get?_push_size _ hf))
 exact a.newNone (Heap.get?_none_of_le (Nat.le_refl _))
theorem At.change{D:Dyn}{s:Shared}{M:Loc}{H:AH}(a:At D s M H){b:Addr}{d d':HO}(hb:H b=some d){h':Heap}(hs:Heap.SameBut b s.heap h')(R:ORep h' b d'):At D { s with heap:=h' } M (upd H b d'):=by
 refine qR a.fr fun g m T F Rm=>?_
 refine oAA (a.own b d hb) fun h1 h2 h3=>?_
 refine⟨(qbJ g m T ⟨F.ns.sameBut hs (Ne.symm h1),fun c o e=>(hs.2 c fun q=>?_).trans (F.keep c o e),F.above⟩ Rm),fun c e q=>?_,a.gens,a.drawn,a.os⟩
 ·rw[q,T.none_ _ h2] at e;exact o_ns e
 ·unfold upd at q
  split at q
  ·rename_i hc;cases q;refine substr hc ?_;exact iAA h1 h2 R
  ·rename_i hc
   refine oAA (a.own c e q) fun k1 k2 k3=>?_
   exact iAA k1 k2 (k3.keeps fun o ho=>(hs.2 c hc).trans ho)
theorem At.store{D:Dyn}{s s':Shared}{M:Loc}{H:AH}(a:At D s M H){x:String}{v:Value}
 (h:∀ g m,Fr g D.L s.heap m->Fr g D.L s'.heap (fun y=>if y=Str.ofString x then some v else m y)) (hs:Heap.SameBut D.L s.heap s'.heap)
 (hg:s'.gens=s.gens:=by rfl) (hd:s'.drawn=s.drawn:=by rfl) (ho:s'.os=s.os:=by rfl):At D s' (put x (norm v) M) H:=by
 refine qR a.fr fun g m T F R=>?_
 refine⟨(qbJ g _ T (h g m F) R.put),fun b d e=>?_,hg.trans a.gens,hd.trans a.drawn,ho.trans a.os⟩
 refine oAA (a.own b d e) fun k1 k2 k3=>?_
 exact iAA k1 k2 (k3.keeps fun o ho=>(hs.2 b k1).trans ho)
section
variable{Mo:Model}{D:Dyn}{α β:Type}{M:Loc}{H:AH}{E:Value->Shared->Prop}
inductive Post(D:Dyn)(Φ:α->Loc->AH->Prop)(a:α)(s:Shared):Prop
 | mk(M:Loc)(H:AH)(at_:At D s M H)(k:Φ a M H)
noncomputable def WX(Mo:Model)(D:Dyn)(t:Sem α)(M:Loc)(H:AH)(Φ:α->Loc->AH->Prop)(E:Value->Shared->Prop):Prop:=
 ∀ s,At D s M H->wpAny Mo D.A t (Post D Φ) E s
noncomputable abbrev WV(Mo:Model)(D:Dyn)(t:Sem Value)(M:Loc)(H:AH)(Φ:Value->Loc->AH->Prop)(E:Value->Shared->Prop):Prop:=WX Mo D t M H (fun v=>Φ (norm v)) E
theorem Post.el{Φ:α->Loc->AH->Prop}{a:α}{s:Shared}{G:Prop}(q:Post D Φ a s)(k:∀ M H,At D s M H->Φ a M H->G):G:=by
 cases q with | mk M H x y=>exact k M H x y
theorem qkE{A:Around}{t:Sem α}{Q:α->Shared->Prop}{s:Shared}(h:∀ R:α->Shared->Prop,(∀ a s',Q a s'->R a s')->wpAny Mo A t R E s):wpAny Mo A t Q E s:=h Q fun _ _ x=>x
theorem qck{a:α}{Φ:α->Loc->AH->Prop}(h:Φ a M H):WX Mo D (pure a) M H Φ E:=fun _ hs=>wpAny_pure ⟨_,_,hs,h⟩
theorem qaO{m:Sem α}{f:α->Sem β}{Φ:β->Loc->AH->Prop}(h:WX Mo D m M H (fun a M' H'=>WX Mo D (f a) M' H' Φ E) E):WX Mo D (m >>= f) M H Φ E:=
 fun s hs=>wpAny_bind (wpAny_mono (h s hs) (fun _ s' q'=>Post.el q' fun _ _ hs' h'=>h' s' hs') fun _ _ x=>x)
theorem qM{t:Sem α}{Φ Φ':α->Loc->AH->Prop}(h:WX Mo D t M H Φ E)(hq:∀ a M' H',Φ a M' H'->Φ' a M' H'):WX Mo D t M H Φ' E:=
 fun s hs=>wpAny_mono (h s hs) (fun a _ q'=>Post.el q' fun M' H' hs' h'=>⟨M',H',hs',hq a M' H' h'⟩) fun _ _ x=>x
theorem qog{t:Sem α}{Φ:α->Loc->AH->Prop}{H':AH}(h:WX Mo D t M H' Φ E)(x:Sub H' H):WX Mo D t M H Φ E:=fun s hs=>h s (hs.sub x)
theorem qdd{vs:List Value}{t:Sem α}{Φ:α->Loc->AH->Prop}(h:WX Mo D t M H Φ E):WX Mo D (holding vs t) M H Φ E:=fun s hs=>wpAny_holding (h s hs)
theorem qef{p:Pos}{Φ:Unit->Loc->AH->Prop}(h:Φ () M H):WX Mo D (standAt p) M H Φ E:=fun _ hs=>wpAny_standAt ⟨_,_,hs,h⟩
theorem qzR{c:Prop}[Decidable c]{a b:Sem α}{Φ:α->Loc->AH->Prop}(h1:c->WX Mo D a M H Φ E)(h2:¬ c->WX Mo D b M H Φ E):WX Mo D (if c then a else b) M H Φ E:=by
 split
 ·exact h1 ‹_›
 ·exact h2 ‹_›
theorem Post.map{f:α->β}{Φ:β->Loc->AH->Prop}{a:α}{s:Shared}(h:Post D (fun a=>Φ (f a)) a s):Post D Φ (f a) s:=by
 obtain⟨M,H,h1,h2⟩:=h
 exact⟨M,H,h1,h2⟩
theorem Post.here{Φ:α->Loc->AH->Prop}{a:α}{s:Shared}(hs:At D s M H)(h:Φ a M H):Post D Φ a s:=⟨_,_,hs,h⟩
end
variable{w:World}{prog:Program}{D:Dyn}{M:Loc}{H:AH}{E:Value->Shared->Prop}{env:Env}{n:Nat}{Φ:Value->Loc->AH->Prop}
section
variable{Mo:Model}
theorem qw{i:Int}{k:Nat}{pos:Pos}{Φ:Value->Loc->AH->Prop}(h:Φ (I i) M H):WV Mo D (eval (.Constant (.int i) k pos) env) M H Φ E:=
 fun _ hs=>wpAny_Constant_int ⟨_,_,hs.toks _,h⟩
theorem qQ{x:Str}{k:Nat}{pos:Pos}{Φ:Value->Loc->AH->Prop}(h:Φ (S x) M H):WV Mo D (eval (.Constant (.str x) k pos) env) M H Φ E:=
 fun _ hs=>Calls.Constant_str ⟨_,_,hs.toks _,h⟩
theorem qcb{b:Bool}{k:Nat}{pos:Pos}{Φ:Value->Loc->AH->Prop}(h:Φ (.bool b) M H):WV Mo D (eval (.Constant (.bool b) k pos) env) M H Φ E:=
 fun _ hs=>Constant_bool ⟨_,_,hs,h⟩
theorem qzO{k:Nat}{pos:Pos}{Φ:Value->Loc->AH->Prop}(h:Φ .none M H):WV Mo D (eval (.Constant .none k pos) env) M H Φ E:=
 fun _ hs=>Constant_none ⟨_,_,hs,h⟩
noncomputable abbrev qoh(t:Value->Value->Sem Value)(Mo:Model)(D:Dyn)(p:Value)(Φ:Value->Loc->AH->Prop)(E:Value->Shared->Prop):Value->Loc->AH->Prop:=fun q M2 H2=>∀ v u,norm v=p->norm u=q->WV Mo D (t v u) M2 H2 Φ E
noncomputable abbrev qjD(t:Value->Value->Sem Value)(Mo:Model)(D:Dyn)(r:Expr)(env:Env)(Φ:Value->Loc->AH->Prop)(E:Value->Shared->Prop):Value->Loc->AH->Prop:=fun p M1 H1=>WV Mo D (eval r env) M1 H1 (qoh t Mo D p Φ E) E
noncomputable abbrev qxc(Φ:Bool->Loc->AH->Prop):Bool->Loc->AH->Prop:=fun b=>Φ (!b)
noncomputable abbrev qxd(Φ:Value->Loc->AH->Prop):Bool->Loc->AH->Prop:=fun b=>Φ (.bool (!b))
noncomputable abbrev qp9(Mo:Model)(D:Dyn)(Φ:Bool->Loc->AH->Prop)(E:Value->Shared->Prop):Value->Loc->AH->Prop:=fun p M1 H1=>∀ v,norm v=p->WX Mo D (truthy v) M1 H1 Φ E
structure qzj(Mo:Model)(D:Dyn)(r:List Expr)(env:Env)(Φ:Bool->Loc->AH->Prop)(E:Value->Shared->Prop)(b:Bool)(M1:Loc)(H1:AH):Prop where
 t:b=true->WX Mo D (allTrue .And r env) M1 H1 Φ E
 f:b=false->Φ false M1 H1
structure KOr(Mo:Model)(D:Dyn)(r:List Expr)(env:Env)(Φ:Bool->Loc->AH->Prop)(E:Value->Shared->Prop)(b:Bool)(M1:Loc)(H1:AH):Prop where
 f:b=false->WX Mo D (allTrue .Or r env) M1 H1 Φ E
 t:b=true->Φ true M1 H1
structure qxe(Mo:Model)(D:Dyn)(e:Expr)(env:Env)(Φ:Value->Loc->AH->Prop)(E:Value->Shared->Prop)(b:Bool)(M1:Loc)(H1:AH):Prop where
 t:b=true->WV Mo D (eval e env) M1 H1 Φ E
 f:b=false->Φ (.bool false) M1 H1
structure qzk(Mo:Model)(D:Dyn)(e:Expr)(env:Env)(Φ:Value->Loc->AH->Prop)(E:Value->Shared->Prop)(b:Bool)(M1:Loc)(H1:AH):Prop where
 f:b=false->WV Mo D (eval e env) M1 H1 Φ E
 t:b=true->Φ (.bool true) M1 H1
structure qzl(Mo:Model)(D:Dyn)(a b:Expr)(env:Env)(Φ:Value->Loc->AH->Prop)(E:Value->Shared->Prop)(c:Bool)(M1:Loc)(H1:AH):Prop where
 t:c=true->WV Mo D (eval a env) M1 H1 Φ E
 f:c=false->WV Mo D (eval b env) M1 H1 Φ E
theorem qK{l r:Expr}{op:Operator}{pos:Pos}{Φ:Value->Loc->AH->Prop}
 (h:WV Mo D (eval l env) M H (qjD (binaryOp op) Mo D r env Φ E) E):
 WV Mo D (eval (.BinOp l op r pos) env) M H Φ E:=
 fun s hs=>wpAny_BinOp (wpAny_mono (h s hs) (fun _ s1 q'=>Post.el q' fun _ _ hs1 h1=>wpAny_mono (h1 s1 hs1) (fun _ s2 q'=>Post.el q' fun _ _ hs2 h2=>h2 _ _ rfl rfl s2 hs2) fun _ _ x=>x) fun _ _ x=>x)
theorem qcx{l r:Expr}{op:CmpOp}{pos:Pos}{Φ:Value->Loc->AH->Prop}
 (h:WV Mo D (eval l env) M H (qjD (compareOp op) Mo D r env Φ E) E)
 (hm:behindInMarks op r=false:=by rfl):
 WV Mo D (eval (.Compare l [op] [r] pos) env) M H Φ E:=
 fun s hs=>wpAny_Compare1 (wpAny_mono (h s hs) (fun _ s1 q'=>Post.el q' fun _ _ hs1 h1=>wpAny_mono (h1 s1 hs1) (fun _ s2 q'=>Post.el q' fun _ _ hs2 h2=>h2 _ _ rfl rfl s2 hs2) fun _ _ x=>x) fun _ _ x=>x) hm
inductive AsB(Φ:Bool->Loc->AH->Prop)(v:Value)(M:Loc)(H:AH):Prop
 | mk(b:Bool)(e:v=.bool b)(k:Φ b M H)
theorem asB{Φ:Bool->Loc->AH->Prop}{b:Bool}(h:Φ b M H):AsB Φ (.bool b) M H:=⟨b,rfl,h⟩
theorem qO{l r:Expr}{op:CmpOp}{pos:Pos}{whole:Sem Value}{Φ:Bool->Loc->AH->Prop}
 (h:WV Mo D (eval l env) M H (qjD (compareOp op) Mo D r env (AsB Φ) E) E)
 (hm:behindInMarks op r=false:=by rfl):
 WX Mo D (isTrue (.Compare l [op] [r] pos) env whole) M H Φ E:=
 fun s hs=>wpAny_isTrue_Compare1 (wpAny_mono (h s hs) (fun _ s1 q'=>Post.el q' fun _ _ hs1 h1=>wpAny_mono (h1 s1 hs1) (fun _ s2 q'=>Post.el q' fun _ _ hs2 h2=>wpAny_mono (h2 _ _ rfl rfl s2 hs2)
  (fun c s3 ⟨M3,H3,hs3,b,hb,h3⟩=>by refine substr (qbM hb) ?_;exact wpAny_truthy_bool ⟨M3,H3,hs3,h3⟩) fun _ _ x=>x) fun _ _ x=>x) fun _ _ x=>x) hm
theorem qfD{x:Expr}{pos:Pos}{whole:Sem Value}{Φ:Bool->Loc->AH->Prop}(h:WX Mo D (isTrue x env (eval x env)) M H (qxc Φ) E):
 WX Mo D (isTrue (.UnaryOp .Not x pos) env whole) M H Φ E:=fun s hs=>isTrue_not (wpAny_mono (h s hs) (fun _ _ p=>p.map (f:=fun b=>!b)) fun _ _ x=>x)
noncomputable def Tru(p:Value)(b:Bool)(H:AH):Prop:=(p=.bool b)\/(∃ i,p=I i/\b=(i != 0))\/(∃ x,p=S x/\b=!(x.length==0))\/(∃ l xs,p=.ref l/\H l=some (.seq (.type "list") xs)/\b=!xs.isEmpty)
theorem qao{e:Expr}{whole:Sem Value}{Φ:Bool->Loc->AH->Prop}(h:WV Mo D whole M H (qp9 Mo D Φ E) E)
 (he:isTrue e env whole=(do let v <- whole;standAt e.pos;holding [v] (truthy v)):=by rfl):WX Mo D (isTrue e env whole) M H Φ E:=
 fun s hs=>isTrue_plain (wpAny_mono (h s hs) (fun _ s1 q'=>Post.el q' fun _ _ hs1 h1=>h1 _ rfl s1 hs1) fun _ _ x=>x) he
theorem qcA{b:Bool}{Φ:Bool->Loc->AH->Prop}(h:Φ b M H):∀ v,norm v=.bool b->WX Mo D (truthy v) M H Φ E:=
 fun v hv s hs=>by refine substr (qbM hv) ?_;exact wpAny_truthy_bool ⟨_,_,hs,h⟩
theorem qcN{Φ:Bool->Loc->AH->Prop}(h:Φ true M H):WX Mo D (allTrue .And [] env) M H Φ E:=fun _ hs=>wpAny_pure ⟨_,_,hs,h⟩
theorem qkF{Φ:Bool->Loc->AH->Prop}(h:Φ false M H):WX Mo D (allTrue .Or [] env) M H Φ E:=fun _ hs=>wpAny_pure ⟨_,_,hs,h⟩
theorem qaG{x:Expr}{r:List Expr}{Φ:Bool->Loc->AH->Prop}
 (h:WX Mo D (isTrue x env (eval x env)) M H (qzj Mo D r env Φ E) E):
 WX Mo D (allTrue .And (x::r) env) M H Φ E:=by
 refine substr (arm_allTrue_cons ..) ?_
 refine qaO (qM h fun b M1 H1 k=>?_)
 cases b with
 | true=>exact k.1 rfl
 | false=>exact qck (k.2 rfl)
theorem qfE{x:Expr}{r:List Expr}{Φ:Bool->Loc->AH->Prop}
 (h:WX Mo D (isTrue x env (eval x env)) M H (KOr Mo D r env Φ E) E):
 WX Mo D (allTrue .Or (x::r) env) M H Φ E:=by
 refine substr (arm_allTrue_cons ..) ?_
 refine qaO (qM h fun b M1 H1 k=>?_)
 cases b with
 | false=>exact k.1 rfl
 | true=>exact qck (k.2 rfl)
theorem qdz{op:BoolOp}{es:List Expr}{pos:Pos}{whole:Sem Value}{Φ:Bool->Loc->AH->Prop}(h:WX Mo D (allTrue op es env) M H Φ E):
 WX Mo D (isTrue (.BoolOp op es pos) env whole) M H Φ E:=h
theorem qoi{e e2:Expr}{r:List Expr}{pos:Pos}{Φ:Value->Loc->AH->Prop}
 (h:WV Mo D (eval e env) M H (AsB (qxe Mo D (.BoolOp .And (e2::r) pos) env Φ E)) E):
 WV Mo D (eval (.BoolOp .And (e::e2::r) pos) env) M H Φ E:=
 fun s hs=>BoolOp_and (wpAny_mono (h s hs) (fun c s1 ⟨M1,H1,hs1,b,hb,k⟩=>by
  refine substr (qbM hb) ?_
  refine wpAny_truthy_bool ?_
  cases b with
  | true=>exact k.1 rfl s1 hs1
  | false=>exact⟨M1,H1,hs1,k.2 rfl⟩) fun _ _ x=>x)
theorem qqa{e e2:Expr}{r:List Expr}{pos:Pos}{Φ:Value->Loc->AH->Prop}
 (h:WV Mo D (eval e env) M H (AsB (qzk Mo D (.BoolOp .Or (e2::r) pos) env Φ E)) E):
 WV Mo D (eval (.BoolOp .Or (e::e2::r) pos) env) M H Φ E:=
 fun s hs=>BoolOp_or (wpAny_mono (h s hs) (fun c s1 ⟨M1,H1,hs1,b,hb,k⟩=>by
  refine substr (qbM hb) ?_
  refine wpAny_truthy_bool ?_
  cases b with
  | false=>exact k.1 rfl s1 hs1
  | true=>exact⟨M1,H1,hs1,k.2 rfl⟩) fun _ _ x=>x)
theorem qgg{op:BoolOp}{e:Expr}{pos:Pos}{Φ:Value->Loc->AH->Prop}(h:WV Mo D (eval e env) M H Φ E):WV Mo D (eval (.BoolOp op [e] pos) env) M H Φ E:=
 fun s hs=>BoolOp_one (h s hs)
theorem qxf{x:Expr}{pos:Pos}{Φ:Value->Loc->AH->Prop}(h:WV Mo D (eval x env) M H (qp9 Mo D (qxd Φ) E) E):
 WV Mo D (eval (.UnaryOp .Not x pos) env) M H Φ E:=
 fun s hs=>UnaryOp_ (wpAny_mono (h s hs) (fun _ s1 q'=>Post.el q' fun _ _ hs1 h1=>not_of (wpAny_mono (h1 _ rfl s1 hs1) (fun c _ p=>p.map (f:=fun c=>Value.bool !c) (Φ:=fun v=>Φ (norm v))) fun _ _ x=>x)) fun _ _ x=>x)
theorem qdA{t a b:Expr}{pos:Pos}{Φ:Value->Loc->AH->Prop}
 (h:WX Mo D (isTrue t env (eval t env)) M H (qzl Mo D a b env Φ E) E):
 WV Mo D (eval (.IfExp t a b pos) env) M H Φ E:=
 fun s hs=>IfExp_ (wpAny_mono (h s hs) (fun c s1 q'=>Post.el q' fun _ _ hs1 k=>by
  cases c with
  | true=>exact k.1 rfl s1 hs1
  | false=>exact k.2 rfl s1 hs1) fun _ _ x=>x)
theorem qW{value slice:Expr}{pos:Pos}{Φ:Value->Loc->AH->Prop}
 (h:WV Mo D (eval value env) M H (qjD (subscriptTail value slice) Mo D slice env Φ E) E):
 WV Mo D (eval (.Subscript value slice pos) env) M H Φ E:=
 fun s hs=>Subscript_ (wpAny_mono (h s hs) (fun _ s1 q'=>Post.el q' fun _ _ hs1 h1=>wpAny_mono (h1 s1 hs1) (fun _ s2 q'=>Post.el q' fun _ _ hs2 h2=>h2 _ _ rfl rfl s2 hs2) fun _ _ x=>x) fun _ _ x=>x)
theorem qe1(slice:Expr)(o i:Value):∃ ops,subscripted slice false o i=operate ops (getItem o i):=by
 cases slice with
 | Slice a b c d=>cases c<;>exact⟨_,rfl⟩
 | _=>exact⟨_,rfl⟩
noncomputable def WO(Mo:Model)(D:Dyn)(e:Option Expr)(env:Env)(M:Loc)(H:AH)(Φ:Value->Loc->AH->Prop)(E:Value->Shared->Prop):Prop:=
 match e with
 | none=>Φ .none M H
 | some e=>WV Mo D (eval e env) M H Φ E
theorem qiB{e:Option Expr}{Φ:Value->Loc->AH->Prop}(h:WO Mo D e env M H Φ E):WV Mo D (valueOrNone (evalOpt e env)) M H Φ E:=by
 cases e with
 | none=>exact qck (by exact h)
 | some e=>exact h
noncomputable def isInt(p:Value):Option (Option Int):=match p with
 | .none=>some none
 | .int i _=>some (some i)
 | _=>none
noncomputable abbrev qzm(a:Value)(Φ:Value->Loc->AH->Prop):Value->Loc->AH->Prop:=fun b M2 H2=>∀ r,H2 r=none->Φ (.ref r) M2 (upd H2 r (.flds "slice" [a,b,.none]))
noncomputable abbrev KSl(Mo:Model)(D:Dyn)(up:Option Expr)(env:Env)(Φ:Value->Loc->AH->Prop)(E:Value->Shared->Prop):Value->Loc->AH->Prop:=fun a M1 H1=>WO Mo D up env M1 H1 (qzm a Φ) E
theorem qaN{lo up:Option Expr}{pos:Pos}{Φ:Value->Loc->AH->Prop}
 (h:WO Mo D lo env M H (KSl Mo D up env Φ E) E):
 WV Mo D (eval (.Slice lo up none pos) env) M H Φ E:=by
 show WX Mo D (eval (.Slice lo up none pos) env) M H _ E
 refine substr (arm_eval_Slice ..) ?_
 refine qaO (qM (qiB h) fun a M1 H1 h1=>?_)
 refine qaO (qdd (qM (qiB h1) fun b M2 H2 h2=>?_))
 refine qaO (qdd (qck ?_))
 intro s hs
 unfold newFields
 refine wpAny_newObj_type ⟨_,_,hs.alloc (d:=.flds "slice" [norm a,norm b,.none]) rfl fun h e=>⟨_,e,rfl⟩,h2 _ hs.fresh⟩ (by show 3<=sizeLine+2;decide)
end
noncomputable def qt{α:Type}(x:String):List (String×α)->Option α
 | []=>none
 | (y,v)::r=>if x=y then some v else qt x r
theorem qiC{α:Type}{x y:String}{v:α}{r:List (String×α)}:qt x ((y,v)::r)=if x=y then some v else qt x r:=rfl
theorem qaI{α:Type}(x:String):∀ ks:List (String×α),(ks.map fun p=>(Str.ofString p.1,p.2)).lookup (Str.ofString x)=qt x ks
 | []=>rfl
 | (y,v)::r=>by
  refine substr map_cons (substr List.lookup_cons ?_)
  refine substr qiC ?_
  by_cases h:x=y
  ·subst h;simp
  ·have:(Str.ofString x==Str.ofString y)=false:=beq_eq_false_iff_ne.mpr fun e=>h (qbv e)
   simp only[this,h,if_false]
   exact qaI x r
structure KE(env:Env)(ks:List (String×NameKind)):Prop where
 kind:env.scope.kind=.function
 glob:env.globals=mainGlobals
 blt:env.builtins=builtinsNs
 names:env.scope.names=ks.map fun p=>(Str.ofString p.1,p.2)
 nodebug:qt "__debug__" ks=none
theorem KE.of{env:Env}{ks:List (String×NameKind)}{x:String}{k:NameKind}(e:KE env ks)(h:qt x ks=some k):env.kindOf (Str.ofString x)=some k:=by
 unfold Env.kindOf
 refine substr e.names (substr (qaI ..) (substr h rfl))
theorem KE.nd{env:Env}{ks:List (String×NameKind)}{x:String}{k:NameKind}(e:KE env ks)(h:qt x ks=some k):(Str.ofString x==("__debug__":Str))=false:=
 beq_eq_false_iff_ne.mpr fun q=>by
  have:=qbv q
  rw[this,e.nodebug] at h
  exact o_ns h
theorem KE.pl{env:Env}{ks:List (String×NameKind)}(e:KE env ks):(env.scope.kind==.class||(env.scope.kind==.module&&env.locals != env.globals))=false:=by refine substr e.kind ?_;rfl
structure GL(gl bl:List (String×Value))(h₀:Heap):Prop where
 ex:∃ mg mb,h₀.Ns mainGlobals mg/\h₀.Ns builtinsNs mb/\(∀ x v,qt x gl=some v->mg (Str.ofString x)=some v/\norm v=v) /\
  (∀ x v,qt x bl=some v->mg (Str.ofString x)=none/\mb (Str.ofString x)=some v/\norm v=v)
noncomputable def GLs(gl bl:List (String×Value))(D:Dyn):Prop:=∀ g,Turn D g->GL gl bl g
section
variable{Mo:Model}{M M':Loc}{H H':AH}{ks:List (String×NameKind)}{gl bl:List (String×Value)}
noncomputable def qde(Mo:Model)(D:Dyn)(env:Env)(x:String)(p:Value)(M:Loc)(H:AH):Prop:=
 ∀ s,At D s M H->∀(E:Value->Shared->Prop) (Q:Value->Shared->Prop),(∀ v,norm v=p->Q v s)->wpAny Mo D.A (loadName env (Str.ofString x)) Q E s
noncomputable def qcB(Mo:Model)(D:Dyn)(env:Env)(x:String)(p:Value)(M:Loc)(H:AH)(M':Loc)(H':AH):Prop:=
 ∀ s,At D s M H->∀(E:Value->Shared->Prop) (Q:Unit->Shared->Prop) v,norm v=p->(∀ s',At D s' M' H'->Q () s')->wpAny Mo D.A (storeName env (Str.ofString x) v) Q E s
theorem qfe{x:String}{p:Value}(ke:KE env ks)(hl:env.locals=D.L)(hk:qt x ks=some .local)(hv:look x M=some p):qde Mo D env x p M H:=by
 intro s hs E Q h
 refine qR hs.fr fun g m T F R=>?_
 refine oEA (R.get hv) fun v h1 h2=>?_
 exact wpAny_loadName_local ke.kind (ke.of hk) (hl▸F.ns) h1 (h v h2)
theorem qiD{x:String}{p:Value}{Lc:Addr}{Mc:Loc}(ke:KE env ks)(hl:env.locals=Lc)(hk:qt x ks=some .local)(hc:H Lc=some (.ns Mc))(hv:look x Mc=some p):qde Mo D env x p M H:=by
 intro s hs E Q h
 refine qbI (hs.own _ _ hc) fun _ _ m hn R=>?_
 refine oEA (R.get hv) fun v h1 h2=>?_
 exact wpAny_loadName_local ke.kind (ke.of hk) (hl▸hn) h1 (h v h2)
theorem qiE{x:String}{p:Value}{c:Addr}(ke:KE env ks)(hk:qt x ks=some .cell)(hc:env.cells.lookup (Str.ofString x)=some c)(hv:H c=some (.cell (some p))):qde Mo D env x p M H:=by
 intro s hs E Q h
 refine qbI (hs.own _ _ hv) fun _ _ u hi hu=>?_
 cases u with
 | none=>exact o_ns hu
 | some v=>exact wpAny_loadName_cell ke.kind (ke.of hk) hc hi (h v (by simpa using hu))
theorem qiF{x:String}{p:Value}{c:Addr}(ke:KE env ks)(hk:qt x ks=some .free)(hc:env.cells.lookup (Str.ofString x)=some c)(hv:H c=some (.cell (some p)))
 (hn:qt "__classdict__" ks=none:=by rfl):qde Mo D env x p M H:=by
 intro s hs E Q h
 refine qbI (hs.own _ _ hv) fun _ _ u hi hu=>?_
 cases u with
 | none=>exact o_ns hu
 | some v=>
  refine wpAny_loadName_free ke.kind (ke.of hk) hc hi (h v (by simpa using hu)) (beq_eq_false_iff_ne.mpr fun q=>?_)
  have:=qbv q
  rw[this,hn] at hk
  exact o_ns hk
theorem qoJ{x:String}{p:Value}(ke:KE env ks)(gs:GLs gl bl D)(hk:qt x ks=some .globalImplicit)(hv:qt x gl=some p):qde Mo D env x p M H:=by
 intro s hs E Q h
 refine qR hs.fr fun g m T F _=>?_
 refine qhu ((gs g T).ex) fun mg mb h1 h2 h3 _=>?_
 obtain⟨e1,e2⟩:=h3 x p hv
 refine substr (loadName_read ke.kind (ke.of hk)) ?_
 exact Calls.loadGlobal_global (ke.glob▸h1.keeps F.keep) e1 (h p e2)
theorem qkG{x:String}{p:Value}(ke:KE env ks)(gs:GLs gl bl D)(hk:qt x ks=some .globalImplicit)(hv:qt x bl=some p):qde Mo D env x p M H:=by
 intro s hs E Q h
 refine qR hs.fr fun g m T F _=>?_
 refine qhu ((gs g T).ex) fun mg mb h1 h2 _ h3=>?_
 refine oAA (h3 x p hv) fun e0 e1 e2=>?_
 refine substr (loadName_read ke.kind (ke.of hk)) ?_
 exact Calls.loadGlobal_builtin (ke.glob▸h1.keeps F.keep) e0 (ke.blt▸h2.keeps F.keep) e1 (h p e2)
theorem qdB{x:String}{p:Value}{pos:Pos}{k:NameKind}{Φ:Value->Loc->AH->Prop}(ke:KE env ks)(hk:qt x ks=some k)(l:qde Mo D env x p M H)(h:Φ p M H):
 WV Mo D (eval (.Name (Str.ofString x) pos) env) M H Φ E:=
 fun s hs=>wpAny_Name (l s hs E _ fun v hv=>⟨M,H,hs,by show Φ (norm v) M H;refine substr hv ?_;exact h⟩) (ke.nd hk)
theorem qhz{x:String}{p:Value}(ke:KE env ks)(hl:env.locals=D.L)(hk:qt x ks=some .local):qcB Mo D env x p M H (put x p M) H:=by
 intro s hs E Q v hv h
 refine qR hs.fr fun g m T F R=>?_
 refine wpAny_storeName_local (ke.of hk) (hl▸F.ns) (fun h' hn hb=>h _ ?_) ke.pl
 rw[hl] at hb
 refine substr hv.symm ?_
 have hF:∀ m',Fr g D.L s.heap m'->h'.Ns env.locals (fun y=>if y=Str.ofString x then some v else m y)->Fr g D.L h' (fun y=>if y=Str.ofString x then some v else m y):=
  fun _ F' hn'=>F'.set (hl▸hn') hb
 refine⟨(qbJ g _ T (hF m F hn) R.put),fun b d e=>?_,hs.gens,hs.drawn,hs.os⟩
 refine oAA (hs.own b d e) fun k1 k2 k3=>?_
 exact iAA k1 k2 (k3.keeps fun o ho=>(hb.2 b k1).trans ho)
theorem qoK{x:String}{p:Value}{Lc:Addr}{Mc:Loc}(ke:KE env ks)(hl:env.locals=Lc)(hk:qt x ks=some .local)(hc:H Lc=some (.ns Mc)):qcB Mo D env x p M H M (upd H Lc (.ns (put x p Mc))):=by
 intro s hs E Q v hv h
 refine qbI (hs.own _ _ hc) fun _ _ m hn R=>?_
 refine wpAny_storeName_local (ke.of hk) (hl▸hn) (fun h' hn hb=>h _ ?_) ke.pl
 rw[hl] at hb hn
 exact(hs.change (d':=.ns (put x p Mc)) hc hb ⟨_,hn,hv▸R.put⟩).toks _
theorem qoL{x:String}{p:Value}{c:Addr}{u:Option Value}(ke:KE env ks)(hk:qt x ks=some .cell)(hc:env.cells.lookup (Str.ofString x)=some c)(hv:H c=some (.cell u)):
 qcB Mo D env x p M H M (upd H c (.cell (some p))):=by
 intro s hs E Q v hp h
 refine qbI (hs.own _ _ hv) fun _ _ u' hi hu=>?_
 refine wpAny_storeName_cell ke.kind (ke.of hk) hc hi fun h' hi' hb=>h _ ?_
 exact hs.change hv hb ⟨_,hi',by simp[hp]⟩
noncomputable def qeK:Flow->Flow
 | .ret v=>.ret (norm v)
 | f=>f
noncomputable def WS(Mo:Model)(D:Dyn)(t:Sem Flow)(M:Loc)(H:AH)(Φ:Flow->Loc->AH->Prop)(E:Value->Shared->Prop):Prop:=WX Mo D t M H (fun f=>Φ (qeK f)) E
noncomputable def Seq(Mo:Model)(D:Dyn)(rest:List Stmt)(env:Env)(Φ:Flow->Loc->AH->Prop)(E:Value->Shared->Prop):Flow->Loc->AH->Prop
 | .next,M,H=>WS Mo D (execs rest env) M H Φ E
 | f,M,H=>Φ f M H
theorem qam{st:Stmt}{rest:List Stmt}{Φ:Flow->Loc->AH->Prop}(h:WS Mo D (exec st env) M H (Seq Mo D rest env Φ E) E):WS Mo D (execs (st::rest) env) M H Φ E:=
 fun s hs=>wpAny_execs_cons (wpAny_mono (h s hs) (fun f s' q'=>Post.el q' fun M' H' hs' h'=>by
  cases f with
  | next=>exact h' s' hs'
  | _=>exact⟨M',H',hs',h'⟩) fun _ _ x=>x)
theorem qy{Φ:Flow->Loc->AH->Prop}(h:Φ .next M H):WS Mo D (execs [] env) M H Φ E:=fun _ hs=>wpAny_execs_nil ⟨_,_,hs,h⟩
theorem qfF{x:String}{v p:Value}{Φ:Unit->Loc->AH->Prop}(hp:norm v=p)(st:qcB Mo D env x p M H M' H')(h:Φ () M' H'):WX Mo D (bindName env (Str.ofString x) v) M H Φ E:=
 fun s hs=>wpAny_bindName (st s hs E _ v hp fun s' hs'=>⟨_,_,hs',h⟩)
noncomputable abbrev Go(Mo:Model)(D:Dyn)(rest:List Stmt)(env:Env)(Φ:Flow->Loc->AH->Prop)(E:Value->Shared->Prop):Loc->AH->Prop:=fun M H=>WS Mo D (execs rest env) M H Φ E
inductive qcX(Mo:Model)(D:Dyn)(env:Env)(x:String)(p:Value)(M:Loc)(H:AH)(Φ:Loc->AH->Prop):Prop
 | mk(M':Loc)(H':AH)(st:qcB Mo D env x p M H M' H')(k:Φ M' H')
noncomputable abbrev qqb(Mo:Model)(D:Dyn)(x:String)(rest:List Stmt)(env:Env)(Φ:Flow->Loc->AH->Prop)(E:Value->Shared->Prop):Value->Loc->AH->Prop:=fun p M1 H1=>qcX Mo D env x p M1 H1 (Go Mo D rest env Φ E)
structure KIf(Mo:Model)(D:Dyn)(body orelse rest:List Stmt)(env:Env)(Φ:Flow->Loc->AH->Prop)(E:Value->Shared->Prop)(c:Bool)(M1:Loc)(H1:AH):Prop where
 t:c=true->WS Mo D (execs body env) M1 H1 (Seq Mo D rest env Φ E) E
 f:c=false->WS Mo D (execs orelse env) M1 H1 (Seq Mo D rest env Φ E) E
noncomputable abbrev qzn(Φ:Flow->Loc->AH->Prop):Value->Loc->AH->Prop:=fun p=>Φ (.ret p)
structure qxg(Mo:Model)(D:Dyn)(rest:List Stmt)(env:Env)(Φ:Flow->Loc->AH->Prop)(E:Value->Shared->Prop)(p:Value)(M1:Loc)(H1:AH):Prop where
 e:p=.none
 k:WS Mo D (execs rest env) M1 H1 Φ E
theorem qI{x:String}{pos pos':Pos}{value:Expr}{rest:List Stmt}{Φ:Flow->Loc->AH->Prop}
 (h:WV Mo D (eval value env) M H (qqb Mo D x rest env Φ E) E)
 (hs:swapsWith value (some (.Name (Str.ofString x) pos')) pos.line env=pure false:=by rfl):
 WS Mo D (execs (.Assign [.Name (Str.ofString x) pos'] value pos::rest) env) M H Φ E:=
 qam fun s hs'=>wpAny_Assign_Name (wpAny_mono (h s hs') (fun v s1 ⟨_,_,hs1,M',H',st,k⟩=>st s1 hs1 E _ v rfl fun s2 hs2=>⟨M',H',hs2,k⟩) fun _ _ x=>x) hs
theorem qbs{x:String}{p:Value}{op:Operator}{pos pos':Pos}{value:Expr}{rest:List Stmt}{Φ:Flow->Loc->AH->Prop}
 (l:qde Mo D env x p M H)
 (h:WV Mo D (eval value env) M H (qoh (inplaceOp op) Mo D p (qqb Mo D x rest env Φ E) E) E):
 WS Mo D (execs (.AugAssign (.Name (Str.ofString x) pos') op value pos::rest) env) M H Φ E:=
 qam fun s hs=>wpAny_AugAssign_Name (l s hs E _ fun v hv=>wpAny_mono (h s hs) (fun u s1 q'=>Post.el q' fun _ _ hs1 k=>wpAny_mono (k v u hv rfl s1 hs1)
  (fun r s2 ⟨_,_,hs2,M',H',st,q⟩=>st s2 hs2 E _ r rfl fun s3 hs3=>⟨M',H',hs3,q⟩) fun _ _ x=>x) fun _ _ x=>x)
theorem qbp{t:Expr}{body orelse rest:List Stmt}{pos:Pos}{Φ:Flow->Loc->AH->Prop}
 (h:WX Mo D (isTrue t env (eval t env)) M H (KIf Mo D body orelse rest env Φ E) E):
 WS Mo D (execs (.If t body orelse pos::rest) env) M H Φ E:=
 qam fun s hs=>wpAny_If (wpAny_mono (h s hs) (fun c s1 q'=>Post.el q' fun _ _ hs1 k=>by
  cases c with
  | true=>exact k.1 rfl s1 hs1
  | false=>exact k.2 rfl s1 hs1) fun _ _ x=>x)
theorem qaw{e:Expr}{rest:List Stmt}{pos:Pos}{Φ:Flow->Loc->AH->Prop}(h:WV Mo D (eval e env) M H (qzn Φ) E):WS Mo D (execs (.Return (some e) pos::rest) env) M H Φ E:=
 qam fun s hs=>wpAny_Return_some (wpAny_mono (h s hs) (fun v s1 p=>by
  obtain⟨M1,H1,h1,h2⟩:=p
  exact⟨M1,H1,h1,h2⟩) fun _ _ x=>x)
theorem qaq{e:Expr}{rest:List Stmt}{pos:Pos}{Φ:Flow->Loc->AH->Prop}(h:WV Mo D (eval e env) M H (qxg Mo D rest env Φ E) E)
 (ke:KE env ks) (hi:qt "interactive" ks=none:=by rfl) (hs:swapsWith e none pos.line env=pure false:=by rfl):WS Mo D (execs (.Expr e pos::rest) env) M H Φ E:=by
 refine qam fun s hs'=>wpAny_Expr (wpAny_mono (h s hs') (fun v s1 ⟨_,_,hs1,hn,k⟩=>?_) fun _ _ x=>x) ?_ hs
 ·refine substr (qee hn) ?_;exact⟨_,_,hs1,k⟩
 ·unfold interactive;refine substr ke.kind ?_;rfl
theorem qiG{rest:List Stmt}{pos:Pos}{Φ:Flow->Loc->AH->Prop}(h:Φ .brk M H):WS Mo D (execs (.Break pos::rest) env) M H Φ E:=by
 refine qam ?_
 show WX Mo D (do standAt pos;pure Flow.brk) M H _ E
 exact qaO (qef (qck h))
end
theorem qcO{i j:Int}(h:Φ (I (i+j)) M H):∀ v u,norm v=I i->norm u=I j->WV (model prog w) D (binaryOp .Add v u) M H Φ E:=by
 intro v u hv hu s hs;obtain⟨t,rfl⟩:=qD hv;obtain⟨t',rfl⟩:=qD hu
 exact PyProof.Rows.add_int ⟨_,_,hs.toks _,h⟩
theorem qjE{i j:Int}(h:Φ (I (i-j)) M H):∀ v u,norm v=I i->norm u=I j->WV (model prog w) D (binaryOp .Sub v u) M H Φ E:=by
 intro v u hv hu s hs;obtain⟨t,rfl⟩:=qD hv;obtain⟨t',rfl⟩:=qD hu
 exact PyProof.Rows.sub_int ⟨_,_,hs.toks _,h⟩
theorem qdf{i j:Int}(hj:j≠0)(h:Φ (I (i.fmod j)) M H):∀ v u,norm v=I i->norm u=I j->WV (model prog w) D (binaryOp .Mod v u) M H Φ E:=by
 intro v u hv hu s hs;obtain⟨t,rfl⟩:=qD hv;obtain⟨t',rfl⟩:=qD hu
 exact PyProof.Rows.mod_int hj ⟨_,_,hs.toks _,h⟩
theorem qc1{i j:Int}(hj:j≠0)(hp:Builtin.divisionGoesByPylong i j=false)(h:Φ (I (i.fdiv j)) M H):∀ v u,norm v=I i->norm u=I j->WV (model prog w) D (binaryOp .FloorDiv v u) M H Φ E:=by
 intro v u hv hu s hs;obtain⟨t,rfl⟩:=qD hv;obtain⟨t',rfl⟩:=qD hu
 exact PyProof.Rows.floordiv_int hj ⟨_,_,hs.toks _,h⟩ (.inl hp)
theorem qdO{i j:Int}(h0:0<=j)(h1:j<=1000000)(hi:i.natAbs<2^64)(h:Φ (I (i^j.toNat)) M H):∀ v u,norm v=I i->norm u=I j->WV (model prog w) D (binaryOp .Pow v u) M H Φ E:=by
 intro v u hv hu s hs;obtain⟨t,rfl⟩:=qD hv;obtain⟨t',rfl⟩:=qD hu
 exact pow_int_small h0 h1 hi ⟨_,_,hs.toks _,h⟩
theorem qa7{i j:Int}(h:Φ (I (i+j)) M H):∀ v u,norm v=I i->norm u=I j->WV (model prog w) D (inplaceOp .Add v u) M H Φ E:=by
 intro v u hv hu s hs;obtain⟨t,rfl⟩:=qD hv;obtain⟨t',rfl⟩:=qD hu
 exact PyProof.Rows.iadd_int ⟨_,_,hs.toks _,h⟩
theorem qhA{i j:Int}(h:Φ (.bool (decide (i<j))) M H):∀ v u,norm v=I i->norm u=I j->WV (model prog w) D (compareOp .Lt v u) M H Φ E:=by
 intro v u hv hu s hs;obtain⟨t,rfl⟩:=qD hv;obtain⟨t',rfl⟩:=qD hu
 exact PyProof.Rows.lt_int ⟨_,_,hs,h⟩
theorem qzo{i j:Int}(h:Φ (.bool (decide (i<=j))) M H):∀ v u,norm v=I i->norm u=I j->WV (model prog w) D (compareOp .LtE v u) M H Φ E:=by
 intro v u hv hu s hs;obtain⟨t,rfl⟩:=qD hv;obtain⟨t',rfl⟩:=qD hu
 exact PyProof.Rows.le_int ⟨_,_,hs,h⟩
theorem qqc{i j:Int}(h:Φ (.bool (decide (j<i))) M H):∀ v u,norm v=I i->norm u=I j->WV (model prog w) D (compareOp .Gt v u) M H Φ E:=by
 intro v u hv hu s hs;obtain⟨t,rfl⟩:=qD hv;obtain⟨t',rfl⟩:=qD hu
 exact PyProof.Rows.gt_int ⟨_,_,hs,h⟩
theorem qzp{i j:Int}(h:Φ (.bool (decide (j<=i))) M H):∀ v u,norm v=I i->norm u=I j->WV (model prog w) D (compareOp .GtE v u) M H Φ E:=by
 intro v u hv hu s hs;obtain⟨t,rfl⟩:=qD hv;obtain⟨t',rfl⟩:=qD hu
 exact PyProof.Rows.ge_int ⟨_,_,hs,h⟩
theorem qds{i j:Int}(h:Φ (.bool (i==j)) M H):∀ v u,norm v=I i->norm u=I j->WV (model prog w) D (compareOp .Eq v u) M H Φ E:=by
 intro v u hv hu s hs;obtain⟨t,rfl⟩:=qD hv;obtain⟨t',rfl⟩:=qD hu
 exact PyProof.Rows.eq_int ⟨_,_,hs,h⟩
theorem qzq{i j:Int}(h:Φ (.bool (i != j)) M H):∀ v u,norm v=I i->norm u=I j->WV (model prog w) D (compareOp .NotEq v u) M H Φ E:=by
 intro v u hv hu s hs;obtain⟨t,rfl⟩:=qD hv;obtain⟨t',rfl⟩:=qD hu
 exact PyProof.Rows.ne_int ⟨_,_,hs,h⟩
theorem qxh{i j:Bool}(h:Φ (.bool (i==j)) M H):∀ v u,norm v=.bool i->norm u=.bool j->WV (model prog w) D (compareOp .Eq v u) M H Φ E:=by
 intro v u hv hu s hs;refine substr (qbM hv) (substr (qbM hu) ?_)
 exact PyProof.Rows.eq_bool ⟨_,_,hs,h⟩
theorem qfG{x y:Str}(hz:x.length+y.length<=sizeLine)(h:Φ (S (x++y)) M H):∀ v u,norm v=S x->norm u=S y->WV (model prog w) D (binaryOp .Add v u) M H Φ E:=by
 intro v u hv hu s hs;obtain⟨t,rfl⟩:=qH hv;obtain⟨t',rfl⟩:=qH hu
 exact PyProof.Rows.add_str (fun t' tk=>⟨_,_,hs.toks _,h⟩) hz
theorem qb5{x y:Str}(h:Φ (.bool (x==y)) M H):∀ v u,norm v=S x->norm u=S y->WV (model prog w) D (compareOp .Eq v u) M H Φ E:=by
 intro v u hv hu s hs;obtain⟨t,rfl⟩:=qH hv;obtain⟨t',rfl⟩:=qH hu
 exact PyProof.Rows.eq_str ⟨_,_,hs,h⟩
theorem qxi{x y:Str}(h:Φ (.bool (x != y)) M H):∀ v u,norm v=S x->norm u=S y->WV (model prog w) D (compareOp .NotEq v u) M H Φ E:=by
 intro v u hv hu s hs;obtain⟨t,rfl⟩:=qH hv;obtain⟨t',rfl⟩:=qH hu
 exact PyProof.Rows.ne_str ⟨_,_,hs,h⟩
theorem qxj{x y:Str}(h:Φ (.bool (decide (x.cps.toList<y.cps.toList))) M H):∀ v u,norm v=S x->norm u=S y->WV (model prog w) D (compareOp .Lt v u) M H Φ E:=by
 intro v u hv hu s hs;obtain⟨t,rfl⟩:=qH hv;obtain⟨t',rfl⟩:=qH hu
 exact PyProof.Rows.lt_str ⟨_,_,hs,h⟩
theorem qxk{x y:Str}(h:Φ (.bool (decide (y.cps.toList<x.cps.toList))) M H):∀ v u,norm v=S x->norm u=S y->WV (model prog w) D (compareOp .Gt v u) M H Φ E:=by
 intro v u hv hu s hs;obtain⟨t,rfl⟩:=qH hv;obtain⟨t',rfl⟩:=qH hu
 exact PySem.P.gt_str ⟨_,_,hs,h⟩
noncomputable abbrev lst(xs:List Value):HO:=.seq (.type "list") xs
noncomputable abbrev tup(xs:List Value):HO:=.seq (.type "tuple") xs
theorem At.list{s:Shared}{l:Addr}{xs:List Value}(a:At D s M H)(h:H l=some (lst xs)):∃ vs:List Value,s.heap.IsList l vs.toArray/\vs.map norm=xs:=by
 refine qau (a.own _ _ h) fun _ _ vs n e r=>?_
 exact iEA vs.toList ⟨_,e,rfl,n,by simp⟩ r
theorem At.tup{s:Shared}{l:Addr}{xs:List Value}(a:At D s M H)(h:H l=some (tup xs)):∃ vs:List Value,IsTup s.heap l vs.toArray/\vs.map norm=xs:=by
 refine qau (a.own _ _ h) fun _ _ vs n e r=>?_
 exact iEA vs.toList ⟨_,e,rfl,n,by simp⟩ r
theorem qgh{vs xs:List Value}{k:Nat}{p:Value}(h:vs.map norm=xs)(e:xs[k]?=some p):∃ v,vs[k]?=some v/\norm v=p:=by
 subst h
 rw[getElem?_map] at e
 cases q:vs[k]? with
 | none=>rw[q] at e;exact o_ns e
 | some v=>rw[q] at e;exact iEA v rfl (by simpa using e)
theorem qcC{value slice:Expr}{o i:Value}{T id:String}{s:Shared}{Q:Value->Shared->Prop}(hT:s.TypeIs o T)(hl:typeLookup (.type T) "__getitem__"=pure (some (.builtin id)))
 (h:wpAny (model prog w) D.A (getItem o i) Q E s):wpAny (model prog w) D.A (subscriptTail value slice o i) Q E s:=by
 obtain⟨ops,e⟩:=qe1 slice o i
 exact tail_any hT hl h e
theorem qb0{value slice:Expr}{l:Addr}{xs:List Value}{k:Int}{p:Value}(hl:H l=some (lst xs))(h0:0<=k)(h1:k<2^63)(hx:xs[k.toNat]?=some p)(h:Φ p M H):
 ∀ v u,norm v=.ref l->norm u=I k->WV (model prog w) D (subscriptTail value slice v u) M H Φ E:=by
 intro v u hv hu s hs;refine substr (qz hv) ?_;obtain⟨t',rfl⟩:=qD hu
 refine oEA (hs.list hl) fun vs hL hm=>?_
 refine oEA (qgh hm hx) fun v' e1 e2=>?_
 exact qcC hL.typeIs slot_list_getitem.lookup (wpAny_getItem_list hL h0 h1 (by simpa using e1) ⟨_,_,hs,by show Φ (norm _) M H;refine substr e2 ?_;exact h⟩)
theorem qdg{value slice:Expr}{l:Addr}{xs:List Value}{k:Int}{p:Value}(hl:H l=some (lst xs))(h0:k<0)(h1 : -(xs.length:Int)<=k)(h2 : -(2^63)<=k)(hx:xs[(k+xs.length).toNat]?=some p)(h:Φ p M H):
 ∀ v u,norm v=.ref l->norm u=I k->WV (model prog w) D (subscriptTail value slice v u) M H Φ E:=by
 intro v u hv hu s hs;refine substr (qz hv) ?_;obtain⟨t',rfl⟩:=qD hu
 refine oEA (hs.list hl) fun vs hL hm=>?_
 refine oEA (qgh hm hx) fun v' e1 e2=>?_
 have hlen:vs.length=xs.length:=by refine substr hm.symm (substr (length_map ..) rfl)
 exact qcC hL.typeIs slot_list_getitem.lookup (wpAny_getItem_list_neg hL h0 (by simpa [hlen] using h1) h2 (by simpa [hlen] using e1) ⟨_,_,hs,by show Φ (norm _) M H;refine substr e2 ?_;exact h⟩)
theorem qoj{value slice:Expr}{l:Addr}{xs:List Value}{k:Int}{j:Nat}{p:Value}(hl:H l=some (tup xs))(h0 : -(2^63)<=k)(h1:k<2^63)(hj:seqIndex? k xs.length=some j)(hx:xs[j]?=some p)(h:Φ p M H):
 ∀ v u,norm v=.ref l->norm u=I k->WV (model prog w) D (subscriptTail value slice v u) M H Φ E:=by
 intro v u hv hu s hs;refine substr (qz hv) ?_;obtain⟨t',rfl⟩:=qD hu
 refine oEA (hs.tup hl) fun vs hL hm=>?_
 refine oEA (qgh hm hx) fun v' e1 e2=>?_
 have hlen:vs.length=xs.length:=by refine substr hm.symm (substr (length_map ..) rfl)
 exact qcC hL.typeIs slot_tuple_getitem.lookup (getItem_tuple hL h0 h1 (by simpa [hlen] using hj) (by simpa using e1) ⟨_,_,hs,by show Φ (norm _) M H;refine substr e2 ?_;exact h⟩)
theorem qdP{value slice:Expr}{x:Str}{k:Int}{c:Nat}(h0 : -(2^63)<=k)(h1:k<2^63)(hc:(seqIndex? k x.length).bind (x.cps[·]?)=some c)(h:Φ (S ⟨#[c]⟩) M H):
 ∀ v u,norm v=S x->norm u=I k->WV (model prog w) D (subscriptTail value slice v u) M H Φ E:=by
 intro v u hv hu s hs;obtain⟨t,rfl⟩:=qH hv;obtain⟨t',rfl⟩:=qD hu
 refine qcC (T := "str") rfl slot_str_getitem.lookup (PyProof.Rows.getItem_str ?_ hc ⟨_,_,hs.toks _,h⟩)
 simp only[Bool.or_eq_false_iff,decide_eq_false_iff_not]
 exact qyE h0 h1
section
section
noncomputable def qbz:Option Int->Value
 | none=>.none
 | some i=>I i
theorem qgN{v:Value}{lo:Option Int}(h:norm v=qbz lo):∃ l:Option (Int×Tok),v=partValue l/\l.map (·.1)=lo:=by
 cases lo with
 | none=>exact iEA none (qee h) rfl
 | some i=>obtain⟨t,rfl⟩:=qD h;exact iEA (some (i,t)) rfl rfl
theorem qeg{f:Value->Value}{vs:List Value}{a b c:Value}(h:vs.map f=[a,b,c]):∃ x y z,vs=[x,y,z]/\f x=a/\f y=b/\f z=c:=by
 obtain⟨x,r,rfl,h1,h⟩:=nmc h
 obtain⟨y,r,rfl,h2,h⟩:=nmc h
 obtain⟨z,r,rfl,h3,h⟩:=nmc h
 obtain rfl:=nm0 h
 exact qoF x y z rfl h1 h2 h3
theorem At.slice{s:Shared}{r:Addr}{lo hi:Option Int}(a:At D s M H)(h:H r=some (.flds "slice" [qbz lo,qbz hi,.none])):
 ∃ l u:Option (Int×Tok),s.heap.IsSlice r l u none/\l.map (·.1)=lo/\u.map (·.1)=hi:=by
 refine qbI (a.own _ _ h) fun _ _ vs e r'=>?_
 refine qaC (qeg r') fun x y z hv hx hy hz=>?_
 (refine oEA (qgN hx) fun l e1' hl=>?_;obtain rfl:=e1')
 (refine oEA (qgN hy) fun u e1' hu=>?_;obtain rfl:=e1')
 have hz':=qee hz
 subst hz'
 refine(qbJ l u ⟨_,e,rfl,?_⟩ hl hu)
 show Data.fields vs=_
 refine substr (Array.toArray_toList (xs:=vs)).symm (substr hv ?_)
 rfl
theorem qbX{value slice:Expr}{x:Str}{lo hi:Option Int}(hz:x.length<=sizeLine)(h:Φ (S (Txt.slice x lo hi)) M H):
 ∀ r,H r=none->∀ v u,norm v=S x->norm u=.ref r->WV (model prog w) D (subscriptTail value slice v u) M (upd H r (.flds "slice" [qbz lo,qbz hi,.none])) Φ E:=by
 intro r hr v u hv hu s hs
 obtain⟨t,rfl⟩:=qH hv
 refine substr (qz hu) ?_
 refine qR (hs.slice upd_same) fun l u' hsl hl hu'=>?_
 refine qcC (T := "str") rfl slot_str_getitem.lookup (wpAny_getItem_str_slice (st:=none) hsl rfl ?_)
 have hs':=hs.sub (Sub.upd (d:=.flds "slice" [qbz lo,qbz hi,.none]) hr)
 subst hl hu'
 have hle:(Txt.slice x (l.map (·.1)) (u'.map (·.1))).length<=sizeLine:=Nat.le_trans (Txt.slice_le x _ _) hz
 exact post_val_or_str ⟨hle,fun t' k=>⟨_,_,hs'.toks k,h⟩⟩
theorem qgi(f:Value->Value)(vs:List Value)(l:List Nat):(l.filterMap (vs.toArray[·]?)).map f=l.filterMap ((vs.map f).toArray[·]?):=by
 induction l with
 | nil=>rfl
 | cons a r ih=>
  simp only[List.filterMap_cons,List.getElem?_toArray,getElem?_map]
  cases h:vs[a]? with
  | none=>simpa [h] using ih
  | some v=>simp only[Option.map_some,map_cons];rw[<- List.getElem?_toArray] at *;simpa using ih
noncomputable def pick(xs:List Value)(lo hi:Option Int):List Value:=(slicePick xs.toArray lo hi none).toList
theorem qhB(vs:List Value)(lo hi:Option Int):(pick vs lo hi).map norm=pick (vs.map norm) lo hi:=by
 unfold pick slicePick
 simp only[List.size_toArray,length_map]
 exact qgi norm vs _
theorem qcl{l:Option (Int×Tok)}:IsPart (partValue l) (l.map (·.1)):=by
 cases l with
 | none=>exact .none
 | some p=>exact .int p.1 p.2
theorem qdQ{value slice:Expr}{l:Addr}{xs:List Value}{lo hi:Option Int}(hl:H l=some (lst xs))(hz:xs.length<=sizeLine)
 (h:∀ r,H r=none->Φ (.ref r) M (upd H r (lst (pick xs lo hi)))):
 ∀ r,H r=none->∀ v u,norm v=.ref l->norm u=.ref r->WV (model prog w) D (subscriptTail value slice v u) M (upd H r (.flds "slice" [qbz lo,qbz hi,.none])) Φ E:=by
 intro r hr v u hv hu s hs
 refine substr (qz hv) (substr (qz hu) ?_)
 refine qR (hs.slice upd_same) fun a b hsl ha hb=>?_
 have hs':=hs.sub (Sub.upd (d:=.flds "slice" [qbz lo,qbz hi,.none]) hr)
 refine oEA (hs'.list hl) fun vs hL hm=>?_
 have hlen:vs.length=xs.length:=by refine substr hm.symm (substr (length_map ..) rfl)
 have p1:IsPart (partValue a) lo:=ha▸qcl
 have p2:IsPart (partValue b) hi:=hb▸qcl
 refine qcC hL.typeIs slot_list_getitem.lookup (wpAny_getItem_list_slice hL (vl:=partValue a) (vu:=partValue b) (vs:=.none) hsl p1 p2 .none (by simp) ?_ (by simpa [hlen] using hz))
 refine⟨_,_,hs'.alloc (d:=lst (pick xs lo hi)) rfl fun h e=>⟨_,_,e,?_⟩,h _ hs'.fresh⟩
 refine substr hm.symm ?_
 exact qhB vs _ _
noncomputable def WSp(Mo:Model)(D:Dyn)(pos:Pos)(es:List Expr)(env:Env)(M:Loc)(H:AH)(Φ:List Value->Loc->AH->Prop)(E:Value->Shared->Prop):Prop:=
 WX Mo D (spliced (backTo pos (starEach es env))) M H (fun vs=>Φ (vs.map norm)) E
noncomputable abbrev qxl(Φ:List Value->Loc->AH->Prop)(p:Value):List Value->Loc->AH->Prop:=fun ps=>Φ (p::ps)
noncomputable abbrev KSp(Mo:Model)(D:Dyn)(pos:Pos)(r:List Expr)(env:Env)(Φ:List Value->Loc->AH->Prop)(E:Value->Shared->Prop):Value->Loc->AH->Prop:=fun p M1 H1=>WSp Mo D pos r env M1 H1 (qxl Φ p) E
structure KMk(mk:List Value->HO)(Φ:Value->Loc->AH->Prop)(ps:List Value)(M1:Loc)(H1:AH):Prop where
 l:ps.length<=sizeLine
 k:∀ r,H1 r=none->Φ (.ref r) M1 (upd H1 r (mk ps))
noncomputable abbrev KCall(Mo:Model)(D:Dyn)(f:Value)(first:List Value)(Φ:Value->Loc->AH->Prop)(E:Value->Shared->Prop):List Value->Loc->AH->Prop:=fun ps M1 H1=>∀ vs,vs.map norm=ps->WV Mo D (call f (first++vs)) M1 H1 Φ E
noncomputable abbrev KNm(Mo:Model)(D:Dyn)(pos:Pos)(args:List Expr)(env:Env)(Φ:Value->Loc->AH->Prop)(E:Value->Shared->Prop):Value->Loc->AH->Prop:=fun q M1 H1=>∀ v,norm v=q->WV Mo D (callWith pos v [] (backTo pos (starEach args env)) []) M1 H1 Φ E
section
variable{Mo:Model}
theorem qi{pos:Pos}{Φ:List Value->Loc->AH->Prop}(h:Φ [] M H):WSp Mo D pos [] env M H Φ E:=fun _ hs=>Calls.spliced_nil ⟨_,_,hs,h⟩
theorem qd{pos:Pos}{e:Expr}{r:List Expr}{Φ:List Value->Loc->AH->Prop}(h:WV Mo D (eval e env) M H (KSp Mo D pos r env Φ E) E)
 (he:starEach (e::r) env=(false,eval e env)::starEach r env:=by rfl):WSp Mo D pos (e::r) env M H Φ E:=by
 intro s hs
 refine substr he ?_
 exact Calls.spliced_cons (wpAny_mono (h s hs) (fun v s1 q'=>Post.el q' fun _ _ hs1 h1=>wpAny_mono (h1 s1 hs1) (fun _ _ q'=>Post.el q' fun M2 H2 hs2 h2=>⟨M2,H2,hs2,h2⟩) fun _ _ x=>x) fun _ _ x=>x)
theorem qaa{elts:List Expr}{k:Nat}{pos:Pos}{Φ:Value->Loc->AH->Prop}(h:WSp Mo D pos elts env M H (KMk tup Φ) E):
 WV Mo D (eval (.Tuple elts k pos) env) M H Φ E:=
 fun s hs=>Tuple_ (wpAny_mono (h s hs) (fun vs s1 ⟨M1,H1,hs1,hz,h1⟩=>wpAny_newObj_type ⟨_,_,hs1.alloc (d:=tup (vs.map norm)) rfl fun h e=>⟨_,_,e,rfl⟩,h1 _ hs1.fresh⟩
  (by show vs.toArray.size<=sizeLine;refine substr List.size_toArray ?_;simpa using hz)) fun _ _ x=>x)
theorem qae{elts:List Expr}{pos:Pos}{Φ:Value->Loc->AH->Prop}(h:WSp Mo D pos elts env M H (KMk lst Φ) E):
 WV Mo D (eval (.List elts pos) env) M H Φ E:=
 fun s hs=>List_ (wpAny_mono (h s hs) (fun vs s1 ⟨M1,H1,hs1,hz,h1⟩=>wpAny_newObj_type ⟨_,_,hs1.alloc (d:=lst (vs.map norm)) rfl fun h e=>⟨_,_,e,rfl⟩,h1 _ hs1.fresh⟩
  (by show vs.toArray.size<=sizeLine;refine substr List.size_toArray ?_;simpa using hz)) fun _ _ x=>x)
noncomputable def qeh(Mo:Model)(D:Dyn)(f:Value):Prop:=∀ s M H,At D s M H->∃ k,(k=Keeper.frame\/k=Keeper.machine\/k=Keeper.boundFrame)/\Looks Mo s.heap (keeperOf f) k
theorem qu{i:String}:qeh Mo D (.builtin i):=fun _ _ _ _=>(iEA .machine (.inr (.inl rfl)) (Looks.of_pure rfl))
theorem qaJ{i:String}:qeh Mo D (.type i):=fun _ _ _ _=>(iEA .machine (.inr (.inl rfl)) (Looks.of_pure rfl))
theorem qlK{a:Addr}{o:Obj}{fd:FuncData}(ho:∀ g,Turn D g->g.get? a=some o)(hd:o.data=.func fd):qeh Mo D (.ref a):=fun s M H hs=>by
 refine qR hs.fr fun g m T F _=>?_
 refine(iEA .frame (.inl rfl) ((Looks.ld (part:=none) (F.keep _ _ (ho g T))).andThen ?_))
 refine substr hd ?_
 exact .now
theorem qdt{f:Value}{first:List Value}{pos pos':Pos}{Φ:Value->Loc->AH->Prop}(hk:qeh Mo D f)(h:WV Mo D (call f (first++[])) M H Φ E):
 WV Mo D (callWith pos f first (backTo pos' (starEach [] env)) []) M H Φ E:=by
 intro s hs
 refine callWith_of (P:=fun h=>∃ k,(k=Keeper.frame\/k=Keeper.machine\/k=Keeper.boundFrame)/\Looks Mo h (keeperOf f) k) rfl (fun h k=>k) ?_
 exact evalArgs_nil3 ⟨hk s M H hs,h s hs⟩
theorem qp{f:Value}{first:List Value}{e:Expr}{args:List Expr}{pos pos':Pos}{Φ:Value->Loc->AH->Prop}(hk:qeh Mo D f)
 (h:WSp Mo D pos' (e::args) env M H (KCall Mo D f first Φ E) E)
 (he:starEach (e::args) env=(false,eval e env)::starEach args env:=by rfl) (hplain:(backTo pos' (starEach args env)).any (·.1)=false:=by rfl):
 WV Mo D (callWith pos f first (backTo pos' (starEach (e::args) env)) []) M H Φ E:=by
 intro s hs
 have key:=wpAny_mono (h s hs) (Q':=fun vs s₁=>(∃ k,(k=Keeper.frame\/k=Keeper.machine\/k=Keeper.boundFrame)/\Looks Mo s₁.heap (keeperOf f) k)/\wpAny Mo D.A (call f (first++vs)) (Post D (fun v=>Φ (norm v))) E s₁)
  (fun vs s1 q'=>Post.el q' fun M1 H1 hs1 h1=>⟨hk s1 M1 H1 hs1,h1 vs rfl s1 hs1⟩) fun _ _ x=>x
 rw[he] at key ⊢
 refine callWith_of (P:=fun h=>∃ k,(k=Keeper.frame\/k=Keeper.machine\/k=Keeper.boundFrame)/\Looks Mo h (keeperOf f) k) ?_ (fun h k=>k) (Calls.evalArgs_plain key)
 show((false||(backTo pos' (starEach args env)).any (·.1))||false)=false
 refine substr hplain ?_;rfl
theorem qF{f:Str}{p:Pos}{args:List Expr}{pos:Pos}{Φ:Value->Loc->AH->Prop}
 (h:WV Mo D (eval (.Name f p) env) M H (KNm Mo D pos args env Φ E) E):
 WV Mo D (eval (.Call (.Name f p) args [] pos) env) M H Φ E:=
 fun s hs=>Call_ (wpAny_mono (h s hs) (fun v s1 q'=>Post.el q' fun _ _ hs1 h1=>h1 v rfl s1 hs1) fun _ _ x=>x)
theorem qad{a:Addr}{pos:Pos}{args:List Expr}{Φ:Value->Loc->AH->Prop}(h:WV Mo D (callWith pos (.ref a) [] (backTo pos (starEach args env)) []) M H Φ E):KNm Mo D pos args env Φ E (.ref a) M H:=fun v hv=>by refine substr (qz hv) ?_;exact h
theorem qY{a:String}{pos:Pos}{args:List Expr}{Φ:Value->Loc->AH->Prop}(h:WV Mo D (callWith pos (.builtin a) [] (backTo pos (starEach args env)) []) M H Φ E):KNm Mo D pos args env Φ E (.builtin a) M H:=fun v hv=>by refine substr (qhy hv) ?_;exact h
theorem v_type{a:String}{pos:Pos}{args:List Expr}{Φ:Value->Loc->AH->Prop}(h:WV Mo D (callWith pos (.type a) [] (backTo pos (starEach args env)) []) M H Φ E):KNm Mo D pos args env Φ E (.type a) M H:=fun v hv=>by refine substr (qdc hv) ?_;exact h
end
end
end
theorem Dyn.fs_of{D:Dyn}{env:Env}{outer:List Env}(hA:D.A.frames=some (env::outer)):D.fs=outer.filterMap (·.frame):=by
 unfold Dyn.fs
 refine substr hA ?_
 rfl
theorem qfH{A₀:Around}{base g g':Heap}{outer:List Env}(B:Below A₀ base outer g)(T:KtsTurn (outer.filterMap (·.frame)) g g'):Below A₀ base outer g':=
 ⟨B.stack,fun b o e=>T.other b o (B.stays b o e) (fun hm=>by rw[(B.frames.mem hm).1] at e;exact o_ns e),B.frames.of_keeps fun b o e _=>let ⟨sl,hs⟩:=T.up e;⟨_,hs,rfl⟩⟩
structure Ok(K:Frag)(gl bl:List (String×Value))(D:Dyn)(n:Nat):Prop where
 base:∃ A₀ base outer env,Below A₀ base outer D.h₀/\D.A.frames=some (env::outer)/\env.frame=some D.L/\env.scope.kind=.function/\K.In base/\GL gl bl base/\base.NoLimit
 hand:D.A.handled=none
 room:D.A.depth+n<recursionLimit
 units:D.A.units+8*n<cLine
theorem GL.stays{gl bl:List (String×Value)}{h h':Heap}(g:GL gl bl h)(k:h.StaysIn h'):GL gl bl h':=by
 refine qhu g.ex fun mg mb h1 h2 h3 h4=>?_
 exact⟨mg,mb,h1.keeps k,h2.keeps k,h3,h4⟩
section
variable{K:Frag}{gl bl:List (String×Value)}
theorem Ok.stays(ok:Ok K gl bl D n){g:Heap}(T:Turn D g):∃ A₀ base outer env,Below A₀ base outer g/\D.A.frames=some (env::outer)/\env.frame=some D.L/\env.scope.kind=.function/\K.In base/\GL gl bl base/\base.NoLimit:=by
 refine qge ok.base fun A₀ base outer env B hA hr=>?_
 exact⟨A₀,base,outer,env,qfH B (Dyn.fs_of hA▸T),hA,hr⟩
theorem Ok.X(ok:Ok K gl bl D n){g:Heap}(T:Turn D g):K.In g:=by
 refine qcw (ok.stays T) fun _ _ _ _ B _ _ _ X _ _=>?_
 exact X.keeps B.stays
theorem Ok.glob(ok:Ok K gl bl D n):GLs gl bl D:=fun g T=>by
 refine qcw (ok.stays T) fun _ _ _ _ B _ _ _ _ G _=>?_
 exact G.stays B.stays
theorem Ok.frames(ok:Ok K gl bl D n){g:Heap}(T:Turn D g):∀ b∈D.fs,∃ o,g.get? b=some o/\∀ vs,o.data≠.fields vs:=by
 refine qge (ok.stays T) fun _ _ _ _ B hA _=>?_
 refine substr (Dyn.fs_of hA) ?_
 exact fun b hb=>(B.frames.mem hb).2
end
theorem At.news{D:Dyn}{s:Shared}{M:Loc}{H:AH}(a:At D s M H):∃ news:List (Addr×Obj),(∀ g,Turn D g->News g D.L s.heap news)/\(∀ b d,H b=some d->∃ o,(b,o)∈news/\s.heap.get? b=some o)/\(∀ p∈news,∃ d,H p.1=some d):=by
 refine⟨(List.range s.heap.objs.size).filterMap fun b=>if (H b).isSome then(s.heap.get? b).map (b,·) else none,?_,?_,?_⟩
 ·intro g T p hp
  refine oEA (List.mem_filterMap.mp hp) fun b _ hb=>?_
  split at hb
  ·rename_i h1
   obtain⟨d,hd⟩:=Option.isSome_iff_exists.mp h1
   (refine oEA (Option.map_eq_some_iff.mp hb) fun o ho e2'=>?_;obtain rfl:=e2')
   refine oAA (a.own b d hd) fun k1 k2 _=>?_
   exact⟨ho,k1,T.none_ _ k2⟩
  ·exact o_ns hb
 ·intro b d hd
  refine oAA (a.own b d hd) fun k1 k2 k3=>?_
  obtain⟨o,ho⟩:=k3.some
  exact⟨o,List.mem_filterMap.mpr ⟨b,List.mem_range.mpr (Heap.lt_size ho),by simp[hd,ho]⟩,ho⟩
 ·intro p hp
  refine oEA (List.mem_filterMap.mp hp) fun b _ hb=>?_
  split at hb
  ·rename_i h1
   obtain⟨d,hd⟩:=Option.isSome_iff_exists.mp h1
   (refine oEA (Option.map_eq_some_iff.mp hb) fun o ho e2'=>?_;obtain rfl:=e2')
   exact⟨d,hd⟩
  ·exact o_ns hb
theorem qei(x:String):∀(ns:List String) (vs:List Value) (acc:List (Str×Value)) (acc':Loc),
 (∀ z:String,(acc.lookup (Str.ofString z)).map norm=look z acc')->
 ((((ns.zip vs).map fun p=>(Str.ofString p.1,p.2)).reverse++acc).lookup (Str.ofString x)).map norm=look x ((ns.zip (vs.map norm)).reverse++acc')
 | [],vs,acc,acc',h=>by simpa using h x
 | n::ns,[],acc,acc',h=>by simpa using h x
 | n::ns,v::vs,acc,acc',h=>by
  simp only[List.zip_cons_cons,map_cons,List.reverse_cons,List.append_assoc,List.singleton_append]
  refine qei x ns vs ((Str.ofString n,v)::acc) ((n,norm v)::acc') fun z=>?_
  refine substr List.lookup_cons ?_
  refine substr look_c ?_
  by_cases e:z=n
  ·subst e;simp
  ·have:(Str.ofString z==Str.ofString n)=false:=beq_eq_false_iff_ne.mpr fun q=>e (qbv q)
   simp only[this,e,if_false]
   exact h z
theorem qjF(ns:List String)(vs:List Value):MRep (fun y=>(((ns.zip vs).map fun p=>(Str.ofString p.1,p.2)).reverse).lookup y) ((ns.zip (vs.map norm)).reverse):=by
 intro x
 have:=qei x ns vs [] [] (fun z=>rfl)
 simpa using this
noncomputable def qhC:Flow->Value
 | .ret v=>v
 | _=>.none
section
variable{K:Frag}{gl bl:List (String×Value)}
noncomputable def qzr:Flow->Value
 | .ret v=>v
 | _=>.none
theorem qgO(fl:Flow):qhC (qeK fl)=norm (qzr fl):=by cases fl<;>rfl
theorem At.leave{D':Dyn}{s':Shared}{M':Loc}{H':AH}{g0:Heap}{m:Str->Option Value}(hs':At D' s' M' H')(hfs:D'.fs=D.L::D.fs)(T0:Turn D g0)(F:Fr g0 D.L D'.h₀ m)(hm:MRep m M)
 (hff:∀ b∈D.fs,∃ o,g0.get? b=some o/\∀ vs,o.data≠.fields vs) (hs0:D'.s₀=D.s₀:=by rfl):At D s' M H':=by
 refine qR hs'.fr fun gg m' T' F' R'=>?_
 obtain⟨T2,S2⟩:=kts_turn_at (h:=s'.heap) (fs:=D.fs) (g:=g0) (fun b hb=>let ⟨o,ho,_⟩:=hff b hb;⟨o,ho⟩)
  (fun b o e nm=>F'.keep _ _ (T'.other _ _ (F.keep _ _ e) (by
   refine substr hfs (substr (propext List.mem_cons) ?_)
   rintro(q | q)
   ·exact absurd (Nat.lt_of_lt_of_le (Heap.lt_size e) F.above) (by refine substr q ?_;exact Nat.lt_irrefl _)
   ·exact nm q)))
  (fun b o e hb=>let ⟨sl,hs⟩:=T'.frame b o (F.keep _ _ e) (by refine substr hfs ?_;exact List.mem_cons_of_mem _ hb);⟨sl,F'.keep _ _ hs⟩)
 refine⟨⟨_,m,T0.trans T2,⟨?_,S2,by refine substr T2.size ?_;exact F.above⟩,hm⟩,fun a d e=>?_,hs'.gens.trans (by refine substr hs0 rfl),hs'.drawn.trans (by refine substr hs0 rfl),hs'.os.trans (by refine substr hs0 rfl)⟩
 ·refine qkx F.ns fun o es ep ho hd r=>?_
  obtain⟨sl,hs⟩:=T'.up ho
  exact⟨_,es,ep,F'.keep _ _ hs,hd,r⟩
 ·refine oAA (hs'.own a d e) fun k1 k2 k3=>?_
  refine⟨fun q=>?_,?_,k3⟩
  ·refine qhl F.ns fun o es ep ho _=>?_
   rw[q,ho] at k2;exact o_sn k2
  ·cases q:D.h₀.get? a with
   | none=>rfl
   | some o=>obtain⟨sl,hs⟩:=T0.up q;rw[F.keep _ _ hs] at k2;exact o_sn k2
theorem enter(ok:Ok K gl bl D (n+1)){f:Addr}{oc:Value}{od:Option Addr}{osl:Array (Option Value)}{name qual:Str}{params:Arguments}{body:List Stmt}{scope:Scope}{dV kV doc pm cdv ct:Value}{an:Option Addr}
 (ho:K.lookup f=some ⟨oc,od,.func (fnOf name qual params body scope dV kV doc pm an cdv ct),osl⟩) (hcd:codeIn K cdv qual=true)
 (ns:List String) {ps:List Value} {ks:List (String×NameKind)}
 (hbind:∀ vs,vs.length=ns.length->bindArgs (fnOf name qual params body scope dV kV doc pm an cdv ct) ⟨vs,[]⟩=pure ((ns.zip vs).map fun p=>(Str.ofString p.1,p.2)))
 (hlen:ps.length=ns.length) (hks:scope.names=ks.map fun p=>(Str.ofString p.1,p.2)) (hloc:∀ x∈ns,qt x ks=some .local)
 (hcell:∀ x∈ks,x.2≠.cell) (hnd:qt "__debug__" ks=none)
 (hb:∀(D':Dyn) (env:Env),Ok K gl bl D' n->KE env ks->env.locals=D'.L->env.frame=some D'.L->WS (model prog w) D' (execs body env) ((ns.zip ps).reverse) H (fun fl _ H'=>Φ (qhC fl) M H') (fun _ _=>False))
 (hco:scope.isCoroutine=false:=by rfl) (hgen:scope.isGenerator=false:=by rfl) (hk:scope.kind=.function:=by rfl):
 ∀ vs,vs.map norm=ps->WV (model prog w) D (call (.ref f) vs) M H Φ E:=by
 intro vs hvs s hs
 refine qR hs.fr fun g0 m T F Rm=>?_
 refine qcw (ok.stays T) fun A₀ base outer env B hA hf hke Xb Gb Lb=>?_
 refine qbe hs.news fun news N0 hN hN'=>?_
 have N:=N0 g0 T
 have hvl:vs.length=ns.length:=by refine substr hlen.symm (substr hvs.symm (substr (length_map ..) rfl))
 have X:=(ok.X T).keeps F.keep
 obtain⟨FG,BG,st,-⟩:=groundX (R:=fun _ _=>True) B F N hA hf hke
 refine wpAny_call ?_
 refine codeAny_call_def (fd:=fnOf name qual params body scope dV kV doc pm an cdv ct) (body:=body) (binds:=(ns.zip vs).map fun p=>(Str.ofString p.1,p.2)) (Nat.lt_of_le_of_lt (Nat.le_add_right _ _) ok.room) (X _ _ ho) rfl
  (Lb.keeps fun b o e=>F.keep b o (B.stays b o e)) (codeRec_of X hcd) rfl (BindsTo.of_eq (hbind vs hvl)) ?_ ?_ (fun h₁ hns hk₁=>?_) hco hgen hk
 ·intro x hx
  rw[show(fnOf name qual params body scope dV kV doc pm an cdv ct).scope=scope from rfl,hks] at hx
  (refine oEA (List.mem_map.mp hx) fun p hp e2'=>?_;obtain rfl:=e2')
  exact hcell p hp
 ·intro y hy
  (refine oEA (List.mem_map.mp hy) fun p hp e2'=>?_;obtain rfl:=e2')
  have:p.1∈ns:=(List.of_mem_zip hp).1
  show scope.names.lookup _=_
  refine substr hks (substr (qaI ..) ?_)
  exact hloc _ this
 ·have hfs:Dyn.fs ⟨D.A.deeper (envX qual scope s.heap.objs.size f cdv []),hideAll s.heap (news.map (·.1)),s.heap.objs.size,D.s₀⟩=D.L::D.fs:=by
   refine substr (Dyn.fs_of (Around.frames_deeper hA)) (substr (Dyn.fs_of hA) (substr List.filterMap_cons (substr hf rfl)))
  have ok':Ok K gl bl ⟨D.A.deeper (envX qual scope s.heap.objs.size f cdv []),hideAll s.heap (news.map (·.1)),s.heap.objs.size,D.s₀⟩ n:=by
   refine⟨⟨D.A,base,env::outer,envX qual scope s.heap.objs.size f cdv [],BG,Around.frames_deeper hA,rfl,hk,Xb,Gb,Lb⟩,ok.hand,?_,?_⟩
   ·have:=ok.room
    show D.A.depth+1+n<_
    exact qpR this
   ·have:=ok.units
    show D.A.units+3+8*n<_
    exact qpS this
  have hat:At ⟨D.A.deeper (envX qual scope s.heap.objs.size f cdv []),hideAll s.heap (news.map (·.1)),s.heap.objs.size,D.s₀⟩ { s with heap:=h₁,toks:=s.toks+((ns.zip vs).map fun p=>(Str.ofString p.1,p.2)).length } ((ns.zip ps).reverse) H:=by
   refine⟨⟨_,_,KtsTurn.refl,⟨hns,fun b o e=>hk₁ b o (of_hideAll _ e),Nat.le_of_eq (hideAll_size _ _)⟩,hvs▸qjF ns vs⟩,fun a d e=>?_,hs.gens,hs.drawn,hs.os⟩
   refine oEA (hN a d e) fun o hm hq=>?_
   exact⟨Nat.ne_of_lt (Heap.lt_size hq),hideAll_none _ (List.mem_map_of_mem hm),(hs.own a d e).2.2.keeps fun o=>hk₁ a o⟩
  have hbd:=hb ⟨D.A.deeper (envX qual scope s.heap.objs.size f cdv []),hideAll s.heap (news.map (·.1)),s.heap.objs.size,D.s₀⟩ (envX qual scope s.heap.objs.size f cdv []) ok' ⟨hk,rfl,rfl,hks,hnd⟩ rfl rfl _ hat
  refine wpAny_mono hbd (fun fl s' q'=>Post.el q' fun M' H' hs' h'=>?_) fun _ _ x=>x.elim
  have h2:At D s' M H':=hs'.leave hfs T FG Rm (ok.frames T)
  have h':Φ (qhC (qeK fl)) M H':=h'
  rw[qgO] at h'
  cases fl<;>exact⟨M,H',h2,h'⟩
end
noncomputable abbrev NoE:Value->Shared->Prop:=fun _ _=>False
noncomputable def del(H:AH)(a:Addr):AH:=fun b=>if b=a then none else H b
theorem qb1{H:AH}{a b:Addr}(h:b≠a):del H a b=H b:=if_neg h
theorem qzP{H H':AH}{a:Addr}(ha:H a=none)(x:Sub H H'):Sub H (del H' a):=fun b d e=>by
 unfold del
 split
 ·rename_i h;rw[h,ha] at e;exact o_ns e
 ·exact x b d e
theorem qiH{H H':AH}{a:Addr}{d:HO}(x:Sub H H')(h:H' a=some d):Sub (upd H a d) H':=fun b e q=>by
 unfold upd at q
 split at q
 ·rename_i hb;cases q;refine substr hb ?_;exact h
 ·exact x b e q
theorem qzQ{H H':AH}{a:Addr}{d:HO}(x:Sub H H')(h:H a=none):Sub H (upd H' a d):=fun b e q=>by
 unfold upd
 split
 ·rename_i hb;rw[hb,h] at q;exact o_ns q
 ·exact x b e q
theorem qG{H:AH}{a b:Addr}{d:HO}(ha:H a=none)(hb:H b=some d):b≠a:=fun q=>by rw[q,ha] at hb;exact o_ns hb
theorem At.ext{D:Dyn}{s:Shared}{M:Loc}{H:AH}(a:At D s M H){b:Addr}{d:HO}(hb:H b=some d){h':Heap}(hs:Heap.ExtBut b s.heap h'):At D { s with heap:=h' } M (del H b):=by
 refine qR a.fr fun g m T F Rm=>?_
 refine oAA (a.own b d hb) fun h1 h2 h3=>?_
 refine⟨⟨g,m,T,⟨?_,fun c o e=>hs c o (fun q=>by rw[q,T.none_ _ h2] at e;exact o_ns e) (F.keep c o e),F.above⟩,Rm⟩,fun c e q=>?_,a.gens,a.drawn,a.os⟩
 ·refine qhl F.ns fun o es ep e r=>?_
  exact⟨o,es,ep,hs _ _ (Ne.symm h1) e,r⟩
 ·unfold del at q
  split at q
  ·exact o_ns q
  ·rename_i hc
   refine oAA (a.own c e q) fun k1 k2 k3=>?_
   exact⟨k1,k2,k3.keeps fun o ho=>hs c o hc ho⟩
noncomputable abbrev qax(l:Addr)(i:Nat):HO:=.it "list_iterator" #[.ref l,.int i 0]
noncomputable abbrev qeL(x left:Int):HO:=.raw { cls:=.type "range_iterator",dict:=none,data:=.fields #[rawInt x,rawInt left,rawInt 1],slots:=#[] }
noncomputable abbrev qdC(l:Addr)(i:Int):HO:=.it "list_reverseiterator" #[.ref l,.int i 0]
inductive qqd(pr:Addr->Prop)(S Y:AH->Prop)(M:Loc)(H:AH)(M2:Loc)(H2:AH):Prop
 | mk(hM:M2=M)(st:S H2)(kp:∀ a d,¬ pr a->H a=some d->H2 a=some d)(y:Y H2)
inductive qqe(pr:Addr->Prop)(M:Loc)(H:AH)(r:Option Value)(M1:Loc)(H1:AH):Prop
 | mk(hr:r=none)(hM:M1=M)(kp:∀ a d,¬ pr a->H a=some d->H1 a=some d)
inductive qqf(it:Value)(M:Loc)(H:AH)(it':Value)(M1:Loc)(H1:AH):Prop
 | mk(hi:it'=it)(hM:M1=M)(hH:H1=H)
inductive qxm(N:Value->Loc->AH->Prop)(r:Option Value)(M1:Loc)(H1:AH):Prop
 | mk(v:Value)(hr:r=some v)(k:N v M1 H1)
structure Iter(Mo:Model)(D:Dyn)(target:Expr)(it:Value)(pr fp:Addr->Prop)(n:Nat)(St:Nat->AH->Prop)(Yl:Nat->Value->AH->Prop):Prop where
 frame:∀ {k H H'},St k H->(∀ a,fp a->∀ d,H a=some d->H' a=some d)->St k H'
 live:∀ {k H},St k H->∀ a,pr a->∃ d,H a=some d
 item:∀ {k M H E},k<n->St k H->WX Mo D (pyNext it) M H (qxm fun v M1 H1=>WX Mo D (letOwnedTupleGo target it v) M1 H1 (fun _=>qqd pr (St (k+1)) (Yl k (norm v)) M H) E) E
 done:∀ {M H E},St n H->WX Mo D (pyNext it) M H (qqe pr M H) E
 self:∀ {k M H E},St k H->WX Mo D (pyIter it) M H (qqf it M H) E
theorem At.listIt{s:Shared}{it l:Addr}{i:Nat}(a:At D s M H)(h:H it=some (qax l i)):s.heap.IsListIter it l i:=(a.own _ _ h).2.2
theorem qoM(hh:D.A.handled=none){it l:Addr}{n:Nat}{x:Str}{pos:Pos}:Iter (model prog w) D (.Name x pos) (.ref it) (fun a=>a=it) (fun a=>a=it\/a=l) n
 (fun k H=>it≠l/\H it=some (qax l k)/\∃ xs,H l=some (lst xs)/\xs.length=n) (fun k p H=>∃ xs,H l=some (lst xs)/\xs[k]?=some p) where
 frame:=fun q' hf=>qbI q' fun h0 h1 xs h2 h3=>⟨h0,hf _ (.inl rfl) _ h1,xs,hf _ (.inr rfl) _ h2,h3⟩
 live:=fun q' a ha=>oAA q' fun h0 h1 _=>⟨_,ha▸h1⟩
 item:=by
  intro k M H E hk q' s hs
  refine qbI q' fun h0 h1 xs h2 h3=>?_
  refine oEA (hs.list h2) fun vs hL hm=>?_
  have hvl:vs.length=n:=by refine substr h3.symm (substr hm.symm (substr (length_map ..) rfl))
  obtain⟨v,hv⟩:∃ v,vs[k]?=some v:=⟨_,getElem?_eq_getElem (ar1 hk hvl)⟩
  refine wpAny_pyNext_list_item (hs.listIt h1) hL (by simpa using hv) fun h' hi hsb=>?_
  have hat:=hs.change (d':=qax l (k+1)) h1 hsb hi
  refine⟨M,_,hat,_,rfl,fun s' hs'=>?_⟩
  refine wpAny_pure ⟨M,_,hs',rfl,⟨h0,upd_same,xs,(qe (Ne.symm h0)).trans h2,h3⟩,fun a d ha e=>(qe ha).trans e,xs,(qe (Ne.symm h0)).trans h2,?_⟩
  refine substr hm.symm (substr getElem?_map (substr hv ?_));rfl
 done:=by
  intro M H E q' s hs
  refine qbI q' fun h0 h1 xs h2 h3=>?_
  refine oEA (hs.list h2) fun vs hL hm=>?_
  have hvl:vs.length=n:=by refine substr h3.symm (substr hm.symm (substr (length_map ..) rfl))
  refine wpAny_pyNext_list_end hh (hs.listIt h1) hL (by simp[hvl]) fun h' hsb=>?_
  exact⟨M,_,hs.ext h1 hsb,rfl,rfl,fun a d ha e=>(qb1 ha).trans e⟩
 self:=by
  intro k M H E q' s hs
  refine oAA q' fun h0 h1 _=>?_
  exact wpAny_pyIter_listiter (hs.listIt h1) ⟨M,H,hs,rfl,rfl,rfl⟩
theorem qqg(hh:D.A.handled=none){it l:Addr}{n:Nat}{x:Str}{pos:Pos}:Iter (model prog w) D (.Name x pos) (.ref it) (fun a=>a=it) (fun a=>a=it\/a=l) n
 (fun k H=>it≠l/\H it=some (qdC l ((n:Int)-1-k))/\∃ xs,H l=some (lst xs)/\xs.length=n) (fun k p H=>∃ xs,H l=some (lst xs)/\xs[n-1-k]?=some p) where
 frame:=fun q' hf=>qbI q' fun h0 h1 xs h2 h3=>⟨h0,hf _ (.inl rfl) _ h1,xs,hf _ (.inr rfl) _ h2,h3⟩
 live:=fun q' a ha=>oAA q' fun h0 h1 _=>⟨_,ha▸h1⟩
 item:=by
  intro k M H E hk q' s hs
  refine qbI q' fun h0 h1 xs h2 h3=>?_
  refine oEA (hs.list h2) fun vs hL hm=>?_
  have hvl:vs.length=n:=by refine substr h3.symm (substr hm.symm (substr (length_map ..) rfl))
  have hlt:n-1-k<n:=qlC hk
  obtain⟨v,hv⟩:∃ v,vs[n-1-k]?=some v:=⟨_,getElem?_eq_getElem (qyF hvl hlt)⟩
  have e1:(n:Int)-1-k=((n-1-k:Nat):Int):=qyG hk
  have hri:s.heap.IsRevIter it l ((n-1-k:Nat):Int):=by refine substr e1.symm ?_;exact(hs.own _ _ h1).2.2
  refine wpAny_pyNext_rev_item hri hL (by simpa using hv) fun h' hi hsb=>?_
  have e2:((n-1-k:Nat):Int)-1=(n:Int)-1-((k+1:Nat):Int):=qyH e1
  rw[e2] at hi
  have hat:=hs.change (d':=qdC l ((n:Int)-1-((k+1:Nat):Int))) h1 hsb hi
  refine⟨M,_,hat,_,rfl,fun s' hs'=>?_⟩
  refine wpAny_pure ⟨M,_,hs',rfl,⟨h0,upd_same,xs,(qe (Ne.symm h0)).trans h2,h3⟩,fun a d ha e=>(qe ha).trans e,xs,(qe (Ne.symm h0)).trans h2,?_⟩
  refine substr hm.symm (substr getElem?_map (substr hv ?_));rfl
 done:=by
  intro M H E q' s hs
  refine qbI q' fun h0 h1 xs h2 h3=>?_
  have hri:s.heap.IsRevIter it l (-1):=by have:=(hs.own _ _ h1).2.2;rw[show(n:Int)-1-n = -1 from by exact qyI] at this;exact this
  refine wpAny_pyNext_rev_end hh hri fun h' hsb=>?_
  exact⟨M,_,hs.ext h1 hsb,rfl,rfl,fun a d ha e=>(qb1 ha).trans e⟩
 self:=by
  intro k M H E q' s hs
  refine oAA q' fun h0 h1 _=>?_
  have hri:s.heap.IsRevIter it l ((n:Int)-1-k):=(hs.own _ _ h1).2.2
  exact wpAny_pyIter_revIter hri ⟨M,H,hs,rfl,rfl,rfl⟩
theorem qhD(hh:D.A.handled=none){it:Addr}{a:Int}{n:Nat}{x:Str}{pos:Pos}:Iter (model prog w) D (.Name x pos) (.ref it) (fun b=>b=it) (fun b=>b=it) n
 (fun k H=>H it=some (qeL (a+k) ((n:Int)-k))) (fun k p H=>p=I (a+k)) where
 frame:=fun h1 hf=>hf _ rfl _ h1
 live:=fun h1 a ha=>⟨_,ha▸h1⟩
 item:=by
  intro k M H E hk h1 s hs
  have hri:IsRangeIter s.heap it (a+k) ((n:Int)-k) 1:=(hs.own _ _ h1).2.2
  refine wpAny_pyNext_range_item hri (qyJ hk) fun h' hi hsb=>?_
  have e1:a+k+1=a+((k+1:Nat):Int):=qyK
  have e2:(n:Int)-k-1=(n:Int)-((k+1:Nat):Int):=qyL
  rw[e1,e2] at hi
  have hat:=(hs.change (d':=qeL (a+((k+1:Nat):Int)) ((n:Int)-((k+1:Nat):Int))) h1 hsb hi).toks (s.toks+1)
  exact⟨M,_,hat,_,rfl,fun s' hs'=>wpAny_pure ⟨M,_,hs',rfl,upd_same,fun b d hb e=>(qe hb).trans e,rfl⟩⟩
 done:=by
  intro M H E h1 s hs
  have hri:IsRangeIter s.heap it (a+n) ((n:Int)-n) 1:=(hs.own _ _ h1).2.2
  refine wpAny_pyNext_range_end hh hri (qyM) fun h' hsb=>?_
  exact⟨M,_,hs.ext h1 hsb,rfl,rfl,fun b d hb e=>(qb1 hb).trans e⟩
 self:=by
  intro k M H E h1 s hs
  have hri:IsRangeIter s.heap it (a+k) ((n:Int)-k) 1:=(hs.own _ _ h1).2.2
  exact wpAny_pyIter_rangeiter hri ⟨M,H,hs,rfl,rfl,rfl⟩
theorem qbN{M:Model}{A:Around}{R:Value->Shared->Prop}{e:Value}{s:Shared}(h:NoE e s):notedBy M A env R e s:=h.elim
theorem qej{l:Addr}{xs:List Value}{Φ:Value->Loc->AH->Prop}(hl:H l=some (lst xs))(h:∀ r,H r=none->Φ (.ref r) M (upd H r (qax l 0))):
 ∀ x,norm x=.ref l->WX (model prog w) D (pyIter x) M H Φ E:=by
 intro x hx s hs
 refine substr (qz hx) ?_
 refine oEA (hs.list hl) fun vs hL hm=>?_
 exact wpAny_pyIter_list hL ⟨M,_,hs.alloc (d:=qax l 0) rfl fun h e=>⟨_,e,rfl,rfl⟩,h _ hs.fresh⟩
noncomputable def qgj(Mo:Model)(D:Dyn)(target:Expr)(it:Value)(body:List Stmt)(env:Env)(M:Loc)(H:AH)(Φ:Flow->Loc->AH->Prop)(E:Value->Shared->Prop):Prop:=
 ∀ s,At D s M H->codeAny Mo D.A (.forLoop target it body [] env) (fun r s'=>match r with | .ok f=>Post D (fun f=>Φ (qeK f)) f s' | .error e=>cameBackBy Mo D.A env E e s') s
theorem qok{target iter:Expr}{body rest:List Stmt}{pos:Pos}{Φ:Flow->Loc->AH->Prop}
 (h:WV (model prog w) D (eval iter env) M H (fun p M1 H1=>∀ x,norm x=p->WX (model prog w) D (pyIter x) M1 H1 (fun it M2 H2=>qgj (model prog w) D target it body env M2 H2 (Seq (model prog w) D rest env Φ E) E) E) E)
 (hs:∀ x,foldedSetIterable iter env x=pure x:=by intro _;rfl):
 WS (model prog w) D (execs (.For target iter body [] pos::rest) env) M H Φ E:=
 qam fun s hs'=>wpAny_For (wpAny_mono (h s hs') (fun x s1 q'=>Post.el q' fun _ _ hs1 h1=>wpAny_mono (h1 x rfl s1 hs1) (fun it s2 q'=>Post.el q' fun _ _ hs2 h2=>h2 s2 hs2) fun _ _ x=>x) fun _ _ x=>x) hs
noncomputable def TurnEnd(Φ:Flow->Loc->AH->Prop)(J:Loc->AH->Prop):Flow->Loc->AH->Prop
 | .next,M,H=>J M H
 | .cont,M,H=>J M H
 | .brk,M,H=>Φ .next M H
 | .ret p,M,H=>Φ (.ret p) M H
inductive qzs(D:Dyn)(n:Nat)(J:Nat->Loc->AH->Prop)(m:Nat)(s:Shared):Prop
 | mk(k:Nat)(M:Loc)(H:AH)(hk:k<=n)(hm:m=n-k)(hs:At D s M H)(j:J k M H)
theorem qlL{target:Expr}{it:Value}{body:List Stmt}{pr fp:Addr->Prop}{n:Nat}{St:Nat->AH->Prop}{Yl:Nat->Value->AH->Prop}{Φ:Flow->Loc->AH->Prop}
 (I:Iter (model prog w) D target it pr fp n St Yl) (J:Nat->Loc->AH->Prop)
 (hJ:∀ {k M H},J k M H->St k H) (h0:J 0 M H)
 (step:∀ k M H H2 v,k<n->J k M H->St (k+1) H2->(∀ a d,¬ pr a->H a=some d->H2 a=some d)->Yl k (norm v) H2->
  WX (model prog w) D (assign target env v) M H2 (fun _ M3 H3=>WS (model prog w) D (execs body env) M3 H3 (TurnEnd Φ (J (k+1))) NoE) NoE)
 (fin:∀ M H H1,J n M H->(∀ a d,¬ pr a->H a=some d->H1 a=some d)->Φ .next M H1):
 qgj (model prog w) D target it body env M H Φ E:=by
 intro s hs
 refine codeAny_forLoop_any (qzs D n J) ?_ n ⟨0,M,H,Nat.zero_le _,rfl,hs,h0⟩
 rintro m s ⟨k,M,H,hk,rfl,hs,hj⟩
 rcases Nat.lt_or_ge k n with hlt | hge
 ·refine wpAny_mono (I.item (E:=NoE) hlt (hJ hj) s hs) (fun r s1 h1=>?_) fun _ _ x=>qbN x
  obtain⟨M1,H1,hs1,v,rfl,h1⟩:=h1
  refine wpAny_mono (h1 s1 hs1) (fun _ s2 h2=>?_) fun _ _ x=>qbN x
  obtain⟨M2,H2,hs2,eM,hst,hkeep,hy⟩:=h2
  replace hs2:At D s2 M H2:=eM▸hs2
  refine wpAny_mono (step k M H H2 v hlt hj hst hkeep hy s2 hs2) (fun _ s3 h3=>?_) fun _ _ x=>qbN x
  obtain⟨M3,H3,hs3,h3⟩:=h3
  refine wpAny_mono (h3 s3 hs3) (fun f s4 h4=>?_) fun _ _ x=>qbN x
  obtain⟨M4,H4,hs4,h4⟩:=h4
  cases f with
  | next=>exact⟨n-(k+1),qfd hlt,k+1,M4,H4,hlt,rfl,hs4,h4⟩
  | cont=>exact⟨n-(k+1),qfd hlt,k+1,M4,H4,hlt,rfl,hs4,h4⟩
  | brk=>exact⟨M4,H4,hs4,h4⟩
  | ret p=>exact⟨M4,H4,hs4,h4⟩
 ·have ek:=Nat.le_antisymm hk hge
  refine wpAny_mono (I.done (E:=NoE) (hJ (ek▸hj)) s hs) (fun r s1 h1=>?_) fun _ _ x=>qbN x
  obtain⟨M1,H1,hs1,rfl,eM,hkeep⟩:=h1
  exact wpAny_execs_nil ⟨M,_,eM▸hs1,fin M H H1 (ek▸hj) hkeep⟩
inductive LtJ(n:Nat)(J:Nat->Loc->AH->Prop)(M:Loc)(H:AH):Prop
 | mk(m:Nat)(h:m<n)(j:J m M H)
inductive qjG(P:Loc->AH->Prop)(f:Flow)(M:Loc)(H:AH):Prop
 | mk(e:f=.next)(k:P M H)
theorem qeM{test:Expr}{body rest:List Stmt}{pos:Pos}{Φ:Flow->Loc->AH->Prop}(J:Nat->Loc->AH->Prop){n:Nat}(h0:J n M H)
 (step:∀ n M H,J n M H->WX (model prog w) D (isTrue test env (eval test env)) M H (fun b M1 H1=>
  (b=true->WS (model prog w) D (execs body env) M1 H1 (TurnEnd (Seq (model prog w) D rest env Φ E) (LtJ n J)) NoE)/\(b=false->WS (model prog w) D (execs rest env) M1 H1 Φ E)) NoE):
 WS (model prog w) D (execs (.While test body [] pos::rest) env) M H Φ E:=by
 refine qam fun s hs=>wpAny_While ?_
 refine codeAny_whileLoop (fun n s=>Post D (fun(_:Unit)=>J n) () s) ?_ n ⟨M,H,hs,h0⟩
 rintro n s ⟨M,H,hs,hj⟩
 refine wpAny_mono (step n M H hj s hs) (fun b s1 h1=>?_) fun _ _ x=>qbN x
 obtain⟨M1,H1,hs1,k⟩:=h1
 cases b with
 | true=>
  refine wpAny_mono (k.1 rfl s1 hs1) (fun f s2 h2=>?_) fun _ _ x=>qbN x
  obtain⟨M2,H2,hs2,h2⟩:=h2
  cases f with
  | next=>obtain⟨m,hm,hj⟩:=h2;exact⟨m,hm,M2,H2,hs2,hj⟩
  | cont=>obtain⟨m,hm,hj⟩:=h2;exact⟨m,hm,M2,H2,hs2,hj⟩
  | brk=>exact⟨M2,H2,hs2,h2⟩
  | ret p=>exact⟨M2,H2,hs2,h2⟩
 | false=>exact wpAny_execs_nil ⟨M1,H1,hs1,k.2 rfl⟩
theorem qg1{elt target iter:Expr}{ifs:List Expr}{scope:Scope}{pos:Pos}{it acc:Value}{env:Env}{A:Around}{R:Result->Shared->Prop}(I:Nat->Shared->Prop)
 (turn:∀ n s,I n s->wpAny (model prog w) A (pyNext it) (fun r s₁=>match r with
  | none=>R (.ok .next) s₁
  | some v=>wpAny (model prog w) A (letOwnedTupleGo target it v) (fun _ s₁'=>wpAny (model prog w) A (assign target env v) (fun _ s₂=>
   wpAny (model prog w) A (forIn ifs true fun c r=>if r=true then do let ok <- isTrue c env (eval c env);pure (ForInStep.yield ok) else pure (ForInStep.yield r)) (fun ok s₃=>
    if ok=true then wpAny (model prog w) A (eval elt env) (fun x s₄=>
     wpAny (model prog w) A (call (.builtin "list.append") [acc,x]) (fun _ s₅=>∃ m,m<n/\I m s₅) NoE s₄) NoE s₃
    else ∃ m,m<n/\I m s₃) NoE s₂) NoE s₁') NoE s₁) NoE s)
 (n:Nat) {s:Shared} (h:I n s):
 codeAny (model prog w) A (.compLoop (.ListComp elt [⟨target,iter,ifs,0⟩] scope pos) 0 it acc env) R s:=by
 refine codeAny_loop rfl I (fun n s hI=>?_) n h
 show wpAny _ A ((compTurn (.ListComp elt [⟨target,iter,ifs,0⟩] scope pos) 0 it acc env).onRaise (fun x=>do noteFrame x env;theTreesLotGoes x)) _ _ s
 refine wpAny_noted ?_
 refine substr (compTurn_list ..) ?_
 refine wpAny_bind (wpAny_standAt (wpAny_bind (wpAny_mono (turn n s hI) (fun r s₁ h₁=>?_) fun _ _ h'=>h'.elim)))
 cases r with
 | none=>exact wpAny_pure h₁
 | some v=>
  refine wpAny_bind (wpAny_mono h₁ (fun _ s₁' h₁'=>?_) fun _ _ h'=>h'.elim)
  refine wpAny_bind (wpAny_mono h₁' (fun _ s₂ h₂=>wpAny_bind (wpAny_mono h₂ (fun ok s₃ h₃=>?_) fun _ _ h'=>h'.elim)) fun _ _ h'=>h'.elim)
  cases ok with
  | false=>exact wpAny_pure ⟨rfl,h₃⟩
  | true=>
   exact wpAny_bind (wpAny_bind (wpAny_mono h₃ (fun x s₄ h₄=>wpAny_bind (wpAny_mono h₄ (fun _ s₅ h₅=>wpAny_pure (wpAny_pure ⟨rfl,h₅⟩)) fun _ _ h'=>h'.elim)) fun _ _ h'=>h'.elim))
noncomputable def Tests(Mo:Model)(D:Dyn)(ifs:List Expr)(env:Env)(M:Loc)(H:AH)(Φ:Bool->Loc->AH->Prop)(E:Value->Shared->Prop):Prop:=
 match ifs with
 | []=>Φ true M H
 | [c]=>WX Mo D (isTrue c env (eval c env)) M H Φ E
 | _=>False
theorem Tests.tree{ifs:List Expr}{Φ:Bool->Loc->AH->Prop}(h:Tests (model prog w) D ifs env M H Φ E):
 WX (model prog w) D (forIn ifs true fun c r=>if r=true then do let ok <- isTrue c env (eval c env);pure (ForInStep.yield ok) else pure (ForInStep.yield r)) M H Φ E:=by
 match ifs,h with
 | [],h=>exact fun s hs=>wpAny_tests_nil ⟨M,H,hs,h⟩
 | [c],h=>exact fun s hs=>wpAny_tests_one (h s hs)
theorem qhE{l:Addr}{xs:List Value}{Φ:Value->Loc->AH->Prop}{p:Value}(hl:H l=some (lst xs))(hz:xs.length<=sizeLine)(h:Φ .none M (upd H l (lst (xs++[p])))):
 ∀ v u,norm v=.ref l->norm u=p->WV (model prog w) D (call (.builtin "list.append") [v,u]) M H Φ E:=by
 intro v u hv hu s hs
 refine substr (qz hv) ?_
 refine qau (hs.own _ _ hl) fun _ _ vs n e r=>?_
 refine wpAny_call_entry slot_list_append ⟨_,e,rfl⟩ entry_list_append ?_ (args_list_append _ _)
 show wpAny _ _ (updateSeq l (·.push u) >>= fun _=>ret .none) _ _ s
 have hsz:vs.size=xs.length:=by refine substr r.symm ?_;simp
 refine wpAny_bind (wpAny_updateSeq e rfl (wpAny_pure ⟨.none,rfl,M,_,hs.change (d':=lst (xs++[p])) hl (Heap.SameBut.update ..) ?_,h⟩) (qlB hz hsz) (by refine substr (Array.size_push ..) ?_;exact qyN hz hsz))
 refine⟨vs.push u,n+1,?_,?_⟩
 ·refine substr (Heap.get?_update_self _ e (by simp[Obj.mapSeq,Obj.isFreed])) ?_
  simp[Obj.mapSeq]
 ·refine substr Array.toList_push (substr map_append (substr r (substr List.map_singleton (substr hu rfl))))
noncomputable def qaB(ks ks0:List (String×NameKind)):List (String×NameKind):=ks0.map fun p=>if (p.2==.free&&qt p.1 ks==some .cell)=true then(p.1,.cell) else p
theorem qg2{scope:Scope}{ks ks0:List (String×NameKind)}(ke:KE env ks)(hn:scope.names=ks0.map fun p=>(Str.ofString p.1,p.2)):
 (relabel scope env).names=(qaB ks ks0).map fun p=>(Str.ofString p.1,p.2):=by
 unfold relabel qaB
 simp only[hn,map_map]
 refine List.map_congr_left fun p _=>?_
 have e:env.kindOf (Str.ofString p.1)=qt p.1 ks:=by unfold Env.kindOf;refine substr ke.names (substr (qaI ..) rfl)
 simp only[Function.comp,e,ke.kind]
 by_cases h:(p.2==.free&&qt p.1 ks==some .cell)=true
 ·simp only[h,if_true]
  have:(p.2==NameKind.free&&ScopeKind.function==ScopeKind.function&&qt p.1 ks==some .cell)=true:=by simpa using h
  refine substr (if_pos this) rfl
 ·have:¬ (p.2==NameKind.free&&ScopeKind.function==ScopeKind.function&&qt p.1 ks==some .cell)=true:=by simpa using h
  refine substr (if_neg this) ?_;simp only[h];rfl
theorem qlM{scope:Scope}{cl:List (Str×Addr)}{g:Addr}{q:Str}{Φ:Env->Loc->AH->Prop}(hc:∀ x∈scope.names,x.2≠.cell)(hk:scope.kind=.function)
 (h:∀ Lc,H Lc=none->Φ { scope:=scope,locals:=Lc,globals:=g,cells:=cl,qual:=q,func:=none,code:=env.code,frame:=env.frame,builtins:=env.builtins } M (upd H Lc (.ns []))):
 WX (model prog w) D (newFunctionEnv scope g cl [] q none .none (some env)) M H Φ E:=by
 intro s hs
 refine wpAny_newFunctionEnv hc (by intro y hy;simp at hy) (fun h₁ hns₁ hsb₁=>?_) hk
 refine⟨M,_,?_,h _ hs.fresh⟩
 have a1:=hs.alloc (o:={ cls:=.type "dict",data:=.dict #[] }) (d:=.ns []) rfl fun h' e=>⟨fun _=>none,⟨_,#[],0,e,rfl,fun _ he=>by simp at he,fun _=>rfl⟩,fun x=>rfl⟩
 have a2:=a1.change (b:=s.heap.objs.size) (d':=.ns []) upd_same hsb₁ ⟨_,hns₁,fun x=>rfl⟩
 refine(a2.sub fun b d e=>?_).toks _
 unfold upd at e ⊢
 split<;>rename_i hb
 ·rw[if_pos hb] at e;exact e
 ·rw[if_neg hb] at e;simpa [hb] using e
theorem qlN{scope:Scope}{cl:List (Str×Addr)}{g:Addr}{q z:Str}{Φ:Env->Loc->AH->Prop}(hcf:∀ n,cellsFrom n scope.names cl=(z,n)::cl)
 (hpc:∀ h,pushCells h scope.names=h.push { cls:=.type "cell",data:=.cell none })
 (h:∀ Lc c,H Lc=none->H c=none->c≠Lc->Φ { scope:=scope,locals:=Lc,globals:=g,cells:=(z,c)::cl,qual:=q,func:=none,code:=env.code,frame:=env.frame,builtins:=env.builtins } M (upd (upd H Lc (.ns [])) c (.cell none))):
 WX (model prog w) D (newFunctionEnv scope g cl [] q none .none (some env)) M H Φ E:=by
 intro s hs
 simp only[newFunctionEnv,Option.isSome_some,if_true]
 refine wpAny_bind (wpAny_alloc ?_)
 refine wpAny_bind (wpAny_layCells _ (fun name kind cells=>by cases hkc:kind==NameKind.cell<;>simp[hkc]) _ _ _ _ ?_)
 refine substr (hcf ..) (substr (hpc ..) ?_)
 refine wpAny_bind ?_
 refine substr List.forIn_nil ?_
 refine wpAny_pure (wpAny_pure ?_)
 have a1:=hs.alloc (o:={ cls:=.type "dict",data:=.dict #[] }) (d:=.ns []) rfl fun h' e=>⟨fun _=>none,⟨_,#[],0,e,rfl,fun _ he=>by simp at he,fun _=>rfl⟩,fun x=>rfl⟩
 have a2:=a1.alloc (o:={ cls:=.type "cell",data:=.cell none }) (d:=.cell none) rfl fun h' e=>⟨none,⟨_,e,rfl⟩,rfl⟩
 have hne:(s.heap.push { cls:=.type "dict",data:=.dict #[] }).objs.size≠s.heap.objs.size:=by refine substr (Heap.size_push ..) ?_;exact qyO
 exact⟨M,_,a2,h _ _ hs.fresh (by have:=a1.fresh;exact(qe hne).symm.trans this) hne⟩
section
variable{ks ks0:List (String×NameKind)}
theorem qoN{scope:Scope}{cl:List (Str×Addr)}{Lc:Addr}(ke:KE env ks)(hk:scope.kind=.function)(hn:scope.names=ks0.map fun p=>(Str.ofString p.1,p.2))
 (hd:qt "__debug__" (qaB ks ks0)=none):KE (compEnvC scope cl Lc env) (qaB ks ks0):=
 ⟨hk,ke.glob,ke.blt,qg2 ke hn,hd⟩
theorem qat{scope:Scope}(hn:scope.names=ks0.map fun p=>(Str.ofString p.1,p.2))(h:∀ p∈ks0,p.2≠.free):closureFor scope env=pure []:=
 closureFor_none fun x hx=>by
  rw[hn] at hx
  (refine oEA (List.mem_map.mp hx) fun p hp e2'=>?_;obtain rfl:=e2')
  exact h p hp
theorem qfI{x:String}{pos:Pos}{v p:Value}{M':Loc}{H':AH}{Mo:Model}{Φ:Unit->Loc->AH->Prop}(hp:norm v=p)(st:qcB Mo D env x p M H M' H')(h:Φ () M' H'):
 WX Mo D (assign (.Name (Str.ofString x) pos) env v) M H Φ E:=by
 refine substr (arm_assign_Name ..) ?_
 exact qaO (qef (qfF hp st h))
end
section
noncomputable abbrev qfJ(x:Str)(t:Tok)(k:Nat):HO:=.it (strIterType x) #[.str x t,.int k 0]
noncomputable def Kp(P:Addr->Prop)(H H':AH):Prop:=∀ a d,¬ P a->H a=some d->H' a=some d
structure Drw(Mo:Model)(D:Dyn)(it:Addr)(n:Nat)(fp:Addr->Prop)(St:Nat->AH->Prop)(P:Nat->Value->AH->Prop):Prop where
 frame:∀ {k H H'},St k H->(∀ a,a=it\/fp a->∀ d,H a=some d->H' a=some d)->St k H'
 stay:∀ {k p H H'},P k p H->(∀ a,fp a->∀ d,H a=some d->H' a=some d)->P k p H'
 live:∀ {k H},St k H->∃ d,H it=some d
 item:∀ {k M H s E},k<n->St k H->At D s M H->wpAny Mo D.A.in1 (Builtin.SmallTypes.nextOf (.ref it)) (fun v s1=>∃ H1,At D s1 M H1/\St (k+1) H1/\Kp (·=it) H H1/\P k (norm v) H1) E s
 done:∀ {M H s E'},St n H->At D s M H->(∀ a o s1 H1,s1.heap.get? a=some o->o.cls=.type "StopIteration"->At D s1 M H1->Kp (·=it) H H1->E' (.ref a) s1)->
  wpAny Mo D.A.in1 (Builtin.SmallTypes.nextOf (.ref it)) (fun _ _=>False) E' s
theorem qlO(hh:D.A.handled=none){it l:Addr}{n:Nat}(hne:it≠l):Drw (model prog w) D it n (·=l)
 (fun k H=>H it=some (qax l k)/\∃ xs,H l=some (lst xs)/\xs.length=n) (fun k p H=>∃ xs,H l=some (lst xs)/\xs[k]?=some p) where
 frame:=fun q' hf=>qlJ q' fun h1 xs h2 h3=>⟨hf _ (.inl rfl) _ h1,xs,hf _ (.inr rfl) _ h2,h3⟩
 stay:=fun q' hf=>oEA q' fun xs h2 h3=>⟨xs,hf _ rfl _ h2,h3⟩
 live:=fun q'=>oA q' fun h1 _=>⟨_,h1⟩
 item:=by
  intro k M H s E hk q' hs
  refine qlJ q' fun h1 xs h2 h3=>?_
  refine oEA (hs.list h2) fun vs hL hm=>?_
  have hvl:vs.length=n:=by refine substr h3.symm (substr hm.symm (substr (length_map ..) rfl))
  obtain⟨v,hv⟩:∃ v,vs[k]?=some v:=⟨_,getElem?_eq_getElem (ar1 hk hvl)⟩
  refine wpAny_nextOf_list_item (hs.listIt h1) hL (by simpa using hv) fun h' hi hsb=>?_
  refine⟨_,hs.change (d':=qax l (k+1)) h1 hsb hi,⟨upd_same,xs,(qe (Ne.symm hne)).trans h2,h3⟩,fun a d ha e=>(qe ha).trans e,xs,(qe (Ne.symm hne)).trans h2,?_⟩
  refine substr hm.symm (substr getElem?_map (substr hv ?_));rfl
 done:=by
  intro M H s E' q' hs k
  refine qlJ q' fun h1 xs h2 h3=>?_
  refine oEA (hs.list h2) fun vs hL hm=>?_
  have hvl:vs.length=n:=by refine substr h3.symm (substr hm.symm (substr (length_map ..) rfl))
  refine wpAny_nextOf_list_end hh (hs.listIt h1) hL (by simp[hvl]) fun h' e hsb q'=>oEA q' fun o ho hc=>?_
  exact k e o _ _ ho hc (hs.ext h1 hsb) fun a d ha e=>(qb1 ha).trans e
theorem qoO(hh:D.A.handled=none){it:Addr}{x:Str}:Drw (model prog w) D it x.cps.size (fun _=>False)
 (fun k H=>∃ t,H it=some (qfJ x t k)) (fun k p _=>∃ c,x.cps[k]?=some c/\p=S ⟨#[c]⟩) where
 frame:=fun q' hf=>oE q' fun t h1=>⟨t,hf _ (.inl rfl) _ h1⟩
 stay:=fun h _=>h
 live:=fun q'=>oE q' fun t h1=>⟨_,h1⟩
 item:=by
  intro k M H s E hk ⟨t,h1⟩ hs
  have hi:s.heap.IsStrIter it (strIterType x) x t k:=(hs.own _ _ h1).2.2
  have fin:∀ h',h'.IsStrIter it (strIterType x) x t (k+1)->Heap.SameBut it s.heap h'->∃ H1,At D { s with heap:=h',toks:=s.toks+1 } M H1/\(∃ t,H1 it=some (qfJ x t (k+1)))/\Kp (·=it) H H1/\∃ c,x.cps[k]?=some c/\norm (.str ⟨#[x.cps[k]]⟩ s.toks)=S ⟨#[c]⟩:=
   fun h' hi' hsb=>⟨_,(hs.change (d':=qfJ x t (k+1)) h1 hsb hi').toks _,⟨t,upd_same⟩,fun a d ha e=>(qe ha).trans e,_,by simp[hk],rfl⟩
  cases ha:x.cps.all (·<128) with
  | true=>
   have e:strIterType x = "str_ascii_iterator":=by simp[strIterType,ha]
   rw[e] at hi fin
   exact wpAny_nextOf_ascii_item hi (c:=x.cps[k]) (by simp[hk]) fun h' hi' hsb=>fin h' hi' hsb
  | false=>
   have e:strIterType x = "str_iterator":=by simp[strIterType,ha]
   rw[e] at hi fin
   exact wpAny_nextOf_wide_item hi (c:=x.cps[k]) (by simp[hk]) fun h' hi' hsb=>fin h' hi' hsb
 done:=by
  intro M H s E' ⟨t,h1⟩ hs k
  have hi:s.heap.IsStrIter it (strIterType x) x t x.cps.size:=(hs.own _ _ h1).2.2
  have fin:∀ h' e,Heap.ExtBut it s.heap h'->(∃ o,h'.get? e=some o/\o.cls=.type "StopIteration")->E' (.ref e) { s with heap:=h' }:=
   fun h' e hsb q'=>oEA q' fun o ho hc=>k e o _ _ ho hc (hs.ext h1 hsb) fun a d ha e=>(qb1 ha).trans e
  cases ha:x.cps.all (·<128) with
  | true=>
   have e:strIterType x = "str_ascii_iterator":=by simp[strIterType,ha]
   rw[e] at hi
   exact wpAny_nextOf_ascii_end hh hi (by simp) fin
  | false=>
   have e:strIterType x = "str_iterator":=by simp[strIterType,ha]
   rw[e] at hi
   exact wpAny_nextOf_wide_end hh hi (by simp) fin
theorem qbK{c i z:Addr}{P:Prop}(hc:c=i\/P)(A:i≠z)(B:P->c≠z):c≠z:=hc.elim (fun e=>e▸A) B
noncomputable abbrev qa8(f0:Value)(TI TO:Addr):HO:=.raw { cls:=.type "zip",dict:=none,data:=.fields #[f0,.bool false,.bool false,.ref TI,.ref TO],slots:=#[] }
noncomputable abbrev qbf(a b:Value):HO:=.raw { cls:=.type "tuple",data:=.seq #[a,b] }
structure Zap(z TI TO i1 i2:Addr)(fp1 fp2:Addr->Prop):Prop where
 TIz:TI≠z
 TOz:TO≠z
 TITO:TI≠TO
 TIi1:TI≠i1
 TIi2:TI≠i2
 i1z:i1≠z
 i2z:i2≠z
 TOi1:TO≠i1
 TOi2:TO≠i2
 i12:i1≠i2
 f1:∀ a,fp1 a->a≠z/\a≠TO/\a≠i1/\a≠i2
 f2:∀ a,fp2 a->a≠z/\a≠TO/\a≠i1/\a≠i2
variable{z TI TO i1 i2:Addr}{n1 n2:Nat}{fp1 fp2:Addr->Prop}{St1 St2:Nat->AH->Prop}{P1 P2:Nat->Value->AH->Prop}
theorem At.pairUpd{s:Shared}{T:Addr}{a b x:Value}{k:Nat}(hs:At D s M H)(hT:H T=some (qbf a b)){Q:Unit->Shared->Prop}
 (h:∀ s',At D s' M (upd H T (.raw { cls:=.type "tuple",data:=.seq ((#[a,b]:Array Value).setIfInBounds k x) }))->Q () s'):
 wpAny (model prog w) D.A.in1 (updateSeq T (·.setIfInBounds k x)) Q E s:=
 wpAny_updateSeq_pair (hs.own _ _ hT).2.2 fun h' h1 h2=>h _ (hs.change hT h2 h1)
theorem qqh(hh:D.A.handled=none)(X1:Drw (model prog w) D i1 n1 fp1 St1 P1)(X2:Drw (model prog w) D i2 n2 fp2 St2 P2)(Z:Zap z TI TO i1 i2 fp1 fp2){n:Nat}(hn:n=min n1 n2){elts:List Expr}{kk:Nat}{pos:Pos}:
 Iter (model prog w) D (.Tuple elts kk pos) (.ref z) (fun a=>a=z\/a=TO\/a=i1\/a=i2) (fun a=>a=z\/a=TO\/a=i1\/a=i2\/a=TI\/fp1 a\/fp2 a) n
  (fun k H=>H z=some (qa8 .none TI TO)/\H TI=some (qbf (.ref i1) (.ref i2))/\(∃ a b,H TO=some (qbf a b))/\St1 k H/\St2 k H)
  (fun k v H=>∃ T p q,v=.ref T/\H T=some (tup [p,q])/\P1 k p H/\P2 k q H) where
 frame:=fun⟨h1,h2,⟨a,b,h3⟩,h4,h5⟩ hf=>⟨hf _ (by simp) _ h1,hf _ (by simp) _ h2,⟨a,b,hf _ (by simp) _ h3⟩,
  X1.frame h4 fun c hc d e=>hf c (hc.elim (fun e=>e▸by simp) fun h=>by simp[h]) d e,X2.frame h5 fun c hc d e=>hf c (hc.elim (fun e=>e▸by simp) fun h=>by simp[h]) d e⟩
 live:=fun⟨hz,_,⟨a,b,hTO⟩,h1,h2⟩ c hc=>by
  rcases hc with rfl | rfl | rfl | rfl
  ·exact⟨_,hz⟩
  ·exact⟨_,hTO⟩
  ·exact X1.live h1
  ·exact X2.live h2
 self:=by
  intro k M H E ⟨h1,_⟩ s hs
  exact wpAny_pyIter_zip (hs.own _ _ h1).2.2 ⟨M,H,hs,rfl,rfl,rfl⟩
 item:=by
  rintro k M H E hk ⟨hz,hTI,⟨a,b,hTO⟩,h1,h2⟩ s hs
  refine qkE fun R hR=>?_
  have hk1:k<n1:=ar2 hn hk
  have hk2:k<n2:=ar3 hn hk
  have gz:=(hs.own _ _ hz).2.2
  have hT:s.TypeIs (.ref z) "zip":=⟨_,gz,rfl⟩
  unfold pyNext
  refine wpAny_bind (wpAny_attempt (wpAny_callSpecial?_slot (name:=Str.ofString "__next__") hT F.slot_zip_next (wpAny_call_entry F.slot_zip_next hT F.entry_zip_next ?_ (F.args_zip_next_1 _))))
  show wpAny _ _ (field (.ref z) 2 >>= _) _ _ _
  refine wpAny_bind (wpAny_field gz rfl (x:=.bool false) rfl ?_)
  show wpAny _ _ (field (.ref z) 3 >>= _) _ _ _
  refine wpAny_bind (wpAny_field gz rfl (x:=.ref TI) rfl ?_)
  refine wpAny_bind (wpAny_seqItems (hs.own _ _ hTI).2.2 rfl ?_)
  show wpAny _ _ (Builtin.SmallTypes.ownedTupleIsFree (.ref z) >>= _) _ _ _
  refine wpAny_bind ?_
  unfold Builtin.SmallTypes.ownedTupleIsFree
  refine wpAny_bind (wpAny_field gz rfl (x:=.none) rfl (wpAny_pure ?_))
  simp only[if_true]
  refine wpAny_bind (wpAny_rule ?_)
  refine wpAny_bind (wpAny_field gz rfl (x:=.ref TO) rfl ?_)
  refine wpAny_bind (wpAny_setField_rec gz (by simp) fun g1 gz1 sb1=>?_)
  have hs1:=hs.change (d':=qa8 .ellipsis TI TO) hz sb1 gz1
  have h1':=X1.frame (H':=upd H z (qa8 .ellipsis TI TO)) h1 fun c hc d e=>(qe (qbK hc Z.i1z fun hc=>(Z.f1 _ hc).1)).trans e
  have h2':=X2.frame (H':=upd H z (qa8 .ellipsis TI TO)) h2 fun c hc d e=>(qe (qbK hc Z.i2z fun hc=>(Z.f2 _ hc).1)).trans e
  refine wpAny_bind ?_
  simp only[List.zipIdx_cons,List.zipIdx_nil,List.forIn_cons,List.forIn_nil]
  refine wpAny_bind (wpAny_bind (wpAny_onRaise ?_))
  show wpAny _ _ (Builtin.SmallTypes.nextOf (.ref i1) >>= _) _ _ _
  refine wpAny_bind (wpAny_mono (X1.item hk1 h1' hs1) (fun v1 s2 q'=>qdb q' fun H2 hs2 t1 K2 q1=>wpAny_pure ?_) fun _ _ x=>x)
  have hTO2:H2 TO=some (qbf a b):=K2 _ _ Z.TOi1 ((qe Z.TOz).trans hTO)
  have hz2:H2 z=some (qa8 .ellipsis TI TO):=K2 _ _ (Ne.symm Z.i1z) upd_same
  have hTI2:H2 TI=some (qbf (.ref i1) (.ref i2)):=K2 _ _ Z.TIi1 ((qe Z.TIz).trans hTI)
  have t2:=X2.frame h2' fun c hc d e=>K2 c d (qbK hc (Ne.symm Z.i12) fun hc=>(Z.f2 _ hc).2.2.1) e
  refine wpAny_bind (wpAny_seqItems (hs2.own _ _ hTO2).2.2 rfl ?_)
  refine wpAny_bind (hs2.pairUpd hTO2 fun s3 hs3=>?_)
  refine wpAny_bind (wpAny_letGo (wpAny_pure ?_))
  have t1':=X1.frame (H':=upd H2 TO (qbf v1 b)) t1 fun c hc d e=>(qe (qbK hc (Ne.symm Z.TOi1) fun hc=>(Z.f1 _ hc).2.1)).trans e
  have t2':=X2.frame (H':=upd H2 TO (qbf v1 b)) t2 fun c hc d e=>(qe (qbK hc (Ne.symm Z.TOi2) fun hc=>(Z.f2 _ hc).2.1)).trans e
  have q1':=X1.stay (H':=upd H2 TO (qbf v1 b)) q1 fun c hc d e=>(qe (Z.f1 _ hc).2.1).trans e
  refine wpAny_bind (wpAny_bind (wpAny_onRaise ?_))
  show wpAny _ _ (Builtin.SmallTypes.nextOf (.ref i2) >>= _) _ _ _
  refine wpAny_bind (wpAny_mono (X2.item hk2 t2' hs3) (fun v2 s4 q'=>qdb q' fun H4 hs4 u2 K4 q2=>wpAny_pure ?_) fun _ _ x=>x)
  have hTO4:H4 TO=some (qbf v1 b):=K4 _ _ Z.TOi2 upd_same
  have hz4:H4 z=some (qa8 .ellipsis TI TO):=K4 _ _ (Ne.symm Z.i2z) ((qe (Ne.symm Z.TOz)).trans hz2)
  have hTI4:H4 TI=some (qbf (.ref i1) (.ref i2)):=K4 _ _ Z.TIi2 ((qe Z.TITO).trans hTI2)
  have u1:=X1.frame t1' fun c hc d e=>K4 c d (qbK hc Z.i12 fun hc=>(Z.f1 _ hc).2.2.2) e
  have q1'':=X1.stay q1' fun c hc d e=>K4 c d (Z.f1 _ hc).2.2.2 e
  refine wpAny_bind (wpAny_seqItems (hs4.own _ _ hTO4).2.2 rfl ?_)
  refine wpAny_bind (hs4.pairUpd hTO4 fun s5 hs5=>?_)
  replace hs5:At D s5 M (upd H4 TO (qbf v1 v2)):=hs5
  refine wpAny_bind (wpAny_letGo (wpAny_pure (wpAny_pure ?_)))
  refine wpAny_bind (wpAny_seqItems (hs5.own _ _ upd_same).2.2 rfl ?_)
  refine wpAny_bind (wpAny_newTuple ?_)
  have hs6:=hs5.alloc (o:={ cls:=.type "tuple",data:=.seq #[v1,v2] }) (d:=tup [norm v1,norm v2]) rfl fun h e=>⟨_,_,e,rfl⟩
  have f5:=hs5.fresh
  generalize hT5:s5.heap.objs.size=T at hs6 f5
  have hzz:(upd H4 TO (qbf v1 v2)) z=some (qa8 .ellipsis TI TO):=(qe (Ne.symm Z.TOz)).trans hz4
  have hz6:=qx (e:=qa8 .ellipsis TI TO) (d:=tup [norm v1,norm v2]) f5 hzz
  have hTz:T≠z:=Ne.symm (qG f5 hzz)
  show wpAny _ _ (Builtin.SmallTypes.ownedTupleHandOut (.ref z) (.ref T) >>= _) _ _ _
  refine wpAny_bind ?_
  unfold Builtin.SmallTypes.ownedTupleHandOut
  refine wpAny_bind (wpAny_setField_rec (hs6.own _ _ hz6).2.2 (by simp) fun g7 gz7 sb7=>?_)
  have hs7:=hs6.change (d':=qa8 (rawInt T) TI TO) hz6 sb7 gz7
  refine wpAny_setField_rec gz7 (by simp) fun g8 gz8 sb8=>?_
  have hs8:=hs7.change (d':=qa8 (rawInt T) TI TO) upd_same sb8 gz8
  refine wpAny_pure ⟨_,rfl,wpAny_pure ?_⟩
  refine hR _ _ ⟨M,_,hs8,_,rfl,fun s9 hs9=>?_⟩
  refine wpAny_letOwnedTupleGo_zip (hs9.own _ _ upd_same).2.2 fun g10 gz10 sb10=>?_
  have hs10:=hs9.change (d':=qa8 .none TI TO) upd_same sb10 gz10
  have up:∀ c d,c≠z->(upd H4 TO (qbf v1 v2)) c=some d->(upd (upd (upd (upd (upd H4 TO (qbf v1 v2)) T (tup [norm v1,norm v2])) z (qa8 (rawInt T) TI TO)) z (qa8 (rawInt T) TI TO)) z (qa8 .none TI TO)) c=some d:=
   fun c d hc e=>(qe hc).trans ((qe hc).trans ((qe hc).trans (qx f5 e)))
  refine⟨M,_,hs10,rfl,⟨upd_same,up _ _ Z.TIz ((qe Z.TITO).trans hTI4),⟨_,_,up _ _ Z.TOz upd_same⟩,?_,?_⟩,?_,T,norm v1,norm v2,rfl,?_,?_,?_⟩
  ·exact X1.frame u1 fun c hc d e=>up c d (qbK hc Z.i1z fun hc=>(Z.f1 _ hc).1) ((qe (qbK hc (Ne.symm Z.TOi1) fun hc=>(Z.f1 _ hc).2.1)).trans e)
  ·exact X2.frame u2 fun c hc d e=>up c d (qbK hc Z.i2z fun hc=>(Z.f2 _ hc).1) ((qe (qbK hc (Ne.symm Z.TOi2) fun hc=>(Z.f2 _ hc).2.1)).trans e)
  ·intro c d hc e
   simp only[not_or] at hc
   refine qdq hc fun c1 c2 c3 c4=>?_
   exact up c d c1 ((qe c2).trans (K4 _ _ c4 ((qe c2).trans (K2 _ _ c3 ((qe c1).trans e)))))
  ·exact(qe hTz).trans ((qe hTz).trans ((qe hTz).trans upd_same))
  ·exact X1.stay q1'' fun c hc d e=>up c d (Z.f1 _ hc).1 ((qe (Z.f1 _ hc).2.1).trans e)
  ·exact X2.stay q2 fun c hc d e=>up c d (Z.f2 _ hc).1 ((qe (Z.f2 _ hc).2.1).trans e)
 done:=by
  rintro M H E ⟨hz,hTI,⟨a,b,hTO⟩,h1,h2⟩ s hs
  refine qkE fun R hR=>?_
  have gz:=(hs.own _ _ hz).2.2
  have hT:s.TypeIs (.ref z) "zip":=⟨_,gz,rfl⟩
  unfold pyNext
  refine wpAny_bind (wpAny_attempt (wpAny_callSpecial?_slot (name:=Str.ofString "__next__") hT F.slot_zip_next (wpAny_call_entry F.slot_zip_next hT F.entry_zip_next ?_ (F.args_zip_next_1 _))))
  show wpAny _ _ (field (.ref z) 2 >>= _) _ _ _
  refine wpAny_bind (wpAny_field gz rfl (x:=.bool false) rfl ?_)
  show wpAny _ _ (field (.ref z) 3 >>= _) _ _ _
  refine wpAny_bind (wpAny_field gz rfl (x:=.ref TI) rfl ?_)
  refine wpAny_bind (wpAny_seqItems (hs.own _ _ hTI).2.2 rfl ?_)
  show wpAny _ _ (Builtin.SmallTypes.ownedTupleIsFree (.ref z) >>= _) _ _ _
  refine wpAny_bind ?_
  unfold Builtin.SmallTypes.ownedTupleIsFree
  refine wpAny_bind (wpAny_field gz rfl (x:=.none) rfl (wpAny_pure ?_))
  simp only[if_true]
  refine wpAny_bind (wpAny_rule ?_)
  refine wpAny_bind (wpAny_field gz rfl (x:=.ref TO) rfl ?_)
  refine wpAny_bind (wpAny_setField_rec gz (by simp) fun g1 gz1 sb1=>?_)
  have hs1:=hs.change (d':=qa8 .ellipsis TI TO) hz sb1 gz1
  have h1':=X1.frame (H':=upd H z (qa8 .ellipsis TI TO)) h1 fun c hc d e=>(qe (qbK hc Z.i1z fun hc=>(Z.f1 _ hc).1)).trans e
  have h2':=X2.frame (H':=upd H z (qa8 .ellipsis TI TO)) h2 fun c hc d e=>(qe (qbK hc Z.i2z fun hc=>(Z.f2 _ hc).1)).trans e
  have fin:∀ {E2:Value->Shared->Prop} {H2:AH} {s2:Shared} (e:Addr) (o:Obj),At D s2 M H2->H2 z=some (qa8 .ellipsis TI TO)->s2.heap.get? e=some o->o.cls=.type "StopIteration"->Kp (fun a=>a=z\/a=TO\/a=i1\/a=i2) H H2->
   wpAny (model prog w) D.A.in1 (setField (.ref z) 0 .none) (fun _ s'=>wpAny (model prog w) D.A (do if <- isInstance (.ref e) (.type "StopIteration") then pure (none:Option Value) else throw (.ref e)) R E s') E2 s2:=by
   intro E2 H2 s2 e o hs2 hz2 ho hc hK
   have gz2:=(hs2.own _ _ hz2).2.2
   refine wpAny_setField_rec gz2 (by simp) fun g3 gz3 sb3=>?_
   have hez:e≠z:=fun x=>by subst x;replace gz2:s2.heap.get? e=_:=gz2;rw[gz2] at ho;cases ho;simp at hc
   refine wpAny_bind (wpAny_isInstance (T := "StopIteration") (b:=true) ⟨o,(sb3.2 e hez).trans ho,hc⟩ isSubtype_stop ?_)
   exact wpAny_pure (hR _ _ ⟨M,_,hs2.change (d':=qa8 .none TI TO) hz2 sb3 gz3,rfl,rfl,fun c d hc e=>(qe (by simp only[not_or] at hc;exact hc.1)).trans (hK c d hc e)⟩)
  refine wpAny_bind ?_
  simp only[List.zipIdx_cons,List.zipIdx_nil,List.forIn_cons,List.forIn_nil]
  refine wpAny_bind (wpAny_bind (wpAny_onRaise ?_))
  show wpAny _ _ (Builtin.SmallTypes.nextOf (.ref i1) >>= _) _ _ _
  rcases Nat.lt_or_ge n n1 with hlt | hge
  ·have e2:n=n2:=by exact ar5 hn hlt
   subst e2
   refine wpAny_bind (wpAny_mono (X1.item hlt h1' hs1) (fun v1 s2 q'=>qdb q' fun H2 hs2 t1 K2 q1=>wpAny_pure ?_) fun _ _ x=>x)
   have hTO2:H2 TO=some (qbf a b):=K2 _ _ Z.TOi1 ((qe Z.TOz).trans hTO)
   have hz2:H2 z=some (qa8 .ellipsis TI TO):=K2 _ _ (Ne.symm Z.i1z) upd_same
   have t2:=X2.frame h2' fun c hc d e=>K2 c d (qbK hc (Ne.symm Z.i12) fun hc=>(Z.f2 _ hc).2.2.1) e
   refine wpAny_bind (wpAny_seqItems (hs2.own _ _ hTO2).2.2 rfl ?_)
   refine wpAny_bind (hs2.pairUpd hTO2 fun s3 hs3=>?_)
   refine wpAny_bind (wpAny_letGo (wpAny_pure ?_))
   have t2':=X2.frame (H':=upd H2 TO (qbf v1 b)) t2 fun c hc d e=>(qe (qbK hc (Ne.symm Z.TOi2) fun hc=>(Z.f2 _ hc).2.1)).trans e
   refine wpAny_bind (wpAny_bind (wpAny_onRaise ?_))
   show wpAny _ _ (Builtin.SmallTypes.nextOf (.ref i2) >>= _) _ _ _
   refine wpAny_bind (wpAny_mono (X2.done t2' hs3 fun e o s4 H4 ho hc hs4 hK=>?_) (fun _ _ x=>x.elim) fun _ _ x=>x)
   refine fin e o hs4 (hK _ _ (Ne.symm Z.i2z) ((qe (Ne.symm Z.TOz)).trans hz2)) ho hc fun c d hc e=>?_
   simp only[not_or] at hc
   exact hK _ _ hc.2.2.2 ((qe hc.2.1).trans (K2 _ _ hc.2.2.1 ((qe hc.1).trans e)))
  ·have e1:n=n1:=by exact ar6 hn hge
   subst e1
   refine wpAny_bind (wpAny_mono (X1.done h1' hs1 fun e o s4 H4 ho hc hs4 hK=>?_) (fun _ _ x=>x.elim) fun _ _ x=>x)
   refine fin e o hs4 (hK _ _ (Ne.symm Z.i1z) upd_same) ho hc fun c d hc e=>?_
   simp only[not_or] at hc
   exact hK _ _ hc.2.2.1 ((qe hc.1).trans e)
end
section
open AutoSeq1 (wpAny_loadPart')
noncomputable def qhF(a:Value)(o1:Obj)(P:Heap->Prop):Prop:=
 ∀(prog:Program) (w:World) (A:Around) (E:Value->Shared->Prop) (Q:Value->Shared->Prop) (s:Shared),P s.heap->Q (.ref s.heap.objs.size) { s with heap:=s.heap.push o1 }->wpAny (model prog w) A (pyIter a) Q E s
theorem qkH{l:Addr}:qhF (.ref l) { cls:=.type "list_iterator",data:=.fields #[.ref l,.int 0 0] } (fun h=>∃ xs,h.IsList l xs):=fun prog w A E Q s q' hq=>oE q' fun xs h=>wpAny_pyIter_list h hq
theorem qlP{x:Str}{t:Tok}:qhF (.str x t) { cls:=.type (strIterType x),data:=.fields #[.str x t,.int 0 0] } (fun _=>True):=fun prog w A E Q s _ hq=>wpAny_pyIter_strU hq
section
variable(a b:Value)(o1 o2:Obj)(h:Heap)
noncomputable abbrev zq3:Heap:=((h.push o1).push o2).push { cls:=.type "tuple",data:=.seq #[.ref h.objs.size,.ref (h.push o1).objs.size] }
noncomputable abbrev zq4:Heap:=(zq3 o1 o2 h).push { cls:=.type "tuple",data:=.seq #[.none,.none] }
noncomputable abbrev zq5:Heap:=(zq4 o1 o2 h).push { cls:=.type "zip",data:=.fields #[.none,.bool false,.bool false,.ref ((h.push o1).push o2).objs.size,.ref (zq3 o1 o2 h).objs.size] }
end
theorem qhG{a b:Value}{o1 o2:Obj}{P1 P2:Heap->Prop}(I1:qhF a o1 P1)(I2:qhF b o2 P2):
 Meets (Builtin.«zip.__new__» ⟨[.type "zip",a,b],[]⟩) (fun _ R s=>P1 s.heap/\P2 (s.heap.push o1) /\
  R (.ok (.ret (.ref (zq4 o1 o2 s.heap).objs.size))) { s with heap:=zq5 o1 o2 s.heap }):=
 .of_wp fun prog w A R s h=>by
  obtain⟨hp,g,d,tk,os⟩:=s;obtain⟨hl1,hl2,h⟩:=h
  have hsub:=sub_zip
  have hL1:=fun A E Q=>I1 prog w A E Q ⟨hp,g,d,tk,os⟩ hl1
  have hL2:=fun A E Q=>I2 prog w A E Q ⟨hp.push o1,g,d,tk,os⟩ hl2
  wp_walk using hL1,hL2
  exact iEA _ rfl h
theorem nm1{vs:List Value}{p:Value}(h:vs.map norm=[p]):∃ v,vs=[v]/\norm v=p:=by
 obtain⟨v,r,rfl,h1,h⟩:=nmc h
 obtain rfl:=nm0 h
 exact iEA v rfl h1
theorem nm2{vs:List Value}{p q:Value}(h:vs.map norm=[p,q]):∃ v u,vs=[v,u]/\norm v=p/\norm u=q:=by
 obtain⟨v,r,rfl,h1,h⟩:=nmc h
 (refine oEA (nm1 h) fun u e1' h2=>?_;obtain rfl:=e1')
 exact qbJ v u rfl h1 h2
structure Src(prog:Program)(w:World)(D:Dyn)(H:AH)(p:Value)(n:Nat)(fp:Addr->Prop)(St:Addr->Nat->AH->Prop)(P:Nat->Value->AH->Prop):Prop where
 drw:∀ it,¬ fp it->Drw (model prog w) D it n fp (St it) P
 make:∀ v,norm v=p->∃ o1 d1 P1,qhF v o1 P1/\o1.isFreed=false/\(∀(h:Heap) a,h.get? a=some o1->ORep h a d1)/\(∀ s M H',At D s M H'->Sub H H'->P1 s.heap)/\(∀ it H',H' it=some d1->Sub H H'->St it 0 H')
 has:∀ a,fp a->∃ d,H a=some d
theorem qbA(hh:D.A.handled=none){l:Addr}{xs:List Value}(hl:H l=some (lst xs)):Src prog w D H (.ref l) xs.length (·=l)
 (fun it k H=>H it=some (qax l k)/\∃ ys,H l=some (lst ys)/\ys.length=xs.length) (fun k p H=>∃ ys,H l=some (lst ys)/\ys[k]?=some p) where
 drw:=fun it hne=>qlO hh hne
 make:=fun v hv=>by
  refine substr (qz hv) ?_
  refine(qhx _ (qax l 0) _ qkH rfl (fun h a e=>⟨_,e,rfl,rfl⟩) (fun s M H' hs x=>?_) (fun it H' e x=>(qzh e xs (x _ _ hl) rfl)))
  refine oEA (hs.list (x _ _ hl)) fun vs hL _=>?_
  exact⟨_,hL⟩
 has:=fun a ha=>⟨_,ha▸hl⟩
theorem qdD(hh:D.A.handled=none){x:Str}:Src prog w D H (S x) x.cps.size (fun _=>False) (fun it k H=>∃ t,H it=some (qfJ x t k)) (fun k p _=>∃ c,x.cps[k]?=some c/\p=S ⟨#[c]⟩) where
 drw:=fun it _=>qoO hh
 make:=fun v hv=>by
  obtain⟨t,rfl⟩:=qH hv
  exact qhx _ (qfJ x t 0) _ qlP rfl (fun h a e=>⟨_,e,rfl,rfl⟩) (fun _ _ _ _ _=>trivial) (fun it H' e _=>⟨t,e⟩)
 has:=fun a ha=>ha.elim
theorem qxn{p q:Value}{n1 n2:Nat}{fp1 fp2:Addr->Prop}{St1 St2:Addr->Nat->AH->Prop}{P1 P2:Nat->Value->AH->Prop}(X1:Src prog w D H p n1 fp1 St1 P1)(X2:Src prog w D H q n2 fp2 St2 P2)
 (h:∀ z TI TO i1 i2 H',Sub H H'->H z=none->H TI=none->H TO=none->H i1=none->H i2=none->Zap z TI TO i1 i2 fp1 fp2->H' z=some (qa8 .none TI TO)->H' TI=some (qbf (.ref i1) (.ref i2))->(∃ a b,H' TO=some (qbf a b))->St1 i1 0 H'->St2 i2 0 H'->Φ (.ref z) M H'):
 ∀ vs,vs.map norm=[p,q]->WV (model prog w) D (call (.type "zip") ([]++vs)) M H Φ E:=by
 intro vs hvs s hs
 (refine qR (nm2 hvs) fun v u e2' hv hu=>?_;obtain rfl:=e2')
 refine qhv (X1.make v hv) fun o1 d1 Q1 I1 f1 r1 k1 j1=>?_
 refine qhv (X2.make u hu) fun o2 d2 Q2 I2 f2 r2 k2 j2=>?_
 have a1:=hs.alloc (o:=o1) (d:=d1) f1 fun h e=>r1 h _ e
 have n1':=hs.fresh
 have a2:=a1.alloc (o:=o2) (d:=d2) f2 fun h e=>r2 h _ e
 have n2':=a1.fresh
 have a3:=a2.alloc (o:={ cls:=.type "tuple",data:=.seq #[.ref s.heap.objs.size,.ref (s.heap.push o1).objs.size] }) (d:=qbf (.ref s.heap.objs.size) (.ref (s.heap.push o1).objs.size)) rfl fun h e=>e
 have n3':=a2.fresh
 have a4:=a3.alloc (o:={ cls:=.type "tuple",data:=.seq #[.none,.none] }) (d:=qbf .none .none) rfl fun h e=>e
 have n4':=a3.fresh
 have a5:=a4.alloc (o:={ cls:=.type "zip",data:=.fields #[.none,.bool false,.bool false,.ref ((s.heap.push o1).push o2).objs.size,.ref (zq3 o1 o2 s.heap).objs.size] }) (d:=qa8 .none ((s.heap.push o1).push o2).objs.size (zq3 o1 o2 s.heap).objs.size) rfl fun h e=>e
 have n5':=a4.fresh
 simp only[List.nil_append]
 refine callType_new F.called_zip (by decide) (F.typeCall_zip_2 _ _) (F.newCall_zip_2 _ _) (fun obj=>F.args_object_init_3 obj _ _) F.entry_zip_new (qhG I1 I2) (iAA (k1 _ _ _ hs Sub.refl) (k2 _ _ _ a1 (Sub.upd n1')) ?_)
 refine⟨⟨_,Heap.get?_push_size _ rfl,rfl⟩,?_⟩
 show Post D (fun v=>Φ (norm v)) (.ref (zq4 o1 o2 s.heap).objs.size) { s with heap:=zq5 o1 o2 s.heap }
 have e1:(s.heap.push o1).objs.size=s.heap.objs.size+1:=Heap.size_push ..
 have e2:((s.heap.push o1).push o2).objs.size=s.heap.objs.size+2:=by refine substr (Heap.size_push ..) (substr e1 rfl)
 have e3:(zq3 o1 o2 s.heap).objs.size=s.heap.objs.size+3:=by refine substr (Heap.size_push ..) (substr e2 rfl)
 have e4:(zq4 o1 o2 s.heap).objs.size=s.heap.objs.size+4:=by refine substr (Heap.size_push ..) (substr e3 rfl)
 have hS:=((((Sub.upd (d:=d1) n1').trans (Sub.upd (d:=d2) n2')).trans (Sub.upd (d:=qbf (.ref s.heap.objs.size) (.ref (s.heap.push o1).objs.size)) n3')).trans (Sub.upd (d:=qbf .none .none) n4')).trans (Sub.upd (d:=qa8 .none ((s.heap.push o1).push o2).objs.size (zq3 o1 o2 s.heap).objs.size) n5')
 have ff1:∀ a,fp1 a->a<s.heap.objs.size:=fun a ha=>by obtain⟨d,hd⟩:=X1.has a ha;obtain⟨o,ho⟩:=(hs.own _ _ hd).2.2.some;exact Heap.lt_size ho
 have ff2:∀ a,fp2 a->a<s.heap.objs.size:=fun a ha=>by obtain⟨d,hd⟩:=X2.has a ha;obtain⟨o,ho⟩:=(hs.own _ _ hd).2.2.some;exact Heap.lt_size ho
 have gone:∀ b,s.heap.objs.size<=b->H b=none:=fun b hb=>by
  cases hd:H b with
  | none=>rfl
  | some d=>obtain⟨o,ho⟩:=(hs.own _ _ hd).2.2.some;exact absurd (Heap.lt_size ho) (Nat.not_lt.mpr hb)
 have Z:Zap (zq4 o1 o2 s.heap).objs.size ((s.heap.push o1).push o2).objs.size (zq3 o1 o2 s.heap).objs.size s.heap.objs.size (s.heap.push o1).objs.size fp1 fp2:=by
  refine substr e1 (substr e2 (substr e3 (substr e4 ?_)))
  have ne:∀ a b:Nat,a<b->@Ne Addr a b:=fun a b h=>Nat.ne_of_lt h
  have ne':∀ a b:Nat,b<a->@Ne Addr a b:=fun a b h=>Nat.ne_of_gt h
  refine⟨ne _ _ (ar7),ne _ _ (ar8),ne _ _ (ar9),ne' _ _ (qlz),ne' _ _ (qyi),ne _ _ (qyj),ne _ _ (qyk),ne' _ _ (qyl),ne' _ _ (qym),ne _ _ (qhq),
   fun a ha=>?_,fun a ha=>?_⟩
  ·have:@LT.lt Nat _ a s.heap.objs.size:=ff1 a ha
   exact qdr (ne _ _ (qpM this)) (ne _ _ (qpN this)) (ne _ _ (qlA this)) (ne _ _ (qpO this))
  ·have:@LT.lt Nat _ a s.heap.objs.size:=ff2 a ha
   exact qdr (ne _ _ (qpM this)) (ne _ _ (qpN this)) (ne _ _ (qlA this)) (ne _ _ (qpO this))
 refine⟨M,_,a5,h (zq4 o1 o2 s.heap).objs.size ((s.heap.push o1).push o2).objs.size (zq3 o1 o2 s.heap).objs.size s.heap.objs.size (s.heap.push o1).objs.size _ hS
  (gone _ (qyn e4)) (gone _ (qyo e2)) (gone _ (qyp e3)) (gone _ (qpP)) (gone _ (qyq e1)) Z
  upd_same ?_ (iEE _ _ ((qe (by show(zq3 o1 o2 s.heap).objs.size≠(zq4 o1 o2 s.heap).objs.size;exact qyr e3 e4)).trans upd_same)) (j1 _ _ ?_ hS) (j2 _ _ ?_ hS)⟩
 ·exact(qe (by show((s.heap.push o1).push o2).objs.size≠(zq4 o1 o2 s.heap).objs.size;exact qys e2 e4)).trans ((qe (by show((s.heap.push o1).push o2).objs.size≠(zq3 o1 o2 s.heap).objs.size;exact qyt e2 e3)).trans upd_same)
 ·exact qx n5' (qx n4' (qx n3' (qx n2' upd_same)))
 ·exact qx n5' (qx n4' (qx n3' upd_same))
theorem qdh{target:Expr}{it:Value}{pr fp:Addr->Prop}{n k:Nat}{St:Nat->AH->Prop}{Yl:Nat->Value->AH->Prop}{Φ:Value->Loc->AH->Prop}{a:Addr}(ha:it=.ref a)(I:Iter (model prog w) D target it pr fp n St Yl)(h:St k H)(q:Φ it M H):
 ∀ x,norm x=.ref a->WX (model prog w) D (pyIter x) M H Φ E:=by
 intro x hx
 refine substr (qz hx) (substr ha.symm ?_)
 exact qM (I.self h) fun _ _ _ ⟨h1,h2,h3⟩=>by subst h1 h2 h3;exact q
theorem qbl{l:Addr}{xs:List Value}(hl:H l=some (lst xs))(hf:xs.length<2^63)(h:Φ (I xs.length) M H):∀ vs,vs.map norm=[.ref l]->WV (model prog w) D (call (.builtin "len") ([]++vs)) M H Φ E:=by
 intro vs hvs s hs
 (refine oEA (nm1 hvs) fun v e1' hv=>?_;obtain rfl:=e1')
 refine substr (qz hv) ?_
 refine oEA (hs.list hl) fun us hL hm=>?_
 have e:us.length=xs.length:=by refine substr hm.symm (substr (length_map ..) rfl)
 refine len_list hL (by simp;exact qyu hf e) ⟨M,H,hs.toks _,?_⟩
 show Φ (I us.toArray.size) M H
 refine substr List.size_toArray (substr e ?_);exact h
theorem qb2{x:Str}(hf:x.length<2^63)(h:Φ (I x.length) M H):∀ vs,vs.map norm=[S x]->WV (model prog w) D (call (.builtin "len") ([]++vs)) M H Φ E:=by
 intro vs hvs s hs
 (refine oEA (nm1 hvs) fun v e1' hv=>?_;obtain rfl:=e1')
 obtain⟨t,rfl⟩:=qH hv
 exact PyProof.Rows.len_str (qpQ hf) ⟨M,H,hs.toks _,h⟩
theorem qlQ{n:Int}(h:∀ r,H r=none->Φ (.ref r) M (upd H r (.flds "range" [I 0,I n,I 1]))):∀ vs,vs.map norm=[I n]->WV (model prog w) D (call (.type "range") ([]++vs)) M H Φ E:=by
 intro vs hvs s hs
 (refine oEA (nm1 hvs) fun v e1' hv=>?_;obtain rfl:=e1')
 obtain⟨t,rfl⟩:=qD hv
 exact call_range_1 ⟨M,_,(hs.alloc (d:=.flds "range" [I 0,I n,I 1]) rfl fun h e=>⟨_,e,rfl⟩).toks _,h _ hs.fresh⟩
theorem qlR{a n:Int}(h:∀ r,H r=none->Φ (.ref r) M (upd H r (.flds "range" [I a,I n,I 1]))):∀ vs,vs.map norm=[I a,I n]->WV (model prog w) D (call (.type "range") ([]++vs)) M H Φ E:=by
 intro vs hvs s hs
 (refine qR (nm2 hvs) fun v u e2' hv hu=>?_;obtain rfl:=e2')
 obtain⟨t,rfl⟩:=qD hv
 obtain⟨t',rfl⟩:=qD hu
 exact call_range_2 ⟨M,_,(hs.alloc (d:=.flds "range" [I a,I n,I 1]) rfl fun h e=>⟨_,e,rfl⟩).toks _,h _ hs.fresh⟩
theorem qfK{r:Addr}{a b:Int}{Φ:Value->Loc->AH->Prop}(hr:H r=some (.flds "range" [I a,I b,I 1])) (h1 : -(2^62)<=a) (h2:a<2^62) (h3 : -(2^62)<=b) (h4:b<2^62)
 (h:∀ it,H it=none->Φ (.ref it) M (upd H it (qeL a ((b-a).toNat:Int)))):∀ x,norm x=.ref r->WX (model prog w) D (pyIter x) M H Φ E:=by
 intro x hx s hs
 refine substr (qz hx) ?_
 refine qbI (hs.own _ _ hr) fun _ _ vs e r'=>?_
 refine qaC (qeg r') fun x y z hv hx hy hz=>?_
 obtain⟨t,rfl⟩:=qD hx
 obtain⟨u,rfl⟩:=qD hy
 obtain⟨v,rfl⟩:=qD hz
 have hR:IsRange s.heap r a b 1 t u v:=by show s.heap.get? r=_;refine substr e (substr (Array.toArray_toList (xs:=vs)).symm (substr hv rfl))
 refine wpAny_pyIter_range hR (small_one h1 h2 h3 h4) ?_
 have hsz:Builtin.Range.rangeSize a b 1=((b-a).toNat:Int):=by refine substr (rangeSize_one ..) ?_;split<;>(first | exact qyv (by assumption) | exact qyw (by assumption))
 refine substr hsz ?_
 exact⟨M,_,hs.alloc (d:=qeL a ((b-a).toNat:Int)) rfl fun h e=>e,h _ hs.fresh⟩
theorem qkI{l:Addr}{xs:List Value}(hl:H l=some (lst xs))(hz:xs.length<=sizeLine)(h:∀ r,H r=none->Φ (.ref r) M (upd H r (lst xs))):∀ vs,vs.map norm=[.ref l]->WV (model prog w) D (call (.type "list") ([]++vs)) M H Φ E:=by
 intro vs hvs s hs
 (refine oEA (nm1 hvs) fun v e1' hv=>?_;obtain rfl:=e1')
 refine substr (qz hv) ?_
 refine qau (hs.own _ _ hl) fun _ _ us n e r=>?_
 have hsz:us.size=xs.length:=by refine substr r.symm ?_;simp
 refine call_list_seq l (.inl rfl) e rfl rfl (fun h' c' hk hn=>?_) (qlB hz hsz)
 have a1:=hs.grow (s':={ s with heap:=h' }) hk
 exact⟨M,_,a1.add (d:=lst xs) (Nat.ne_of_gt hs.ltL) (hs.newNone (Heap.get?_none_of_le (Nat.le_refl _))) ⟨us,c',hn,r⟩,h _ hs.fresh⟩
theorem qxo{i:Int}(h:Φ (I i) M H):∀ vs,vs.map norm=[I i]->WV (model prog w) D (call (.type "int") ([]++vs)) M H Φ E:=by
 intro vs hvs s hs
 (refine oEA (nm1 hvs) fun v e1' hv=>?_;obtain rfl:=e1')
 obtain⟨t,rfl⟩:=qD hv
 exact call_int_int ⟨M,H,hs,h⟩
theorem intsAre_of:∀ {vs:List Value} {ns:List Int},vs.map norm=ns.map I->IntsAre vs ns
 | [],[],_=>.nil
 | v::vs,n::ns,h=>by
  simp only[map_cons,List.cons.injEq] at h
  obtain⟨t,rfl⟩:=qD h.1
  exact .cons n t (intsAre_of h.2)
 | [],_::_,h=>by simp at h
 | _::_,[],h=>by simp at h
theorem qcm:∀ {vs:List Value} {ns:List Str},vs.map norm=ns.map S->StrsAre vs ns
 | [],[],_=>.nil
 | v::vs,n::ns,h=>by
  simp only[map_cons,List.cons.injEq] at h
  obtain⟨t,rfl⟩:=qH h.1
  exact .cons n t (qcm h.2)
 | [],_::_,h=>by simp at h
 | _::_,[],h=>by simp at h
theorem qjH:∀ {vs:List Value} {ns:List Str},StrsAre vs ns->vs.map norm=ns.map S:=by
 intro vs ns h
 induction h with
 | nil=>rfl
 | cons x t _ ih=>exact congrArg (List.cons (S x)) ih
theorem qol(hh:D.A.handled=none){l:Addr}{ns:List Int}(hl:H l=some (lst (ns.map I)))(h:Φ (I ns.sum) M H):∀ vs,vs.map norm=[.ref l]->WV (model prog w) D (call (.builtin "sum") ([]++vs)) M H Φ E:=by
 intro vs hvs s hs
 (refine oEA (nm1 hvs) fun v e1' hv=>?_;obtain rfl:=e1')
 refine substr (qz hv) ?_
 refine oEA (hs.list hl) fun us hL hm=>?_
 refine qR hs.fr fun g m T F Rm=>?_
 refine qbe hs.news fun news N0 hN hN'=>?_
 have N:=N0 g T
 refine LSm.sum_ints F N hh hL (intsAre_of hm) fun h' tk t' F' N'=>⟨M,H,⟨(qbJ g m T F' Rm),fun a d e=>?_,hs.gens,hs.drawn,hs.os⟩,h⟩
 refine oEA (hN a d e) fun o hmm hq=>?_
 refine oAA (N' _ hmm) fun k1 k2 k3=>?_
 exact iAA k2 ((hs.own a d e).2.1) ((hs.own a d e).2.2.keeps fun o' ho'=>by rw[hq] at ho';cases ho';exact k1)
theorem qjI{l:Addr}{xs:List Value}(hl:H l=some (lst xs))(h:∀ r,H r=none->Φ (.ref r) M (upd H r (qdC l ((xs.length:Int)-1)))):
 ∀ vs,vs.map norm=[.ref l]->WV (model prog w) D (call (.type "reversed") ([]++vs)) M H Φ E:=by
 intro vs hvs s hs
 (refine oEA (nm1 hvs) fun v e1' hv=>?_;obtain rfl:=e1')
 refine substr (qz hv) ?_
 refine oEA (hs.list hl) fun us hL hm=>?_
 have e:us.length=xs.length:=by refine substr hm.symm (substr (length_map ..) rfl)
 refine call_reversed_list hL ⟨M,_,hs.alloc (d:=qdC l ((xs.length:Int)-1)) rfl fun h e'=>⟨_,e',rfl,?_⟩,h _ hs.fresh⟩
 show Data.fields _=_
 simp[rawInt,e]
end
section
open AutoSeq1 (wpAny_loadPart')
theorem mro_object:mroOf (.type "object")=pure [.type "object"]:=by refine substr (mroOf_type ..) ?_;kernel_rfl
theorem qe2:typeLookup (.type "object") "__new__"=pure (some (.builtin "object.__new__")):=by refine substr (typeLookup_type ..) (substr builtinLookup_eq_fast ?_);kernel_rfl
theorem called_object:TypeCalled "object" "object.__new__" "object.__init__":=
 ⟨by decide +kernel,by decide +kernel,(iEE _ _ mro_object),madeBy_type mro_object qe2 (by decide +kernel),by decide +kernel,by refine substr (isSubtype_type ..) ?_;kernel_rfl,F.slot_object_init⟩
theorem qfL:checkTypeCall "object" ⟨[],[]⟩=pure ():=by kernel_rfl
theorem qgk:checkBuiltinCall "object.__new__" ⟨[.type "object"],[]⟩=pure ():=by kernel_rfl
theorem entry_object_new:entryFor table "object.__new__"=some Builtin.«object.__new__»:=entryFor_of_tree (by kernel_rfl)
theorem qfM:Bind.madeHere "object.__new__" (.type "object")=pure ():=by
 first
  | kernel_rfl
  |
   unfold Bind.madeHere
   have e:Bind.staticBase (.type "object")=pure (.type "object"):=by first | rfl | kernel_rfl
   rw[e]
   simp only[pure_bind,called_object.made]
   first | rfl | kernel_rfl | (simp;rfl)
theorem qff:Meets (Builtin.«object.__new__» ⟨[.type "object"],[]⟩) (fun _ R s=>R (.ok (.ret (.ref s.heap.objs.size))) { s with heap:=s.heap.push { cls:=.type "object" } }):=
 .of_wp fun prog w A R s h=>by
  obtain⟨hp,g,d,tk,os⟩:=s
  have hmh:=qfM
  wp_walk
  exact iEA _ rfl h
theorem qe3(a:Value):Meets (Builtin.«object.__init__» ⟨[a],[]⟩) (fun _ R s=>R (.ok (.ret .none)) s):=.of_wp fun prog w A R s h=>by
 obtain⟨hp,g,d,tk,os⟩:=s
 wp_walk
 exact iEA _ rfl h
theorem qhH(h:∀ r,H r=none->Φ (.ref r) M (upd H r (.plain "object"))):∀ vs,vs.map norm=[]->WV (model prog w) D (call (.type "object") ([]++vs)) M H Φ E:=by
 intro vs hvs s hs
 have:vs=[]:=List.map_eq_nil_iff.mp hvs
 subst this
 refine callType_meets called_object qfL qgk entry_object_new F.entry_object_init qff (Q₁:=fun obj s₁=>obj=.ref s.heap.objs.size/\s₁={ s with heap:=s.heap.push { cls:=.type "object" } }) ⟨rfl,rfl⟩ ?_
 rintro obj s₁ ⟨rfl,rfl⟩
 exact⟨⟨_,Heap.get?_push_size _ rfl,rfl⟩,F.args_object_init_1 _,_,qe3 _,rfl,M,_,hs.alloc (d:=.plain "object") rfl fun h e=>e,h _ hs.fresh⟩
end
section
open AutoSeq1 (wpAny_loadPart')
noncomputable abbrev qek(it:Addr)(i:Int)(old:Value):HO:=.raw { cls:=.type "enumerate",dict:=none,data:=.fields #[.none,.bool false,.ref it,rawInt i,.none,old],slots:=#[] }
theorem qiI(hh:D.A.handled=none){e it l:Addr}{n:Nat}{elts:List Expr}{kk:Nat}{pos:Pos}(hei:e≠it)(hle:l≠e)(hli:l≠it):
 Iter (model prog w) D (.Tuple elts kk pos) (.ref e) (fun a=>a=e\/a=it) (fun a=>a=e\/a=it\/a=l) n
  (fun k H=>(∃ old,H e=some (qek it k old))/\H it=some (qax l k)/\∃ xs,H l=some (lst xs)/\xs.length=n)
  (fun k v H=>∃ T p,v=.ref T/\H T=some (tup [I k,p])/\∃ xs,H l=some (lst xs)/\xs[k]?=some p) where
 frame:=fun⟨⟨o,h0⟩,h1,xs,h2,h3⟩ hf=>⟨⟨o,hf _ (by simp) _ h0⟩,hf _ (by simp) _ h1,xs,hf _ (by simp) _ h2,h3⟩
 live:=fun⟨⟨o,h0⟩,h1,_⟩ c hc=>by
  rcases hc with rfl | rfl
  ·exact⟨_,h0⟩
  ·exact⟨_,h1⟩
 self:=by
  intro k M H E ⟨⟨o,h0⟩,_⟩ s hs
  exact wpAny_pyIter_enum (hs.own _ _ h0).2.2 ⟨M,H,hs,rfl,rfl,rfl⟩
 item:=by
  intro k M H E hk ⟨⟨old,h0⟩,h1,xs,h2,h3⟩ s hs
  refine oEA (hs.list h2) fun vs hL hm=>?_
  have hvl:vs.length=n:=by refine substr h3.symm (substr hm.symm (substr (length_map ..) rfl))
  obtain⟨v,hv⟩:∃ v,vs[k]?=some v:=⟨_,getElem?_eq_getElem (ar1 hk hvl)⟩
  refine wpAny_pyNext_enum_item (hs.own _ _ h0).2.2 (hs.listIt h1) hL (by simpa using hv) hei fun h' a1 a2 a3 a4 a5=>?_
  have get:∀ b d,b≠e->b≠it->H b=some d->ORep h' b d:=fun b d b1 b2 q=>(hs.own b d q).2.2.keeps fun o ho=>a5 b o b1 b2 ho
  have hs1:At D { s with heap:=h',toks:=s.toks+1 } M (upd (upd (upd H e (.raw { cls:=.type "enumerate",dict:=none,data:=.fields #[rawInt s.heap.objs.size,.bool false,.ref it,rawInt ((k:Int)+1),.none,v],slots:=#[] })) it (qax l (k+1))) s.heap.objs.size (tup [I k,norm v])):=by
   refine qR hs.fr fun g m T F R=>?_
   have n0:=hs.own e _ h0
   have n1:=hs.own it _ h1
   refine⟨⟨g,m,T,⟨F.ns.at fun o ho=>a5 _ o (Ne.symm n0.1) (Ne.symm n1.1) ho,fun b o ho=>a5 b o (fun q=>by rw[q,T.none_ _ n0.2.1] at ho;exact o_ns ho) (fun q=>by rw[q,T.none_ _ n1.2.1] at ho;exact o_ns ho) (F.keep b o ho),F.above⟩,R⟩,fun b d q=>?_,hs.gens,hs.drawn,hs.os⟩
   unfold upd at q
   split at q
   ·rename_i hb;cases q;refine substr hb ?_;exact⟨Nat.ne_of_gt hs.ltL,hs.newNone (Heap.get?_none_of_le (Nat.le_refl _)),_,_,a3,rfl⟩
   ·split at q
    ·rename_i hb;cases q;refine substr hb ?_;exact⟨n1.1,n1.2.1,a2⟩
    ·split at q
     ·rename_i hb;cases q;refine substr hb ?_;exact⟨n0.1,n0.2.1,a1⟩
     ·rename_i c1 c2 c3
      exact⟨(hs.own b d q).1,(hs.own b d q).2.1,get b d c3 c2 q⟩
  have fr:=hs.fresh
  generalize hT5:s.heap.objs.size=T at hs1 fr
  have hTe:T≠e:=Ne.symm (qG fr h0)
  have hTi:T≠it:=Ne.symm (qG fr h1)
  have hTl:T≠l:=Ne.symm (qG fr h2)
  refine⟨M,_,hs1,_,rfl,fun s9 hs9=>?_⟩
  have g9:=hs9.own e (.raw { cls:=.type "enumerate",dict:=none,data:=.fields #[rawInt T,.bool false,.ref it,rawInt ((k:Int)+1),.none,v],slots:=#[] }) ((qe (Ne.symm hTe)).trans ((qe hei).trans upd_same))
  refine wpAny_letOwnedTupleGo_enum g9.2.2 fun g10 gz10 sb10=>?_
  have hs10:=hs9.change (d':=qek it ((k+1:Nat):Int) v) ((qe (Ne.symm hTe)).trans ((qe hei).trans upd_same)) sb10 (by refine substr (show((k+1:Nat):Int)=(k:Int)+1 from by exact qyx) ?_;exact gz10)
  refine⟨M,_,hs10,rfl,⟨⟨v,upd_same⟩,(qe (Ne.symm hei)).trans ((qe (Ne.symm hTi)).trans upd_same),xs,(qe hle).trans ((qe (Ne.symm hTl)).trans ((qe hli).trans ((qe hle).trans h2))),h3⟩,?_,
   T,norm v,rfl,(qe hTe).trans upd_same,xs,(qe hle).trans ((qe (Ne.symm hTl)).trans ((qe hli).trans ((qe hle).trans h2))),?_⟩
  ·intro c d hc q
   simp only[not_or] at hc
   exact(qe hc.1).trans (qx ((qe hTi).trans ((qe hTe).trans fr)) ((qe hc.2).trans ((qe hc.1).trans q)))
  ·refine substr hm.symm (substr getElem?_map (substr hv ?_));rfl
 done:=by
  intro M H E ⟨⟨old,h0⟩,h1,xs,h2,h3⟩ s hs
  refine oEA (hs.list h2) fun vs hL hm=>?_
  have hvl:vs.length=n:=by refine substr h3.symm (substr hm.symm (substr (length_map ..) rfl))
  refine wpAny_pyNext_enum_end hh (hs.own _ _ h0).2.2 (hs.listIt h1) hL (by simp[hvl]) fun h' hsb=>?_
  exact⟨M,_,hs.ext h1 hsb,rfl,rfl,fun a d ha e=>(qb1 (by simp only[not_or] at ha;exact ha.2)).trans e⟩
theorem qkJ{l:Addr}{xs:List Value}(hl:H l=some (lst xs))(h:∀ e it,H e=none->H it=none->e≠it->Φ (.ref e) M (upd (upd H it (qax l 0)) e (qek it 0 .none))):
 ∀ vs,vs.map norm=[.ref l]->WV (model prog w) D (call (.type "enumerate") ([]++vs)) M H Φ E:=by
 intro vs hvs s hs
 (refine oEA (nm1 hvs) fun v e1' hv=>?_;obtain rfl:=e1')
 refine substr (qz hv) ?_
 refine oEA (hs.list hl) fun us hL hm=>?_
 refine call_enumerate_list hL fun h' a1 a2 a3 a4=>?_
 have gone:∀ b,s.heap.objs.size<=b->H b=none/\D.h₀.get? b=none/\b≠D.L:=fun b hb=>⟨by
  cases hd:H b with
  | none=>rfl
  | some d=>obtain⟨o,ho⟩:=(hs.own _ _ hd).2.2.some;exact absurd (Heap.lt_size ho) (Nat.not_lt.mpr hb),hs.newNone (Heap.get?_none_of_le hb),Nat.ne_of_gt (Nat.lt_of_lt_of_le hs.ltL hb)⟩
 have b1:=(hs.grow (s':={ s with heap:=h' }) a4).add (d:=qax l 0) (gone _ (Nat.le_refl _)).2.2 (gone _ (Nat.le_refl _)).2.1 a2
 have b2:=b1.add (d:=qek s.heap.objs.size 0 .none) (gone (s.heap.objs.size+1) (Nat.le_succ _)).2.2 (gone _ (Nat.le_succ _)).2.1 a1
 exact⟨M,_,b2,h _ _ (gone _ (Nat.le_succ _)).1 (gone _ (Nat.le_refl _)).1 (Nat.ne_of_gt (Nat.lt_succ_self _))⟩
inductive qqi(Mo:Model)(D:Dyn)(id:String)(args:List Expr)(pos:Pos)(env:Env)(Φ:Value->Loc->AH->Prop)(E:Value->Shared->Prop)(p:Value)(M1:Loc)(H1:AH):Prop
 | mk(x:Str)(e:p=S x)(k:∀ v,norm v=S x->WV Mo D (callWith pos (.builtin id) [v] (backTo pos (starEach args env)) []) M1 H1 Φ E)
inductive qqj(Mo:Model)(D:Dyn)(id:String)(args:List Expr)(pos:Pos)(env:Env)(Φ:Value->Loc->AH->Prop)(E:Value->Shared->Prop)(p:Value)(M1:Loc)(H1:AH):Prop
 | mk(l:Addr)(xs:List Value)(e:p=.ref l)(h:H1 l=some (lst xs))(k:WV Mo D (callWith pos (.builtin id) [.ref l] (backTo pos (starEach args env)) []) M1 H1 Φ E)
theorem qcc{o:Expr}{name:Str}{id:String}{args:List Expr}{apos pos:Pos}(slot:Slot "str" name id) (hty:typeOf (.builtin id)=pure (.type "method_descriptor"))
 (h:WV (model prog w) D (eval o env) M H (qqi (model prog w) D id args pos env Φ E) E)
 (hbase:attributeBase o name env (eval o env)=eval o env:=by rfl)
 (hfew:((backTo pos (starEach args env)).all (fun x=>!x.1)&&(backToKw pos (keywordEach [] env)).all (fun x=>x.1.isSome)&&decide (args.length+([]:List Keyword).length+(if ([]:List Keyword).isEmpty then 0 else 1)<30))=true:=by rfl)
 (hline:(apos.endLine==pos.line)=true:=by rfl):WV (model prog w) D (eval (.Call (.Attribute o name apos) args [] pos) env) M H Φ E:=by
 intro s hs
 refine wpAny_Call_method hbase hfew hline F.plainAttrs_str slot hty (wpAny_mono (h s hs) (fun v s1 ⟨M1,H1,hs1,x,hx,k⟩=>?_) fun _ _ e=>e)
 obtain⟨t,rfl⟩:=qH hx
 exact⟨typeIs_str _ _ _,fun _ e=>(nomatch e),k _ rfl s1 hs1⟩
theorem qa2{o:Expr}{name:Str}{id:String}{args:List Expr}{apos pos:Pos}(slot:Slot "list" name id) (hty:typeOf (.builtin id)=pure (.type "method_descriptor"))
 (h:WV (model prog w) D (eval o env) M H (qqj (model prog w) D id args pos env Φ E) E)
 (hbase:attributeBase o name env (eval o env)=eval o env:=by rfl)
 (hfew:((backTo pos (starEach args env)).all (fun x=>!x.1)&&(backToKw pos (keywordEach [] env)).all (fun x=>x.1.isSome)&&decide (args.length+([]:List Keyword).length+(if ([]:List Keyword).isEmpty then 0 else 1)<30))=true:=by rfl)
 (hline:(apos.endLine==pos.line)=true:=by rfl):WV (model prog w) D (eval (.Call (.Attribute o name apos) args [] pos) env) M H Φ E:=by
 intro s hs
 refine wpAny_Call_method hbase hfew hline F.plainAttrs_list slot hty (wpAny_mono (h s hs) (fun v s1 ⟨M1,H1,hs1,l,xs,hx,hl,k⟩=>?_) fun _ _ e=>e)
 have:=qz hx
 subst this
 refine qau (hs1.own _ _ hl) fun _ _ us n e r=>?_
 exact⟨⟨_,e,rfl⟩,fun _ q=>by cases q;exact⟨_,e,rfl⟩,k s1 hs1⟩
theorem qel{x:Str}{l:Addr}{ys:List Str}(hl:H l=some (lst (ys.map S)))(hok:(ys.map (·.length)).sum+ys.length*x.length<=16777216)(h:Φ (S (Txt.join x ys)) M H):
 ∀ v,norm v=S x->∀ vs,vs.map norm=[.ref l]->WV (model prog w) D (call (.builtin "str.join") ([v]++vs)) M H Φ E:=by
 intro v hv vs hvs s hs
 (refine oEA (nm1 hvs) fun u e1' hu=>?_;obtain rfl:=e1')
 obtain⟨t,rfl⟩:=qH hv
 refine substr (qz hu) ?_
 refine oEA (hs.list hl) fun us hL hm=>?_
 exact join_list hL (by simpa using qcm hm) hok fun t' k=>⟨M,H,hs.toks _,h⟩
theorem m_lstrip{x z:Str}(hs:x.length<=sizeLine)(h:Φ (S (Txt.lstripChars x z)) M H):
 ∀ v,norm v=S x->∀ vs,vs.map norm=[S z]->WV (model prog w) D (call (.builtin "str.lstrip") ([v]++vs)) M H Φ E:=by
 intro v hv vs hvs s hs
 (refine oEA (nm1 hvs) fun u e1' hu=>?_;obtain rfl:=e1')
 obtain⟨t,rfl⟩:=qH hv
 obtain⟨t',rfl⟩:=qH hu
 exact SC.lstripChars (fun t' k=>⟨M,H,hs.toks _,h⟩) (by assumption)
theorem m_split{x y:Str}(hy:(y.length==0)=false)(hsz:x.length+2<=sizeLine)(h:∀ r,H r=none->Φ (.ref r) M (upd H r (lst ((Txt.split x y).map S)))):
 ∀ v,norm v=S x->∀ vs,vs.map norm=[S y]->WV (model prog w) D (call (.builtin "str.split") ([v]++vs)) M H Φ E:=by
 intro v hv vs hvs s hs
 (refine oEA (nm1 hvs) fun u e1' hu=>?_;obtain rfl:=e1')
 obtain⟨t,rfl⟩:=qH hv
 obtain⟨t',rfl⟩:=qH hu
 refine qR hs.fr fun g m T F Rm=>?_
 refine qbe hs.news fun news N0 hN hN'=>?_
 have N:=N0 g T
 refine KSpl.split1 F N hy (fun r l h' k e SA F' N' hlt=>?_) hsz
 have hr:H r=none:=by
  cases hd:H r with
  | none=>rfl
  | some d=>refine oEA (hN _ _ hd) fun o ho _=>?_;exact absurd (hlt _ ho) (Nat.lt_irrefl _)
 refine⟨M,_,⟨⟨g,m,T,F',Rm⟩,fun a d e'=>?_,hs.gens,hs.drawn,hs.os⟩,h r hr⟩
 unfold upd at e'
 split at e'
 ·rename_i ha
  cases e'
  refine oAA (N' _ (mem_cons_self ..)) fun k1 k2 k3=>?_
  refine substr ha ?_
  refine⟨k2,Turn.back T k3,(strValues l).toArray,0,k1,?_⟩
  refine substr List.toList_toArray (substr (qjH SA) (substr e rfl))
 ·refine oEA (hN a d e') fun o hmm hq=>?_
  refine oAA (N' _ (List.mem_cons_of_mem _ hmm)) fun k1 k2 k3=>?_
  exact⟨k2,(hs.own a d e').2.1,(hs.own a d e').2.2.keeps fun o' ho'=>by rw[hq] at ho';cases ho';exact k1⟩
theorem qbB{l:Addr}{xs:List Value}{p:Value}(hl:H l=some (lst xs))(hz:xs.length<=sizeLine)(h:Φ .none M (upd H l (lst (xs++[p])))):
 ∀ vs,vs.map norm=[p]->WV (model prog w) D (call (.builtin "list.append") ([.ref l]++vs)) M H Φ E:=by
 intro vs hvs
 (refine oEA (nm1 hvs) fun u e1' hu=>?_;obtain rfl:=e1')
 exact qhE hl hz h _ _ rfl hu
theorem At.seqSet{s:Shared}{l:Addr}{xs ys:List Value}{vs:Array Value}{n:Nat}(hs:At D s M H)(hl:H l=some (lst xs))(e:s.heap.get? l=some { cls:=.type "list",data:=.seq vs n }) (f:Array Value->Array Value) (hf:(f vs).toList.map norm=ys):
 At D { s with heap:=s.heap.update l (Obj.mapSeq f) } M (upd H l (lst ys)):=by
 refine hs.change (d':=lst ys) hl (Heap.SameBut.update ..) ?_
 refine⟨f vs,if ((f vs).size==vs.size)=true then n else n+1,?_,hf⟩
 refine substr (Heap.get?_update_self _ e (by simp[Obj.mapSeq,Obj.isFreed])) ?_
 simp only[Obj.mapSeq]
theorem qxp{l:Addr}{xs:List Value}{p:Value}(hl:H l=some (lst (xs++[p])))(hz:xs.length<sizeLine)(h:Φ p M (upd H l (lst xs))):
 ∀ vs,vs.map norm=[]->WV (model prog w) D (call (.builtin "list.pop") ([.ref l]++vs)) M H Φ E:=by
 intro vs hvs s hs
 have:vs=[]:=List.map_eq_nil_iff.mp hvs
 subst this
 refine qau (hs.own _ _ hl) fun _ _ us n e r=>?_
 have hsz:us.size=xs.length+1:=by have:=congrArg List.length r;simpa using this
 obtain⟨a,y,hu,ha,hy⟩:∃ a y,us.toList=a++[y]/\a.map norm=xs/\norm y=p:=by
  rcases List.eq_nil_or_concat us.toList with h0 | ⟨a,y,h0⟩
  ·rw[h0] at r;simp at r
  ·rw[List.concat_eq_append] at h0
   rw[h0,map_append,List.map_singleton] at r
   have:=List.append_inj' r rfl
   exact⟨a,y,h0,this.1,by simpa using this.2⟩
 have hal:a.length=xs.length:=by refine substr ha.symm (substr (length_map ..) rfl)
 have hus:us=(a++[y]).toArray:=by refine substr hu.symm rfl
 subst hus
 refine call_meets F.slot_list_pop ⟨_,e,rfl⟩ F.entry_list_pop (F.args_list_pop_1 _) (MeetsSeq.list_pop_last l _ n y (by simp) (by simp;exact qyy hz hal)) ⟨e,?_⟩
 refine⟨M,_,hs.seqSet hl e _ ?_,by show Φ (norm y) M _;refine substr hy ?_;exact h⟩
 simp only[List.size_toArray,length_append,List.length_singleton,Nat.add_sub_cancel]
 have e2:∀(a:List Value) (y:Value),(a++[y]).eraseIdx a.length=a:=fun a y=>by induction a with
  | nil=>rfl
  | cons b r ih=>simp[ih]
 simp[Array.eraseIdxIfInBounds,e2,ha]
theorem qhI{l b:Addr}{xs ys:List Value}(hl:H l=some (lst xs))(hb:H b=some (lst ys))(hz:xs.length+ys.length<=sizeLine)(h:Φ .none M (upd H l (lst (xs++ys)))):
 ∀ vs,vs.map norm=[.ref b]->WV (model prog w) D (call (.builtin "list.extend") ([.ref l]++vs)) M H Φ E:=by
 intro vs hvs s hs
 (refine oEA (nm1 hvs) fun u e1' hu=>?_;obtain rfl:=e1')
 refine substr (qz hu) ?_
 refine qau (hs.own _ _ hl) fun _ _ us n e r=>?_
 refine qau (hs.own _ _ hb) fun _ _ ws n2 e2 r2=>?_
 have hsz:us.size=xs.length:=by refine substr r.symm ?_;simp
 have hsz2:ws.size=ys.length:=by refine substr r2.symm ?_;simp
 have hlong:Builtin.List.listTooLong (us.size+ws.size)=false:=by
  refine substr hsz (substr hsz2 ?_)
  unfold Builtin.List.listTooLong
  simp only[gt_iff_lt,decide_eq_false_iff_not,Nat.not_lt]
  exact hz
 refine call_meets F.slot_list_extend ⟨_,e,rfl⟩ F.entry_list_extend (F.args_list_extend_2 _ _) (AutoSeq1.list_extend_list_list_0 l us n b ws n2 (by simp[hlong]) (qyz hz hsz) (qyA hz hsz hsz2)) ⟨e,e2,?_⟩
 exact⟨M,_,hs.seqSet hl e _ (by simp[r,r2]),h⟩
end
section
open PySem.SeqAt PySem.MeetsSeq
open AutoSeq1 (wpAny_loadPart')
theorem sub_str_object:isSubtype (.type "str") (.type "object")=pure true:=by refine substr (isSubtype_type ..) ?_;kernel_rfl
theorem slot_object_eq:Slot "object" (cmpInfo .Eq).2.1 "object.__eq__":=
 .of (owner := "object") (n := "__eq__") (by refine substr (typeLookup_type ..) (substr builtinLookup_eq_fast ?_);kernel_rfl) (by decide +kernel) (by decide +kernel) (by decide +kernel)
  (by first | exact .inl (by decide +kernel) | exact .inr (by decide +kernel)) (by refine substr (isSubtype_type ..) ?_;kernel_rfl)
theorem qgl(a b:Value):argsOk "object.__eq__" ⟨[a,b],[]⟩:=by
 unfold argsOk;refine substr (signature?_of (id := "object.__eq__") (n:=['_','_','q','e','_','_']) (o:=['t','c','e','j','b','o']) (by kernel_rfl) F.owner_object) ?_;kernel_rfl
theorem qhJ(b:Str)(u:Tok)(l:Addr)(c:Value):Meets (Builtin.«str.__eq__» ⟨[.str b u,.ref l],[]⟩) (fun _ R s=>s.heap.get? l=some { cls:=c }/\R (.ok (.ret .notImplemented)) s):=
 .of_wp fun prog w A R s h=>by obtain⟨hp,g,d,tk,os⟩:=s;obtain⟨hl,h⟩:=h;wp_walk using wpAny_loadPart' hl,wpAny_load hl;exact iEA _ rfl h
theorem qjJ(b:Str)(u:Tok)(l:Addr):Meets (Builtin.«object.__eq__» ⟨[.ref l,.str b u],[]⟩) (fun _ R s=>R (.ok (.ret .notImplemented)) s):=
 .of_wp fun prog w A R s h=>by obtain⟨hp,g,d,tk,os⟩:=s;wp_walk;exact iEA _ rfl h
theorem qjK{A:Around}{s:Shared}{l:Addr}{b:Str}{u:Tok}(ho:s.heap.get? l=some { cls:=.type "object" }) (hu:A.units<cLine):RcAt A s (.ref l) (.str b u) false:=fun prog w E Q h=>by
 have ha:s.TypeIs (.ref l) "object":=⟨_,ho,rfl⟩
 have hb:=typeIs_str s b u
 have h1:=slot_object_eq
 have h2:=F.slot_str_eq_refl
 rcases hi:cmpInfo CmpOp.Eq with⟨sym,f,r⟩
 rw[hi] at h1 h2
 simp only[richCompare,hi,ha.oneThing_none]
 try with_reducible refine wpAny_holding ?_
 refine wpAny_bind (wpAny_cRoomFor_or (.inr hu) ?_)
 refine wpAny_bind (wpAny_typeOf ha (wpAny_bind (wpAny_typeOf hb ?_)))
 simp only[show(Value.type "object" != Value.type "str")=true from by decide,if_true]
 refine wpAny_bind (wpAny_of_eq sub_str_object ?_)
 simp only[if_true]
 refine wpAny_bind (m:=tryCompare (.str b u) _ (.ref l)) (wpAny_tryCompare_declines hb h2 (call_meets F.slot_str_eq_refl hb F.entry_str_eq (F.args_str_eq_2 _ _) (qhJ b u l _) (iAA ho rfl ?_)))
 refine wpAny_bind (m:=tryCompare (.ref l) _ (.str b u)) (wpAny_tryCompare_declines ha h1 (call_meets slot_object_eq ha PySem.F.cmpEntry_eq (qgl _ _) (qjJ b u l) ⟨rfl,?_⟩))
 simp only[Bool.not_true,Bool.false_eq_true,if_false]
 exact wpAny_bind (wpAny_rule (wpAny_bind (wpAny_of_eq (rfl:isSame (.ref l) (.str b u)=pure false) (wpAny_pure h))))
theorem qoP{l:Addr}{x:Str}(hl:H l=some (.plain "object")) (hu:D.A.units<cLine) (h:Φ (.bool false) M H):∀ v u,norm v=.ref l->norm u=S x->WV (model prog w) D (compareOp .Eq v u) M H Φ E:=by
 intro v u hv hu' s hs
 refine substr (qz hv) ?_
 obtain⟨t,rfl⟩:=qH hu'
 exact qjK (hs.own _ _ hl).2.2 hu prog w _ _ ⟨M,H,hs,h⟩
theorem qfg{l:Addr}(h:Φ (.bool true) M H):∀ v u,norm v=.ref l->norm u=.ref l->WV (model prog w) D (compareOp .Is v u) M H Φ E:=by
 intro v u hv hu' s hs
 refine substr (qz hv) (substr (qz hu') ?_)
 exact wpAny_is_ref_self ⟨M,H,hs,h⟩
theorem qe5{l:Addr}(h:Φ (.bool false) M H):∀ v u,norm v=.ref l->norm u=.ref l->WV (model prog w) D (compareOp .IsNot v u) M H Φ E:=by
 intro v u hv hu' s hs
 refine substr (qz hv) (substr (qz hu') ?_)
 exact wpAny_isNot_ref_self ⟨M,H,hs,h⟩
theorem qiJ{l:Addr}{x:Str}(h:Φ (.bool false) M H):∀ v u,norm v=S x->norm u=.ref l->WV (model prog w) D (compareOp .Is v u) M H Φ E:=by
 intro v u hv hu' s hs
 obtain⟨t,rfl⟩:=qH hv
 refine substr (qz hu') ?_
 refine wpAny_of_eq (a:=Value.bool false) ?_ ⟨M,H,hs,h⟩
 rfl
theorem qfN{l:Addr}{x:Str}(h:Φ (.bool true) M H):∀ v u,norm v=S x->norm u=.ref l->WV (model prog w) D (compareOp .IsNot v u) M H Φ E:=by
 intro v u hv hu' s hs
 obtain⟨t,rfl⟩:=qH hv
 refine substr (qz hu') ?_
 refine wpAny_of_eq (a:=Value.bool true) ?_ ⟨M,H,hs,h⟩
 rfl
theorem qjL{i:Int}{Φ:Bool->Loc->AH->Prop}(h:Φ (i != 0) M H):∀ v,norm v=I i->WX (model prog w) D (truthy v) M H Φ E:=by
 intro v hv s hs;obtain⟨t,rfl⟩:=qD hv
 exact PyProof.Rows.truthy_int ⟨M,H,hs,h⟩
theorem qom{x:Str}{Φ:Bool->Loc->AH->Prop}(hf:x.length<2^63)(h:Φ ((x.length:Int) != 0) M H):∀ v,norm v=S x->WX (model prog w) D (truthy v) M H Φ E:=by
 intro v hv s hs;obtain⟨t,rfl⟩:=qH hv
 exact PySem.P.truthy_str (qpQ hf) ⟨M,H,hs.toks _,h⟩
theorem qfO{l:Addr}{xs:List Value}{Φ:Bool->Loc->AH->Prop}(hl:H l=some (lst xs))(hf:xs.length<2^63)(h:Φ (!xs.isEmpty) M H):∀ v,norm v=.ref l->WX (model prog w) D (truthy v) M H Φ E:=by
 intro v hv s hs;refine substr (qz hv) ?_
 refine oEA (hs.list hl) fun us hL hm=>?_
 have e:us.length=xs.length:=by refine substr hm.symm (substr (length_map ..) rfl)
 refine wpAny_truthy_list hL (by refine substr List.size_toArray ?_;exact qyB hf e) ⟨M,H,hs.toks _,?_⟩
 have:us.toArray.isEmpty=xs.isEmpty:=by cases us<;>cases xs<;>simp_all
 refine substr this ?_;exact h
theorem qzS{x y:Str}(h:Φ (.bool !(Builtin.Str.occurrences x y 0 x.length 1).isEmpty) M H):∀ v u,norm v=S y->norm u=S x->WV (model prog w) D (compareOp .In v u) M H Φ E:=by
 intro v u hv hu s hs;obtain⟨t,rfl⟩:=qH hv;obtain⟨t',rfl⟩:=qH hu
 exact PyProof.Rows.in_str ⟨M,H,hs,h⟩
theorem qlS{x y:Str}(h:Φ (.bool (Builtin.Str.occurrences x y 0 x.length 1).isEmpty) M H):∀ v u,norm v=S y->norm u=S x->WV (model prog w) D (compareOp .NotIn v u) M H Φ E:=by
 intro v u hv hu s hs;obtain⟨t,rfl⟩:=qH hv;obtain⟨t',rfl⟩:=qH hu
 refine PyProof.Rows.notIn_str ⟨M,H,hs,?_⟩
 refine substr (Bool.not_not ..) ?_;exact h
theorem qfh{l:Addr}{x:Str}{ys:List Str}(hl:H l=some (tup (ys.map S)))(h:Φ (.bool (!(ys.any (·==x)))) M H):∀ v u,norm v=S x->norm u=.ref l->WV (model prog w) D (compareOp .NotIn v u) M H Φ E:=by
 intro v u hv hu s hs;obtain⟨t,rfl⟩:=qH hv;refine substr (qz hu) ?_
 refine oEA (hs.tup hl) fun us hL hm=>?_
 exact notin_tuple_strs hL (by simpa using qcm hm) ⟨M,H,hs,h⟩
theorem qc2{l b:Addr}{xs ys:List Value}(hl:H l=some (lst xs))(hb:H b=some (lst ys))(hz:xs.length+ys.length<=sizeLine)(h:∀ r,H r=none->Φ (.ref r) M (upd H r (lst (xs++ys)))):
 ∀ v u,norm v=.ref l->norm u=.ref b->WV (model prog w) D (binaryOp .Add v u) M H Φ E:=by
 intro v u hv hu s hs
 refine substr (qz hv) (substr (qz hu) ?_)
 refine qau (hs.own _ _ hl) fun _ _ us n e r=>?_
 refine qau (hs.own _ _ hb) fun _ _ ws n2 e2 r2=>?_
 have hsz:us.size=xs.length:=by refine substr r.symm ?_;simp
 have hsz2:ws.size=ys.length:=by refine substr r2.symm ?_;simp
 refine PySem.P.add_list e e2 ⟨M,_,hs.alloc (d:=lst (xs++ys)) rfl fun h e=>⟨_,_,e,by simp[r,r2]⟩,h _ hs.fresh⟩ (qyC hz hsz hsz2)
theorem qiK{x y:Str}(hz:x.length+y.length<=sizeLine)(h:Φ (S (x++y)) M H):∀ v u,norm v=S x->norm u=S y->WV (model prog w) D (inplaceOp .Add v u) M H Φ E:=by
 intro v u hv hu s hs;obtain⟨t,rfl⟩:=qH hv;obtain⟨t',rfl⟩:=qH hu
 exact PyProof.Rows.iadd_str (fun t' tk=>⟨M,H,hs.toks _,h⟩) hz
noncomputable def qem(D:Dyn)(H:AH)(p:Value)(d:PyData):Prop:=∀ v s M,norm v=p->At D s M H->∃ as,Reads s.heap v d as
noncomputable def qeN(D:Dyn)(H:AH)(ps:List Value)(ds:List PyData):Prop:=∀ vs s M,vs.map norm=ps->At D s M H->∃ as,ReadsAll s.heap vs ds as
theorem qqk{x:Str}:qem D H (S x) (.str x):=fun v s M hv _=>by obtain⟨t,rfl⟩:=qH hv;exact⟨_,Reads.str _ _⟩
theorem qcn:qeN D H [] []:=fun vs s M hv _=>by rw[List.map_eq_nil_iff] at hv;subst hv;exact⟨_,ReadsAll.nil⟩
theorem qa3{p:Value}{d:PyData}{ps:List Value}{ds:List PyData}(h:qem D H p d)(k:qeN D H ps ds):qeN D H (p::ps) (d::ds):=fun vs s M hv hs=>by
 cases vs with
 | nil=>simp at hv
 | cons v vs=>
  simp only[map_cons,List.cons.injEq] at hv
  obtain⟨as,a⟩:=h v s M hv.1 hs
  obtain⟨bs,b⟩:=k vs s M hv.2 hs
  exact⟨_,ReadsAll.cons a b⟩
theorem qaz{l:Addr}{ps:List Value}{ds:List PyData}(hl:H l=some (lst ps))(k:qeN D H ps ds):qem D H (.ref l) (.list ds):=fun v s M hv hs=>by
 refine substr (qz hv) ?_
 refine qau (hs.own _ _ hl) fun _ _ us n e r=>?_
 obtain⟨as,a⟩:=k us.toList s M r hs
 exact⟨_,reads_list_at e rfl rfl a⟩
theorem qdE{l:Addr}{ps:List Value}{ds:List PyData}(hl:H l=some (tup ps))(k:qeN D H ps ds):qem D H (.ref l) (.tuple ds):=fun v s M hv hs=>by
 refine substr (qz hv) ?_
 refine qau (hs.own _ _ hl) fun _ _ us n e r=>?_
 obtain⟨as,a⟩:=k us.toList s M r hs
 exact⟨_,reads_tuple_at e rfl rfl a⟩
theorem qaE:∀ {xs:List Str},qeN D H (xs.map S) (xs.map PyData.str)
 | []=>qcn
 | _::_=>qa3 qqk qaE
theorem qon{p q:Value}{d e:PyData}(hp:qem D H p d)(hq:qem D H q e)(hd:shaped d=true)(he:shaped e=true)(hu:D.A.units+64<cLine)(h:Φ (.bool (PyData.eqv d e)) M H):
 ∀ v u,norm v=p->norm u=q->WV (model prog w) D (compareOp .Eq v u) M H Φ E:=by
 intro v u hv hu' s hs
 obtain⟨as,a⟩:=hp v s M hv hs
 obtain⟨bs,b⟩:=hq u s M hu' hs
 exact eq_dataH a b hd he hu ⟨M,H,hs,h⟩
theorem qjM{p q:Value}{d e:PyData}(hp:qem D H p d)(hq:qem D H q e)(hd:shaped d=true)(he:shaped e=true)(hu:D.A.units+64<cLine)(h:Φ (.bool (!PyData.eqv d e)) M H):
 ∀ v u,norm v=p->norm u=q->WV (model prog w) D (compareOp .NotEq v u) M H Φ E:=by
 intro v u hv hu' s hs
 obtain⟨as,a⟩:=hp v s M hv hs
 obtain⟨bs,b⟩:=hq u s M hu' hs
 exact ne_dataH a b hd he hu ⟨M,H,hs,h⟩
theorem qdR:∀ xs ys:List Str,PyData.eqvAll (xs.map PyData.str) (ys.map PyData.str)=decide (xs=ys)
 | [],[]=>by simp[PyData.eqvAll]
 | [],_::_=>by simp[PyData.eqvAll]
 | _::_,[]=>by simp[PyData.eqvAll]
 | a::r,b::t=>by
  simp only[map_cons,PyData.eqvAll,PyData.eqv,qdR r t]
  by_cases h:a=b<;>by_cases h':r=t<;>simp[h,h']
theorem qdS:∀ xs:List Str,(∀ x∈xs,PyData.strOk x=true)->PyData.canLayAll0 (xs.map PyData.str)=true/\PyData.depthAll (xs.map PyData.str)=0
 | [],_=>by simp[PyData.canLayAll0,PyData.depthAll]
 | a::r,h=>by
  obtain⟨h1,h2⟩:=qdS r fun x hx=>h x (List.mem_cons_of_mem _ hx)
  simp[PyData.canLayAll0,PyData.depthAll,PyData.canLay0,PyData.depth,h1,h2,h a (mem_cons_self ..)]
theorem qcy{xs:List Str}(h:∀ x∈xs,PyData.strOk x=true):shaped (.list (xs.map PyData.str))=true:=by
 obtain⟨h1,h2⟩:=qdS xs h
 simp[shaped,PyData.canLay0,PyData.depth,h1,h2]
theorem qbO{xs ys:List Str}(h:∀ x∈xs,PyData.strOk x=true)(k:∀ x∈ys,PyData.strOk x=true):shaped (.tuple [.list (xs.map PyData.str),.list (ys.map PyData.str)])=true:=by
 obtain⟨h1,h2⟩:=qdS xs h
 obtain⟨k1,k2⟩:=qdS ys k
 simp[shaped,PyData.canLay0,PyData.depth,PyData.canLayAll0,PyData.depthAll,h1,h2,k1,k2]
theorem qkK{l b:Addr}{xs ys:List Str}(hl:H l=some (lst (xs.map S)))(hb:H b=some (lst (ys.map S)))(hx:∀ x∈xs,PyData.strOk x=true)(hy:∀ x∈ys,PyData.strOk x=true)(hu:D.A.units+64<cLine)(h:Φ (.bool (decide (xs=ys))) M H):
 ∀ v u,norm v=.ref l->norm u=.ref b->WV (model prog w) D (compareOp .Eq v u) M H Φ E:=
 qon (qaz hl qaE) (qaz hb qaE) (qcy hx) (qcy hy) hu (by rw[PyData.eqv,qdR];exact h)
theorem qkL{l b:Addr}{xs ys:List Str}(hl:H l=some (lst (xs.map S)))(hb:H b=some (lst (ys.map S)))(hx:∀ x∈xs,PyData.strOk x=true)(hy:∀ x∈ys,PyData.strOk x=true)(hu:D.A.units+64<cLine)(h:Φ (.bool (!decide (xs=ys))) M H):
 ∀ v u,norm v=.ref l->norm u=.ref b->WV (model prog w) D (compareOp .NotEq v u) M H Φ E:=
 qjM (qaz hl qaE) (qaz hb qaE) (qcy hx) (qcy hy) hu (by rw[PyData.eqv,qdR];exact h)
theorem qfi{a b c d:List Str}:PyData.eqv (.tuple [.list (a.map PyData.str),.list (b.map PyData.str)]) (.tuple [.list (c.map PyData.str),.list (d.map PyData.str)])=decide (a=c/\b=d):=by
 simp only[PyData.eqv,PyData.eqvAll,qdR,Bool.and_true]
 by_cases h:a=c<;>by_cases h':b=d<;>simp[h,h']
end
section
variable{ks:List (String×NameKind)}
noncomputable def qaF(Mo:Model)(D:Dyn)(env:Env):List String->List Value->Loc->AH->(Loc->AH->Prop)->Prop
 | [],[],M,H,Φ=>Φ M H
 | x::xs,p::ps,M,H,Φ=>∃ M' H',qcB Mo D env x p M H M' H'/\qaF Mo D env xs ps M' H' Φ
 | _,_,_,_,_=>False
theorem qfP{Mo:Model}{f:String->Value->Sem Unit}(hf:∀ x v M H (Φ:Unit->Loc->AH->Prop) p M' H',norm v=p->qcB Mo D env x p M H M' H'->Φ () M' H'->WX Mo D (f x v) M H Φ E):
 ∀(xs:List String) (vs:List Value) (M:Loc) (H:AH) (Φ:Unit->Loc->AH->Prop),qaF Mo D env xs (vs.map norm) M H (Φ ())->WX Mo D (assignInOrder (xs.map fun x=>f x) vs) M H Φ E
 | [],[],M,H,Φ,h=>qck h
 | x::xs,v::vs,M,H,Φ,h=>by
  refine qbu h fun M' H' st k=>?_
  show WX Mo D (do holding vs (f x v);assignInOrder (xs.map fun x=>f x) vs) M H Φ E
  exact qaO (qdd (hf x v M H _ _ M' H' rfl st (qfP hf xs vs M' H' Φ k)))
 | [],_::_,M,H,Φ,h=>h.elim
 | _::_,[],M,H,Φ,h=>h.elim
noncomputable def nameE(x:String×Pos):Expr:=.Name (Str.ofString x.1) x.2
theorem qbC:∀ xs:List (String×Pos),assignEach (xs.map nameE) env=xs.map fun x=>(false,assign (nameE x) env)
 | []=>rfl
 | x::xs=>by
  show(false,assign (nameE x) env)::assignEach (xs.map nameE) env=_
  refine substr (qbC xs) ?_;rfl
theorem qen{Mo:Model}:∀(xs:List (String×Pos)) (vs:List Value) (M:Loc) (H:AH) (Φ:Unit->Loc->AH->Prop),qaF Mo D env (xs.map (·.1)) (vs.map norm) M H (Φ ())->WX Mo D (assignInOrder (xs.map fun x=>assign (nameE x) env) vs) M H Φ E
 | [],[],M,H,Φ,h=>qck h
 | x::xs,v::vs,M,H,Φ,h=>by
  refine qbu h fun M' H' st k=>?_
  show WX Mo D (do holding vs (assign (nameE x) env v);assignInOrder (xs.map fun x=>assign (nameE x) env) vs) M H Φ E
  exact qaO (qdd (qfI rfl st (qen xs vs M' H' Φ k)))
 | [],_::_,M,H,Φ,h=>h.elim
 | _::_,[],M,H,Φ,h=>h.elim
theorem qd5{Mo:Model}:∀ {xs:List String} {ps:List Value} {M:Loc} {H:AH} {Φ:Loc->AH->Prop},qaF Mo D env xs ps M H Φ->xs.length=ps.length
 | [],[],_,_,_,_=>rfl
 | _::_,_::_,_,_,_,h=>by refine qbu h fun M' H' st k=>?_;simp[qd5 k]
 | [],_::_,_,_,_,h=>h.elim
 | _::_,[],_,_,_,h=>h.elim
theorem qhK(hh:D.A.handled=none)(xs:List (String×Pos)){T:Addr}{ps:List Value}{k:Nat}{pos:Pos}{Φ:Unit->Loc->AH->Prop}(hT:H T=some (tup ps))(h:qaF (model prog w) D env (xs.map (·.1)) ps M H (Φ ())):
 ∀ v,norm v=.ref T->WX (model prog w) D (assign (.Tuple (xs.map nameE) k pos) env v) M H Φ E:=by
 intro v hv s hs
 refine substr (qz hv) ?_
 refine oEA (hs.tup hT) fun us hL hm=>?_
 have hlen:=qd5 h
 have e:us.length=ps.length:=by refine substr hm.symm (substr (length_map ..) rfl)
 refine wpAny_assign_Tuple hh hL (by refine substr (qbC ..) (substr (length_map ..) (substr List.size_toArray (substr e (substr hlen.symm (substr (length_map ..) rfl)))))) ?_ fun h' hx=>?_
 ·refine substr (qbC ..) (substr (propext List.findIdx?_eq_none_iff) ?_)
  intro x hx
  (refine oEA (List.mem_map.mp hx) fun y _ e2'=>?_;obtain rfl:=e2')
  rfl
 ·have hs':=hs.grow (s':={ s with heap:=h' }) fun b o hb=>hx b o (Nat.ne_of_lt (Heap.lt_size hb)) hb
  have e1:(assignEach (xs.map nameE) env).map (·.2)=xs.map fun x=>assign (nameE x) env:=by refine substr (qbC ..) (substr map_map ?_);rfl
  refine substr e1 ?_
  exact qen xs us M H Φ (hm▸h) _ hs'
theorem qbP(hh:D.A.handled=none){x y:String}{p q:Pos}{T:Addr}{ps:List Value}{k:Nat}{pos:Pos}{Φ:Unit->Loc->AH->Prop}(hT:H T=some (tup ps))(h:qaF (model prog w) D env [x,y] ps M H (Φ ())):
 ∀ v,norm v=.ref T->WX (model prog w) D (assign (.Tuple [.Name (Str.ofString x) p,.Name (Str.ofString y) q] k pos) env v) M H Φ E:=qhK hh [(x,p),(y,q)] hT h
theorem qql(hh:D.A.handled=none){x y z:String}{p q r:Pos}{T:Addr}{ps:List Value}{k:Nat}{pos:Pos}{Φ:Unit->Loc->AH->Prop}(hT:H T=some (tup ps))(h:qaF (model prog w) D env [x,y,z] ps M H (Φ ())):
 ∀ v,norm v=.ref T->WX (model prog w) D (assign (.Tuple [.Name (Str.ofString x) p,.Name (Str.ofString y) q,.Name (Str.ofString z) r] k pos) env v) M H Φ E:=qhK hh [(x,p),(y,q),(z,r)] hT h
inductive KTup(Mo:Model)(D:Dyn)(xs:List String)(rest:List Stmt)(env:Env)(Φ:Flow->Loc->AH->Prop)(E:Value->Shared->Prop)(p:Value)(M1:Loc)(H1:AH):Prop
 | mk(T:Addr)(ps:List Value)(e:p=.ref T)(h:H1 T=some (tup ps))(k:qaF Mo D env xs ps M1 H1 (Go Mo D rest env Φ E))
inductive qxq(Mo:Model)(D:Dyn)(xs:List String)(rest:List Stmt)(env:Env)(Φ:Flow->Loc->AH->Prop)(E:Value->Shared->Prop)(p:Value)(M1:Loc)(H1:AH):Prop
 | mk(T:Addr)(ps:List Value)(e:p=.ref T)(h:H1 T=some (tup ps))(l:ps.length=xs.length)(k:qaF Mo D env xs.reverse ps.reverse M1 H1 (Go Mo D rest env Φ E))
inductive qzt(Mo:Model)(D:Dyn)(x y:String)(rest:List Stmt)(env:Env)(Φ:Flow->Loc->AH->Prop)(E:Value->Shared->Prop)(p:Value)(M1:Loc)(H1:AH):Prop
 | mk(T:Addr)(u1 u2:Value)(e:p=.ref T)(h:H1 T=some (tup [u1,u2]))(k:qaF Mo D env [y,x] [u2,u1] M1 H1 (Go Mo D rest env Φ E))
inductive qzu(Mo:Model)(D:Dyn)(x y z:String)(rest:List Stmt)(env:Env)(Φ:Flow->Loc->AH->Prop)(E:Value->Shared->Prop)(p:Value)(M1:Loc)(H1:AH):Prop
 | mk(T:Addr)(u1 u2 u3:Value)(e:p=.ref T)(h:H1 T=some (tup [u1,u2,u3]))(k:qaF Mo D env [z,y,x] [u3,u2,u1] M1 H1 (Go Mo D rest env Φ E))
noncomputable abbrev qzv(Mo:Model)(D:Dyn)(x y:String)(rest:List Stmt)(env:Env)(Φ:Flow->Loc->AH->Prop)(E:Value->Shared->Prop):Value->Loc->AH->Prop:=fun v M1 H1=>qaF Mo D env [x,y] [v,v] M1 H1 (Go Mo D rest env Φ E)
theorem qeo(hh:D.A.handled=none)(xs:List (String×Pos)){value:Expr}{k:Nat}{tpos pos:Pos}{rest:List Stmt}{Φ:Flow->Loc->AH->Prop}
 (h:WV (model prog w) D (eval value env) M H (KTup (model prog w) D (xs.map (·.1)) rest env Φ E) E)
 (hs:swapsWithSole [.Tuple (xs.map nameE) k tpos] value pos.line env=pure false) (hw:swappedStores [.Tuple (xs.map nameE) k tpos] value env=pure none):
 WS (model prog w) D (execs (.Assign [.Tuple (xs.map nameE) k tpos] value pos::rest) env) M H Φ E:=
 qam fun s hs'=>Assign_Tuple (wpAny_mono (h s hs') (fun v s1 ⟨M1,H1,hs1,T,ps,hv,hT,st⟩=>
  wpAny_mono (qhK (E:=E) hh xs (Φ:=fun _ M2 H2=>WS (model prog w) D (execs rest env) M2 H2 Φ E) hT st v hv s1 hs1) (fun _ s2 q'=>Post.el q' fun M2 H2 hs2 k2=>⟨M2,H2,hs2,k2⟩) fun _ _ x=>x) fun _ _ x=>x) hs hw
theorem qjN(hh:D.A.handled=none){x y:String}{p q:Pos}{value:Expr}{k:Nat}{tpos pos:Pos}{rest:List Stmt}{Φ:Flow->Loc->AH->Prop}
 (h:WV (model prog w) D (eval value env) M H (KTup (model prog w) D [x,y] rest env Φ E) E)
 (hs:swapsWithSole [.Tuple [.Name (Str.ofString x) p,.Name (Str.ofString y) q] k tpos] value pos.line env=pure false:=by rfl) (hw:swappedStores [.Tuple [.Name (Str.ofString x) p,.Name (Str.ofString y) q] k tpos] value env=pure none:=by rfl):
 WS (model prog w) D (execs (.Assign [.Tuple [.Name (Str.ofString x) p,.Name (Str.ofString y) q] k tpos] value pos::rest) env) M H Φ E:=qeo hh [(x,p),(y,q)] h hs hw
theorem qfQ(hh:D.A.handled=none){x y z u:String}{p q r t:Pos}{value:Expr}{k:Nat}{tpos pos:Pos}{rest:List Stmt}{Φ:Flow->Loc->AH->Prop}
 (h:WV (model prog w) D (eval value env) M H (KTup (model prog w) D [x,y,z,u] rest env Φ E) E)
 (hs:swapsWithSole [.Tuple [.Name (Str.ofString x) p,.Name (Str.ofString y) q,.Name (Str.ofString z) r,.Name (Str.ofString u) t] k tpos] value pos.line env=pure false:=by rfl)
 (hw:swappedStores [.Tuple [.Name (Str.ofString x) p,.Name (Str.ofString y) q,.Name (Str.ofString z) r,.Name (Str.ofString u) t] k tpos] value env=pure none:=by rfl):
 WS (model prog w) D (execs (.Assign [.Tuple [.Name (Str.ofString x) p,.Name (Str.ofString y) q,.Name (Str.ofString z) r,.Name (Str.ofString u) t] k tpos] value pos::rest) env) M H Φ E:=qeo hh [(x,p),(y,q),(z,r),(u,t)] h hs hw
theorem qjO(hh:D.A.handled=none){x y z u o:String}{p q r t j:Pos}{value:Expr}{k:Nat}{tpos pos:Pos}{rest:List Stmt}{Φ:Flow->Loc->AH->Prop}
 (h:WV (model prog w) D (eval value env) M H (KTup (model prog w) D [x,y,z,u,o] rest env Φ E) E)
 (hs:swapsWithSole [.Tuple [.Name (Str.ofString x) p,.Name (Str.ofString y) q,.Name (Str.ofString z) r,.Name (Str.ofString u) t,.Name (Str.ofString o) j] k tpos] value pos.line env=pure false:=by rfl)
 (hw:swappedStores [.Tuple [.Name (Str.ofString x) p,.Name (Str.ofString y) q,.Name (Str.ofString z) r,.Name (Str.ofString u) t,.Name (Str.ofString o) j] k tpos] value env=pure none:=by rfl):
 WS (model prog w) D (execs (.Assign [.Tuple [.Name (Str.ofString x) p,.Name (Str.ofString y) q,.Name (Str.ofString z) r,.Name (Str.ofString u) t,.Name (Str.ofString o) j] k tpos] value pos::rest) env) M H Φ E:=qeo hh [(x,p),(y,q),(z,r),(u,t),(o,j)] h hs hw
theorem qhL{l l':List Str}{n:Nat}{vs:List Expr}{A B C:Sem (Option (List Str))}(e:l=l')(h:(l'.length != n||l'.eraseDups.length != l'.length)=false)(hf:vs.all (foldedForSure 8)=false)(hc:vs.all (constantsAlone 8)=false):
 (if (l.length != n||l.eraseDups.length != l.length)=true then A else if vs.all (foldedForSure 8)=true then B else if vs.all (constantsAlone 8)=true then C else pure (some l))=pure (some l'):=by
 subst e
 exact(if_neg (by rw[h];decide)).trans ((if_neg (by rw[hf];decide)).trans (if_neg (by rw[hc];decide)))
theorem qep{f:Expr->Option Str}{a:Expr}{x:Str}{l:List Expr}{l':List Str}(h:f a=some x)(k:l.filterMap f=l'):(a::l).filterMap f=x::l':=by
 rw[List.filterMap_cons,h,k]
theorem qfR(ke:KE env ks){x:String}{p q:Pos}(hx:qt x ks=some .local)(hl:(p.line==q.line)=true):(env.kindOf (Str.ofString x)==some .local&&p.line==q.line)=true:=by
 rw[ke.of hx,hl];rfl
theorem qoo(ke:KE env ks){c:Bool}(h:c=false):¬ (c||env.blockKind != .function)=true:=by
 have hb:env.blockKind=.function:=by unfold Env.blockKind;refine substr ke.kind ?_;rfl
 rw[hb,h];decide
theorem qxr{a b:Str}(h:(b==a)=false):[a,b].eraseDups=[a,b]:=by
 simp only[List.eraseDups_cons,List.filter_cons,List.filter_nil,h,Bool.not_false,if_true,List.eraseDups_nil]
theorem qzw(ke:KE env ks){x y:String}{p q:Pos}{k k':Nat}{tp vp:Pos}{a b:Expr}(hx:qt x ks=some .local)(hy:qt y ks=some .local)(hl:(q.line==p.line)=true)(hxy:(Str.ofString y==Str.ofString x)=false)
 (hs:([a,b].any fun | .Starred ..=>true | _=>false)=false) (hf:[a,b].all (foldedForSure 8)=false) (hc:[a,b].all (constantsAlone 8)=false):
 swappedStores [.Tuple [.Name (Str.ofString x) p,.Name (Str.ofString y) q] k tp] (.Tuple [a,b] k' vp) env=pure (some [Str.ofString x,Str.ofString y]):=
 (if_neg (qoo ke rfl)).trans ((if_neg fun h=>Bool.noConfusion (h.symm.trans hs)).trans (qhL (qep (if_pos (qfR ke hx (beq_self_eq_true _))) (qep (if_pos (qfR ke hy hl)) rfl)) (by rw[qxr hxy];rfl) hf hc))
theorem qzx(ke:KE env ks){x y z:String}{p q r:Pos}{k k':Nat}{tp vp:Pos}{a b c:Expr}(hx:qt x ks=some .local)(hy:qt y ks=some .local)(hz:qt z ks=some .local)(hl:(q.line==p.line)=true)(hl':(r.line==p.line)=true)
 (hxy:(Str.ofString y==Str.ofString x)=false) (hxz:(Str.ofString z==Str.ofString x)=false) (hyz:(Str.ofString z==Str.ofString y)=false)
 (hs:([a,b,c].any fun | .Starred ..=>true | _=>false)=false) (hf:[a,b,c].all (foldedForSure 8)=false) (hc:[a,b,c].all (constantsAlone 8)=false):
 swappedStores [.Tuple [.Name (Str.ofString x) p,.Name (Str.ofString y) q,.Name (Str.ofString z) r] k tp] (.Tuple [a,b,c] k' vp) env=pure (some [Str.ofString x,Str.ofString y,Str.ofString z]):=
 (if_neg (qoo ke rfl)).trans ((if_neg fun h=>Bool.noConfusion (h.symm.trans hs)).trans (qhL (qep (if_pos (qfR ke hx (beq_self_eq_true _))) (qep (if_pos (qfR ke hy hl)) (qep (if_pos (qfR ke hz hl')) rfl))) (by
  have n1:[Str.ofString x,Str.ofString y,Str.ofString z].eraseDups=[Str.ofString x,Str.ofString y,Str.ofString z]:=by
   simp only[List.eraseDups_cons,List.filter_cons,List.filter_nil,hxy,hxz,hyz,Bool.not_false,if_true,List.eraseDups_nil]
  rw[n1];rfl) hf hc))
theorem qkM(hh:D.A.handled=none)(xs:List String){elts:List Expr}{value:Expr}{k:Nat}{tpos pos:Pos}{rest:List Stmt}{Φ:Flow->Loc->AH->Prop}
 (hw:swappedStores [.Tuple elts k tpos] value env=pure (some (xs.map Str.ofString)))
 (h:WV (model prog w) D (eval value env) M H (qxq (model prog w) D xs rest env Φ E) E)
 (hs:swapsWithSole [.Tuple elts k tpos] value pos.line env=pure false):
 WS (model prog w) D (execs (.Assign [.Tuple elts k tpos] value pos::rest) env) M H Φ E:=
 qam fun s hs'=>Assign_Tuple_swapped (wpAny_mono (h s hs') (fun v s1 ⟨M1,H1,hs1,T,ps,hv,hT,hl,st⟩=>by
  refine substr (qz hv) ?_
  refine oEA (hs1.tup hT) fun us hL hm=>?_
  have e:us.length=ps.length:=by refine substr hm.symm (substr (length_map ..) rfl)
  have e2:(xs.map Str.ofString).length=us.toArray.size:=by refine substr (length_map ..) (substr List.size_toArray (substr e (substr hl rfl)))
  refine substr e2 ?_
  refine wpAny_unpackItems_tuple hh hL fun h' hx=>?_
  have hs2:=hs1.grow (s':={ s1 with heap:=h' }) fun b o hb=>hx b o (Nat.ne_of_lt (Heap.lt_size hb)) hb
  have e3:((xs.map Str.ofString).reverse.map fun n=>bindName env n)=xs.reverse.map fun x=>bindName env (Str.ofString x):=by refine substr (Eq.symm List.map_reverse) (substr map_map ?_);rfl
  refine substr e3 ?_
  refine wpAny_mono (qfP (Mo:=model prog w) (E:=E) (f:=fun x v=>bindName env (Str.ofString x) v) (fun x v M H Φ p M' H' hp st k=>qfF hp st k) xs.reverse us.toArray.toList.reverse M1 H1 (fun _ M2 H2=>WS (model prog w) D (execs rest env) M2 H2 Φ E) ?_ _ hs2) (fun _ s3 q'=>Post.el q' fun M3 H3 hs3 k3=>⟨M3,H3,hs3,k3⟩) fun _ _ x=>x
  refine substr List.toList_toArray (substr List.map_reverse (substr hm ?_));exact st) fun _ _ x=>x) hs hw
theorem qdF(hh:D.A.handled=none)(ke:KE env ks){x y:String}{p q:Pos}{k k':Nat}{tp vp pos:Pos}{a b:Expr}{rest:List Stmt}{Φ:Flow->Loc->AH->Prop}(hx:qt x ks=some .local)(hy:qt y ks=some .local)
 (h:WV (model prog w) D (eval (.Tuple [a,b] k' vp) env) M H (qzt (model prog w) D x y rest env Φ E) E)
 (hl:(q.line==p.line)=true:=by rfl) (hxy:(Str.ofString y==Str.ofString x)=false:=by decide +kernel)
 (hs:([a,b].any fun | .Starred ..=>true | _=>false)=false:=by rfl) (hf:[a,b].all (foldedForSure 8)=false:=by rfl) (hc:[a,b].all (constantsAlone 8)=false:=by rfl):
 WS (model prog w) D (execs (.Assign [.Tuple [.Name (Str.ofString x) p,.Name (Str.ofString y) q] k tp] (.Tuple [a,b] k' vp) pos::rest) env) M H Φ E:=
 qkM hh [x,y] (qzw ke hx hy hl hxy hs hf hc) (qM h fun v M1 H1 ⟨T,u1,u2,h1,h2,h3⟩=>⟨T,[u1,u2],h1,h2,rfl,h3⟩) rfl
theorem qgm(hh:D.A.handled=none)(ke:KE env ks){x y z:String}{p q r:Pos}{k k':Nat}{tp vp pos:Pos}{a b c:Expr}{rest:List Stmt}{Φ:Flow->Loc->AH->Prop}(hx:qt x ks=some .local)(hy:qt y ks=some .local)(hz:qt z ks=some .local)
 (h:WV (model prog w) D (eval (.Tuple [a,b,c] k' vp) env) M H (qzu (model prog w) D x y z rest env Φ E) E)
 (hl:(q.line==p.line)=true:=by rfl) (hl':(r.line==p.line)=true:=by rfl) (hxy:(Str.ofString y==Str.ofString x)=false:=by decide +kernel) (hxz:(Str.ofString z==Str.ofString x)=false:=by decide +kernel) (hyz:(Str.ofString z==Str.ofString y)=false:=by decide +kernel)
 (hs:([a,b,c].any fun | .Starred ..=>true | _=>false)=false:=by rfl) (hf:[a,b,c].all (foldedForSure 8)=false:=by rfl) (hc:[a,b,c].all (constantsAlone 8)=false:=by rfl):
 WS (model prog w) D (execs (.Assign [.Tuple [.Name (Str.ofString x) p,.Name (Str.ofString y) q,.Name (Str.ofString z) r] k tp] (.Tuple [a,b,c] k' vp) pos::rest) env) M H Φ E:=
 qkM hh [x,y,z] (qzx ke hx hy hz hl hl' hxy hxz hyz hs hf hc) (qM h fun v M1 H1 ⟨T,u1,u2,u3,h1,h2,h3⟩=>⟨T,[u1,u2,u3],h1,h2,rfl,h3⟩) rfl
theorem qgP{x y:String}{p q pos:Pos}{value:Expr}{rest:List Stmt}{Φ:Flow->Loc->AH->Prop}
 (h:WV (model prog w) D (eval value env) M H (qzv (model prog w) D x y rest env Φ E) E):
 WS (model prog w) D (execs (.Assign [.Name (Str.ofString x) p,.Name (Str.ofString y) q] value pos::rest) env) M H Φ E:=
 qam fun s hs'=>wpAny_Assign_two (wpAny_mono (h s hs') (fun v s1 ⟨M1,H1,hs1,M2,H2,st,M3,H3,st',k⟩=>
  wpAny_mono (qfI (Mo:=model prog w) (E:=E) (Φ:=fun _ M4 H4=>M4=M2/\H4=H2) rfl st ⟨rfl,rfl⟩ s1 hs1) (fun _ s2 q'=>Post.el q' fun M4 H4 hs2 z'=>oA z' fun e1 e2=>by
   subst e1 e2
   exact wpAny_mono (qfI (Mo:=model prog w) (E:=E) (Φ:=fun _ M5 H5=>M5=M3/\H5=H3) rfl st' ⟨rfl,rfl⟩ s2 hs2) (fun _ s3 q'=>Post.el q' fun M5 H5 hs3 z'=>oA z' fun e1 e2=>by
    subst e1 e2
    exact⟨M5,H5,hs3,k⟩) fun _ _ x=>x) fun _ _ x=>x) fun _ _ x=>x)
end
section
variable{ks ks0:List (String×NameKind)}
noncomputable abbrev qqm(Φ:Value->Loc->AH->Prop)(M:Loc)(fl:Flow)(_:Loc)(H':AH):Prop:=∃ Hs,Sub Hs H'/\Φ (qhC fl) M Hs
theorem qfS{α:Type}{Mo:Model}{t:Sem α}{Φ:α->Loc->AH->Prop}(h:WX Mo D t M H (fun a M' H'=>∃ Hs,Sub Hs H'/\Φ a M' Hs) E):WX Mo D t M H Φ E:=
 fun s hs=>wpAny_mono (h s hs) (fun a s1 q'=>Post.el q' fun M' H' hs1 z'=>oEA z' fun Hs hS k=>⟨M',Hs,hs1.sub hS,k⟩) fun _ _ x=>x
theorem Kp.refl{P:Addr->Prop}:Kp P H H:=fun _ _ _ e=>e
theorem Kp.new{P:Addr->Prop}{H H':AH}{r:Addr}{d:HO}(k:Kp P H H')(hr:H' r=none):Kp P H (upd H' r d):=fun a e na h=>qx hr (k a e na h)
theorem Kp.at{P:Addr->Prop}{H H':AH}{r:Addr}{d:HO}(k:Kp P H H')(hr:P r):Kp P H (upd H' r d):=fun a e na h=>(qe fun q=>na (by refine substr q ?_;exact hr)).trans (k a e na h)
theorem Kp.sub{P:Addr->Prop}{H H':AH}(k:Sub H H'):Kp P H H':=fun a d _ e=>k a d e
theorem Sub.new{H H':AH}{r:Addr}{d:HO}(k:Sub H H')(hr:H' r=Option.none):Sub H (Mine.upd H' r d):=k.trans (Sub.upd hr)
theorem Sub.add{H H':AH}{r:Addr}{d:HO}(k:Sub H H')(hr:H' r=some d):Sub (Mine.upd H r d) H':=qiH k hr
theorem Sub.none{H H':AH}{r:Addr}(k:Sub H H')(hr:H' r=Option.none):H r=Option.none:=by
 cases h:H r with
 | none=>rfl
 | some d=>rw[k r d h] at hr;exact o_sn hr
theorem qjP{ifs:List Expr}{Φ Φ':Bool->Loc->AH->Prop}{Mo:Model}(h:Tests Mo D ifs env M H Φ E)(hq:∀ b M' H',Φ b M' H'->Φ' b M' H'):Tests Mo D ifs env M H Φ' E:=by
 match ifs,h with
 | [],h=>exact hq _ _ _ h
 | [c],h=>exact qM (show WX Mo D (isTrue c env (eval c env)) M H Φ E from h) hq
end
section
variable{ks ks0:List (String×NameKind)}{K:Frag}{gl bl:List (String×Value)}
theorem qa9{Φ Φ':Flow->Loc->AH->Prop}{J J':Loc->AH->Prop}(h1:∀ f M H,Φ f M H->Φ' f M H)(h2:∀ M H,J M H->J' M H){f:Flow}{M:Loc}{H:AH}(h:TurnEnd Φ J f M H):TurnEnd Φ' J' f M H:=by
 cases f with
 | next=>exact h2 _ _ h
 | cont=>exact h2 _ _ h
 | brk=>exact h1 _ _ _ h
 | ret p=>exact h1 _ _ _ h
inductive TE(K:AH->Prop)(Hc Hk:AH)(J:Loc->AH->Prop)(M5:Loc)(H5:AH):Prop
 | mk(kp:K H5)(Hk':AH)(s:Sub Hk' H5)(av:∀ a d,Hk' a=some d->(∃ d',Hk a=some d')\/Hc a=none)(j:J M5 Hk')
inductive FK(St:Nat->AH->Prop)(pr:Addr->Prop)(J:Nat->Loc->AH->Prop)(k:Nat)(M:Loc)(Hc:AH):Prop
 | mk(st:St k Hc)(Hk:AH)(s:Sub Hk Hc)(hp:∀ a,pr a->Hk a=none)(j:J k M Hk)
theorem qkN{target:Expr}{it:Value}{body rest:List Stmt}{pr fp:Addr->Prop}{n:Nat}{St:Nat->AH->Prop}{Yl:Nat->Value->AH->Prop}{Φ:Flow->Loc->AH->Prop}{H0:AH}
 (I:Iter (model prog w) D target it pr fp n St Yl) (h0:St 0 H) (J:Nat->Loc->AH->Prop) (hS0:Sub H0 H) (hp0:∀ a,pr a->H0 a=none) (hJ0:J 0 M H0)
 (step:∀ k M Hk Hc v,k<n->J k M Hk->Sub Hk Hc->Yl k (norm v) Hc->(∀ H',(∀ a,fp a->∀ d,Hc a=some d->H' a=some d)->St (k+1) H')->St (k+1) Hc->(∀ a,pr a->Hk a=none)->
  WX (model prog w) D (assign target env v) M Hc (fun _ M3 H3=>WS (model prog w) D (execs body env) M3 H3 (TurnEnd (Seq (model prog w) D rest env Φ E) (TE (St (k+1)) Hc Hk (J (k+1)))) NoE) NoE)
 (fin:∀ M Hk,J n M Hk->WS (model prog w) D (execs rest env) M Hk Φ E):
 qgj (model prog w) D target it body env M H (Seq (model prog w) D rest env Φ E) E:=by
 refine qlL I (FK St pr J) (fun hj=>hj.1) ⟨h0,H0,hS0,hp0,hJ0⟩ ?_ ?_
 ·rintro k M3 Hc H3 v hk ⟨hst,Hk,hS,hp,hJ⟩ hst3 hkeep hY
  have hS3:Sub Hk H3:=fun a d e=>hkeep a d (fun q=>nomatch (hp a q).symm.trans e) (hS a d e)
  refine qM (step k M3 Hk H3 v hk hJ hS3 hY (fun H' hf=>I.frame hst3 hf) hst3 hp) fun _ M4 H4 h4=>?_
  refine qM h4 fun f M5 H5 h5=>qa9 (fun _ _ _ x=>x) (fun M6 H6 h6=>?_) h5
  obtain⟨hst6,Hk',hS6,hav,hJ6⟩:=h6
  refine⟨hst6,Hk',hS6,fun a ha=>?_,hJ6⟩
  cases hq:Hk' a with
  | none=>rfl
  | some d=>exact((hav a d hq).elim (fun q=>q.elim fun _ h=>nomatch (hp a ha).symm.trans h) fun h=>(I.live hst3 a ha).elim fun _ g=>nomatch h.symm.trans g:False).elim
 ·rintro M3 Hc H1 ⟨hst,Hk,hS,hp,hJ⟩ hkeep
  exact qog (fin M3 Hk hJ) fun a d e=>hkeep a d (fun q=>nomatch (hp a q).symm.trans e) (hS a d e)
theorem qba{Φ:Value->Loc->AH->Prop}(ok:Ok K gl bl D (n+1)){f:Addr}{oc:Value}{od:Option Addr}{osl:Array (Option Value)}{name qual:Str}{params:Arguments}{body:List Stmt}{scope:Scope}{dV kV doc pm cdv ct:Value}{an:Option Addr}
 (ho:K.lookup f=some ⟨oc,od,.func (fnOf name qual params body scope dV kV doc pm an cdv ct),osl⟩) (hcd:codeIn K cdv qual=true)
 (ns:List String) {ps:List Value} (ks:List (String×NameKind))
 (hbind:∀ vs,vs.length=ns.length->bindArgs (fnOf name qual params body scope dV kV doc pm an cdv ct) ⟨vs,[]⟩=pure ((ns.zip vs).map fun p=>(Str.ofString p.1,p.2)))
 (hlen:ps.length=ns.length) (hks:scope.names=ks.map fun p=>(Str.ofString p.1,p.2)) (hloc:∀ x∈ns,qt x ks=some .local)
 (hcell:∀ x∈ks,x.2≠.cell) (hnd:qt "__debug__" ks=none)
 (hb:∀(D':Dyn) (env:Env),Ok K gl bl D' n->KE env ks->env.locals=D'.L->env.frame=some D'.L->WS (model prog w) D' (execs body env) ((ns.zip ps).reverse) H (qqm Φ M) (fun _ _=>False))
 (hco:scope.isCoroutine=false:=by rfl) (hgen:scope.isGenerator=false:=by rfl) (hk:scope.kind=.function:=by rfl):
 ∀ vs,vs.map norm=ps->WV (model prog w) D (call (.ref f) vs) M H Φ E:=by
 intro vs hvs
 refine qfS (Φ:=fun v=>Φ (norm v)) ?_
 exact enter (Φ:=fun v M' H'=>∃ Hs,Sub Hs H'/\Φ v M' Hs) ok ho hcd ns hbind hlen hks hloc hcell hnd hb hco hgen hk vs hvs
end
noncomputable def glob:List (String×Value):=[("sorted_list_difference",.ref 88),("unorderable_list_difference",.ref 95),("_Mismatch",.ref 166),("_count_diff_all_purpose",.ref 176),("translate",.ref 188),("_special_chars_map",.ref 190),
 ("escape",.ref 200),("_translate",.ref 207),("_join_translated_parts",.ref 214),("_law_signs",.ref 219),("_law_pieces",.ref 226),("_law_fits",.ref 231),("_law_takes",.ref 238),("_law_taken",.ref 243),
 ("_law_dressed",.ref 250),("_law_met",.ref 257),("_law_either",.ref 264),("_law_piled",.ref 269),("_law_under",.ref 274)]
noncomputable def q7:List (String×Value):=[("len",.builtin "len"),("zip",.type "zip"),("range",.type "range"),("list",.type "list"),("tuple",.type "tuple"),("int",.type "int"),("sum",.builtin "sum"),("sorted",.builtin "sorted"),
 ("reversed",.type "reversed"),("enumerate",.type "enumerate"),("object",.type "object"),("isinstance",.builtin "isinstance"),("str",.type "str"),("IndexError",.type "IndexError"),("ValueError",.type "ValueError")]
section
variable{Mo:Model}{ks:List (String×NameKind)}{gl bl:List (String×Value)}{x:String}{p:Value}{pos:Pos}{K:Frag}
theorem qbG{rest:List Stmt}{Φ:Flow->Loc->AH->Prop}(h:WS Mo D (execs rest env) M H Φ E):WS Mo D (execs [] env) M H (Seq Mo D rest env Φ E) E:=qy h
theorem qbD{body:List Stmt}{Φ:Flow->Loc->AH->Prop}(h:WS Mo D (execs body env) M H Φ E):WS Mo D (execs body env) M H (Seq Mo D [] env Φ E) E:=
 qM h fun f M' H' k=>by
  cases f with
  | next=>exact qy k
  | _=>exact k
theorem qaj{e:Expr}{Φ:Value->Loc->AH->Prop}(h:WV Mo D (eval e env) M H Φ E):WO Mo D (some e) env M H Φ E:=h
theorem qcd{Φ:Value->Loc->AH->Prop}(h:Φ .none M H):WO Mo D none env M H Φ E:=h
theorem qJ{n:Nat}(h:Nat.ble n 1000=true):n<=sizeLine:=Nat.le_trans (Nat.le_of_ble_eq_true h) (by decide)
theorem qbj{v:Value}:look x (put x v M)=some v:=by refine substr (qb8 ..) (substr (if_pos rfl) rfl)
theorem qbE{y:String}{v:Value}{r:Option Value}(h:x≠y)(k:look x M=r):look x (put y v M)=r:=by refine substr (qb8 ..) (substr (if_neg h) ?_);exact k
theorem qbm{y:String}{v:Value}{r:Option Value}(h:decide (x=y)=false)(k:look x M=r):look x (put y v M)=r:=qbE (of_decide_eq_false h) k
theorem qbQ(ke:KE env ks)(hl:env.locals=D.L)(hk:qt x ks=some .local)(hv:look x M=some p)(h:Φ p M H):WV Mo D (eval (.Name (Str.ofString x) pos) env) M H Φ E:=qdB ke hk (qfe ke hl hk hv) h
theorem qoQ{Lc:Addr}{Mc:Loc}(ke:KE env ks)(hl:env.locals=Lc)(hk:qt x ks=some .local)(hc:H Lc=some (.ns Mc))(hv:look x Mc=some p)(h:Φ p M H):WV Mo D (eval (.Name (Str.ofString x) pos) env) M H Φ E:=qdB ke hk (qiD ke hl hk hc hv) h
theorem qoR(ke:KE env ks)(ok:Ok K gl bl D n)(hk:qt x ks=some .globalImplicit)(hv:qt x gl=some p)(h:Φ p M H):WV Mo D (eval (.Name (Str.ofString x) pos) env) M H Φ E:=qdB ke hk (qoJ ke ok.glob hk hv) h
theorem qqn(ke:KE env ks)(ok:Ok K gl bl D n)(hk:qt x ks=some .globalImplicit)(hv:qt x bl=some p)(h:Φ p M H):WV Mo D (eval (.Name (Str.ofString x) pos) env) M H Φ E:=qdB ke hk (qkG ke ok.glob hk hv) h
theorem qoS{c:Addr}(ke:KE env ks)(hk:qt x ks=some .free)(hc:env.cells.lookup (Str.ofString x)=some c)(hv:H c=some (.cell (some p)))(hn:qt "__classdict__" ks=none) (h:Φ p M H):WV Mo D (eval (.Name (Str.ofString x) pos) env) M H Φ E:=qdB ke hk (qiF ke hk hc hv hn) h
theorem qoT{c:Addr}(ke:KE env ks)(hk:qt x ks=some .cell)(hc:env.cells.lookup (Str.ofString x)=some c)(hv:H c=some (.cell (some p)))(h:Φ p M H):WV Mo D (eval (.Name (Str.ofString x) pos) env) M H Φ E:=qdB ke hk (qiE ke hk hc hv) h
theorem qan{a:Addr}{oc:Value}{od:Option Addr}{osl:Array (Option Value)}{fd:FuncData}(ok:Ok K gl bl D n)(ho:K.lookup a=some ⟨oc,od,.func fd,osl⟩):qeh Mo D (.ref a):=qlK (fun g T=>ok.X T _ _ ho) rfl
theorem st1{Φ:Loc->AH->Prop}(ke:KE env ks)(hl:env.locals=D.L)(hk:qt x ks=some .local)(h:Φ (put x p M) H):qcX Mo D env x p M H Φ:=⟨_,_,qhz ke hl hk,h⟩
theorem stc{Φ:Loc->AH->Prop}{Lc:Addr}{Mc:Loc}(ke:KE env ks)(hl:env.locals=Lc)(hk:qt x ks=some .local)(hc:H Lc=some (.ns Mc))(h:Φ M (upd H Lc (.ns (put x p Mc)))):qcX Mo D env x p M H Φ:=⟨_,_,qoK ke hl hk hc,h⟩
theorem qqo{Φ:Loc->AH->Prop}{c:Addr}{u:Option Value}(ke:KE env ks)(hk:qt x ks=some .cell)(hc:env.cells.lookup (Str.ofString x)=some c)(hv:H c=some (.cell u))(h:Φ M (upd H c (.cell (some p)))):qcX Mo D env x p M H Φ:=⟨_,_,qoL ke hk hc hv,h⟩
theorem qN{Φ:Loc->AH->Prop}(h:Φ M H):qaF Mo D env [] [] M H Φ:=h
noncomputable abbrev KSt(Mo:Model)(D:Dyn)(env:Env)(xs:List String)(ps:List Value)(Φ:Loc->AH->Prop):Loc->AH->Prop:=fun M' H'=>qaF Mo D env xs ps M' H' Φ
theorem qj{xs:List String}{ps:List Value}{Φ:Loc->AH->Prop}(h:qcX Mo D env x p M H (KSt Mo D env xs ps Φ)):qaF Mo D env (x::xs) (p::ps) M H Φ:=by
 obtain⟨M',H',st,k⟩:=h
 exact⟨M',H',st,k⟩
theorem qco{Φ:Bool->Loc->AH->Prop}(h:Φ true M H):Tests Mo D [] env M H Φ E:=h
theorem qcP{c:Expr}{Φ:Bool->Loc->AH->Prop}(h:WX Mo D (isTrue c env (eval c env)) M H Φ E):Tests Mo D [c] env M H Φ E:=h
theorem qar{Φ:Unit->Loc->AH->Prop}{v:Value}(hp:norm v=p)(h:qcX Mo D env x p M H (Φ ())):WX Mo D (assign (.Name (Str.ofString x) pos) env v) M H Φ E:=by
 obtain⟨M',H',st,k⟩:=h
 exact qfI hp st k
end
section
variable{ks ks0:List (String×NameKind)}
inductive qzy(Φ:Value->Loc->AH->Prop)(p:Value)(M1:Loc)(H1:AH):Prop
 | mk(i:Int)(e:p=I i)(k:Φ (I (-i)) M1 H1)
theorem qdi{x:Expr}{pos:Pos}{Φ:Value->Loc->AH->Prop}(h:WV (model prog w) D (eval x env) M H (qzy Φ) E):WV (model prog w) D (eval (.UnaryOp .USub x pos) env) M H Φ E:=
 fun s hs=>UnaryOp_ (wpAny_mono (h s hs) (fun v s1 ⟨M1,H1,hs1,i,hv,k⟩=>by
  obtain⟨t,rfl⟩:=qD hv
  exact PyProof.Rows.neg_int ⟨M1,H1,hs1.toks _,k⟩) fun _ _ x=>x)
theorem qgn(xs:List Value)(lo hi:Option Int):pick xs lo hi=(xs.drop (kms_lo lo xs.length)).take (kms_hi hi xs.length-kms_lo lo xs.length):=by
 unfold pick
 refine substr (kms_pick_eq ..) ?_
 rfl
end
section
variable{ks ks0:List (String×NameKind)}{Yl:Nat->Value->AH->Prop}{fr:Addr->Prop}
inductive IA(prog:Program)(w:World)(D:Dyn)(target:Expr)(M:Loc)(H:AH)(n:Nat)(Yl:Nat->Value->AH->Prop)(fr:Addr->Prop)(it:Value)(M2:Loc)(H2:AH):Prop
 | mk(hM:M2=M)(hS:Sub H H2)(pr fp:Addr->Prop)(St:Nat->AH->Prop)(I:Iter (model prog w) D target it pr fp n St Yl)(hpr:∀ a,pr a->H a=none/\∃ d,H2 a=some d)
  (hfp:∀ a,fp a->(H a=none\/fr a)/\∃ d,H2 a=some d) (st:St 0 H2)
noncomputable def qaf(prog:Program)(w:World)(D:Dyn)(env:Env)(target iter:Expr)(M:Loc)(H:AH)(n:Nat)(Yl:Nat->Value->AH->Prop)(fr:Addr->Prop)(E:Value->Shared->Prop):Prop:=
 WV (model prog w) D (eval iter env) M H (fun p M1 H1=>∀ x,norm x=p->WX (model prog w) D (pyIter x) M1 H1 (IA prog w D target M H n Yl fr) E) E
theorem qdG{target iter:Expr}{body rest:List Stmt}{pos:Pos}{Φ:Flow->Loc->AH->Prop}(X:Addr->Prop)(J:Nat->Loc->AH->Prop)
 (hi:qaf prog w D env target iter M H n Yl fr E) (hX:∀ a,X a->(∃ d,H a=some d)/\¬ fr a) (h0:J 0 M H)
 (step:∀ k M' Hk Hc v,k<n->J k M' Hk->Sub Hk Hc->Yl k (norm v) Hc->
  WX (model prog w) D (assign target env v) M' Hc (fun _ M3 H3=>WS (model prog w) D (execs body env) M3 H3 (TurnEnd (Seq (model prog w) D rest env Φ E) (TE (Kp X Hc) Hc Hk (J (k+1)))) NoE) NoE)
 (fin:∀ M' Hk,J n M' Hk->WS (model prog w) D (execs rest env) M' Hk Φ E)
 (hs:∀ x,foldedSetIterable iter env x=pure x:=by intro _;rfl):
 WS (model prog w) D (execs (.For target iter body [] pos::rest) env) M H Φ E:=by
 refine qok (qM hi fun p M1 H1 h1 x hx=>qM (h1 x hx) fun it M2 H2 h2=>?_) hs
 obtain⟨rfl,hS,pr,fp,St,I,hpr,hfp,hst⟩:=h2
 refine qkN I hst J hS (fun a ha=>(hpr a ha).1) h0 (fun k M' Hk Hc v hk hJ hS' hY hF _ hp=>?_) fin
 refine qM (step k M' Hk Hc v hk hJ hS' hY) fun _ M3 H3 h3=>qM h3 fun f M4 H4 h4=>qa9 (fun _ _ _ x=>x) (fun M5 H5 h5=>?_) h4
 obtain⟨kp,Hk',s1,av,hJ'⟩:=h5
 exact⟨hF H5 fun a ha d e=>kp a d (fun hx=>(hX a hx).1.elim fun _ hd=>(hfp a ha).1.elim (fun h=>nomatch h.symm.trans hd) (hX a hx).2) e,Hk',s1,av,hJ'⟩
theorem Iter.yl{Mo:Model}{target:Expr}{it:Value}{pr fp:Addr->Prop}{St:Nat->AH->Prop}{Yl':Nat->Value->AH->Prop}(I:Iter Mo D target it pr fp n St Yl)(h:∀ k v H,Yl k v H->Yl' k v H):Iter Mo D target it pr fp n St Yl' where
 frame:=I.frame
 live:=I.live
 self:=I.self
 done:=I.done
 item:=fun hk hs=>qM (I.item hk hs) fun r M1 H1 ⟨v,h1,h2⟩=>⟨v,h1,qM h2 fun _ M2 H2 ⟨a,b,c,d⟩=>⟨a,b,c,h _ _ _ d⟩⟩
theorem qlT(hh:D.A.handled=none){it l:Addr}{zs:List Value}{x:Str}{pos:Pos}:Iter (model prog w) D (.Name x pos) (.ref it) (fun a=>a=it) (fun a=>a=it\/a=l) zs.length
 (fun k H=>it≠l/\H it=some (qax l k)/\H l=some (lst zs)) (fun k p H=>zs[k]?=some p) where
 frame:=fun q' hf=>oAA q' fun h0 h1 h2=>⟨h0,hf _ (.inl rfl) _ h1,hf _ (.inr rfl) _ h2⟩
 live:=fun q' a ha=>oAA q' fun h0 h1 _=>⟨_,ha▸h1⟩
 item:=by
  intro k M H E hk q' s hs
  refine oAA q' fun h0 h1 h2=>?_
  refine oEA (hs.list h2) fun vs hL hm=>?_
  have hvl:vs.length=zs.length:=by refine substr hm.symm (substr (length_map ..) rfl)
  obtain⟨v,hv⟩:∃ v,vs[k]?=some v:=⟨_,getElem?_eq_getElem (ar1 hk hvl)⟩
  refine wpAny_pyNext_list_item (hs.listIt h1) hL (by simpa using hv) fun h' hi hsb=>?_
  have hat:=hs.change (d':=qax l (k+1)) h1 hsb hi
  refine⟨M,_,hat,_,rfl,fun s' hs'=>?_⟩
  refine wpAny_pure ⟨M,_,hs',rfl,⟨h0,upd_same,(qe (Ne.symm h0)).trans h2⟩,fun a d ha e=>(qe ha).trans e,?_⟩
  refine substr hm.symm (substr getElem?_map (substr hv ?_));rfl
 done:=by
  intro M H E q' s hs
  refine oAA q' fun h0 h1 h2=>?_
  refine oEA (hs.list h2) fun vs hL hm=>?_
  have hvl:vs.length=zs.length:=by refine substr hm.symm (substr (length_map ..) rfl)
  refine wpAny_pyNext_list_end hh (hs.listIt h1) hL (by simp[hvl]) fun h' hsb=>?_
  exact⟨M,_,hs.ext h1 hsb,rfl,rfl,fun a d ha e=>(qb1 ha).trans e⟩
 self:=by
  intro k M H E q' s hs
  refine oAA q' fun h0 h1 _=>?_
  exact wpAny_pyIter_listiter (hs.listIt h1) ⟨M,H,hs,rfl,rfl,rfl⟩
theorem qcD(hh:D.A.handled=none){x:Str}{p:Pos}{e f:Expr}{pos:Pos}{N:Int}
 (h:WV (model prog w) D (eval f env) M H (fun q M0 H0=>q=.type "range"/\WV (model prog w) D (eval e env) M0 H0 (fun q M1 H1=>q=I N/\M1=M/\Sub H H1) E) E) (h3 : -(2^62)<=N) (h4:N<2^62) {fn:Str} {fp:Pos} (hf:f=.Name fn fp)
 (he:starEach [e] env=[(false,eval e env)]:=by rfl):
 qaf prog w D env (.Name x p) (.Call f [e] [] pos) M H N.toNat (fun k v _=>v=I k) (fun _=>False) E:=by
 subst hf
 unfold qaf
 refine qF (qM h fun q M0 H0 q'=>oA q' fun h1 h2=>?_)
 refine substr h1 ?_
 refine v_type (qp qaJ (qd (qM h2 fun q M1 H1 q'=>oAA q' fun h5 h6 h7=>?_) he) he)
 refine substr h5 (substr h6 ?_)
 refine qi (qlQ fun r hr=>qfK upd_same (by decide) (by decide) h3 h4 fun it hit=>?_)
 have hS:Sub H1 (upd (upd H1 r (.flds "range" [I 0,I N,I 1])) it (qeL 0 ((N-0).toNat:Int))):=(Sub.upd hr).trans (Sub.upd hit)
 refine⟨rfl,h7.trans hS,_,_,_,qhD (n:=N.toNat) (a:=0) hh |>.yl fun k v H h=>by simpa using h,fun a ha=>?_,fun a ha=>?_,by simp[upd_same]⟩
 ·subst ha;exact⟨h7.none ((Sub.upd hr).none hit),_,upd_same⟩
 ·subst ha;exact⟨.inl (h7.none ((Sub.upd hr).none hit)),_,upd_same⟩
theorem qeq(hh:D.A.handled=none){x:Str}{p:Pos}{e e2 f:Expr}{pos:Pos}{A N:Int}
 (h:WV (model prog w) D (eval f env) M H (fun q M0 H0=>q=.type "range"/\WV (model prog w) D (eval e env) M0 H0 (fun q M1 H1=>q=I A/\WV (model prog w) D (eval e2 env) M1 H1 (fun q M1 H1=>q=I N/\M1=M/\Sub H H1) E) E) E)
 (h1 : -(2^62)<=A) (h2:A<2^62) (h3 : -(2^62)<=N) (h4:N<2^62) {fn:Str} {fp:Pos} (hf:f=.Name fn fp)
 (he:starEach [e,e2] env=(false,eval e env)::starEach [e2] env:=by rfl) (he2:starEach [e2] env=[(false,eval e2 env)]:=by rfl) (hpl:(backTo pos (starEach [e2] env)).any (·.1)=false:=by rfl):
 qaf prog w D env (.Name x p) (.Call f [e,e2] [] pos) M H (N-A).toNat (fun k v _=>v=I (A+k)) (fun _=>False) E:=by
 subst hf
 unfold qaf
 refine qF (qM h fun q M0 H0 q'=>oA q' fun h1 h2=>?_)
 refine substr h1 ?_
 refine v_type (qp qaJ (qd (qM h2 fun q M1 H1 q'=>oA q' fun h5 h6=>?_) he) he hpl)
 refine substr h5 ?_
 refine qd (qM h6 fun q M1 H1 q'=>oAA q' fun h5 h6 h7=>?_) he2
 refine substr h5 (substr h6 ?_)
 refine qi (qlR fun r hr=>qfK upd_same (by assumption) (by assumption) h3 h4 fun it hit=>?_)
 have hS:Sub H1 (upd (upd H1 r (.flds "range" [I A,I N,I 1])) it (qeL A ((N-A).toNat:Int))):=(Sub.upd hr).trans (Sub.upd hit)
 refine⟨rfl,h7.trans hS,_,_,_,qhD (n:=(N-A).toNat) (a:=A) hh,fun a ha=>?_,fun a ha=>?_,by simp[upd_same]⟩
 ·subst ha;exact⟨h7.none ((Sub.upd hr).none hit),_,upd_same⟩
 ·subst ha;exact⟨.inl (h7.none ((Sub.upd hr).none hit)),_,upd_same⟩
theorem qce(hh:D.A.handled=none){x:Str}{p:Pos}{e:Expr}{fr:Addr->Prop}{xs:List Value}
 (h:WV (model prog w) D (eval e env) M H (fun q M1 H1=>M1=M/\Sub H H1/\∃ l,q=.ref l/\H1 l=some (lst xs)/\(H l=none\/fr l)) E):
 qaf prog w D env (.Name x p) e M H xs.length (fun k v _=>xs[k]?=some v) fr E:=by
 unfold qaf
 refine qM h fun q M1 H1 q'=>qkC q' fun hM hS l hq hl hor=>?_
 intro y hy
 refine qej hl (fun it hit=>?_) y (hy.trans hq)
 have ne:it≠l:=Ne.symm (qG hit hl)
 refine⟨hM,hS.trans (Sub.upd hit),_,_,_,qlT hh (l:=l),fun a ha=>?_,fun a ha=>?_,ne,upd_same,qx hit hl⟩
 ·subst ha;exact⟨hS.none hit,_,upd_same⟩
 ·rcases ha with rfl | rfl
  ·exact⟨.inl (hS.none hit),_,upd_same⟩
  ·exact⟨hor,_,qx hit hl⟩
theorem qzz(hh:D.A.handled=none){x:Str}{p:Pos}{e:Expr}{l:Addr}{xs:List Value}(hl:H l=some (lst xs))
 (h:WV (model prog w) D (eval e env) M H (fun q M1 H1=>q=.ref l/\M1=M/\Sub H H1) E):
 qaf prog w D env (.Name x p) e M H xs.length (fun k v H'=>∃ ys,H' l=some (lst ys)/\ys[k]?=some v) (·=l) E:=by
 unfold qaf
 refine qM h fun q M1 H1 q'=>oAA q' fun hq hM hS=>?_
 intro y hy
 refine qej (hS _ _ hl) (fun it hit=>?_) y (hy.trans hq)
 have ne:it≠l:=Ne.symm (qG hit (hS _ _ hl))
 refine⟨hM,hS.trans (Sub.upd hit),_,_,_,qoM (n:=xs.length) (l:=l) hh,fun a ha=>?_,fun a ha=>?_,ne,upd_same,xs,qx hit (hS _ _ hl),rfl⟩
 ·subst ha;exact⟨hS.none hit,_,upd_same⟩
 ·rcases ha with rfl | rfl
  ·exact⟨.inl (hS.none hit),_,upd_same⟩
  ·exact⟨.inr rfl,_,qx hit (hS _ _ hl)⟩
theorem qc3(hh:D.A.handled=none){elts:List Expr}{kk:Nat}{tp:Pos}{e e2 f:Expr}{pos:Pos}{n1 n2:Nat}{p q:Value}{fp1 fp2 fr:Addr->Prop}{St1 St2:Addr->Nat->AH->Prop}{P1 P2:Nat->Value->AH->Prop}
 (h:WV (model prog w) D (eval f env) M H (fun q0 M0 H0=>q0=.type "zip"/\WV (model prog w) D (eval e env) M0 H0 (fun p' M1 H1=>p'=p/\WV (model prog w) D (eval e2 env) M1 H1 (fun q' M1 H1=>q'=q/\M1=M/\Sub H H1 /\
  Src prog w D H1 p n1 fp1 St1 P1/\Src prog w D H1 q n2 fp2 St2 P2/\(∀ a,fp1 a\/fp2 a->H a=none\/fr a)) E) E) E) {fn:Str} {fp:Pos} (hf:f=.Name fn fp)
 (he:starEach [e,e2] env=(false,eval e env)::starEach [e2] env:=by rfl) (he2:starEach [e2] env=[(false,eval e2 env)]:=by rfl) (hpl:(backTo pos (starEach [e2] env)).any (·.1)=false:=by rfl):
 qaf prog w D env (.Tuple elts kk tp) (.Call f [e,e2] [] pos) M H (min n1 n2) (fun k v H=>∃ T p q,v=.ref T/\H T=some (tup [p,q])/\P1 k p H/\P2 k q H) fr E:=by
 subst hf
 unfold qaf
 refine qF (qM h fun q M0 H0 q'=>oA q' fun h1 h2=>?_)
 refine substr h1 ?_
 refine v_type (qp qaJ (qd (qM h2 fun q M1 H1 q'=>oA q' fun h5 h6=>?_) he) he hpl)
 refine qd (qM h6 fun q M1 H1 q'=>qht q' fun h7 h8 hS X1 X2 hfr=>?_) he2
 refine substr h5 (substr h7 (substr h8 ?_))
 refine qi (qxn X1 X2 fun z TI TO i1 i2 H' hS' nz nTI nTO ni1 ni2 Z g1 g2 g3 g4 g5=>?_)
 have I:=qqh (n:=min n1 n2) (elts:=elts) (kk:=kk) (pos:=tp) hh (X1.drw i1 fun h=>(Z.f1 _ h).2.2.1 rfl) (X2.drw i2 fun h=>(Z.f2 _ h).2.2.2 rfl) Z rfl
 refine qdh rfl I ⟨g1,g2,g3,g4,g5⟩ ?_
 refine⟨rfl,hS.trans hS',_,_,_,I,fun a ha=>?_,fun a ha=>?_,⟨g1,g2,g3,g4,g5⟩⟩
 ·have l:=I.live ⟨g1,g2,g3,g4,g5⟩ a ha
  rcases ha with rfl | rfl | rfl | rfl
  ·exact⟨hS.none nz,l⟩
  ·exact⟨hS.none nTO,l⟩
  ·exact⟨hS.none ni1,l⟩
  ·exact⟨hS.none ni2,l⟩
 ·rcases ha with rfl | rfl | rfl | rfl | rfl | ha | ha
  ·exact⟨.inl (hS.none nz),_,g1⟩
  ·refine oEE g3 fun _ _ g=>?_;exact⟨.inl (hS.none nTO),_,g⟩
  ·exact⟨.inl (hS.none ni1),I.live ⟨g1,g2,g3,g4,g5⟩ _ (by simp)⟩
  ·exact⟨.inl (hS.none ni2),I.live ⟨g1,g2,g3,g4,g5⟩ _ (by simp)⟩
  ·exact⟨.inl (hS.none nTI),_,g2⟩
  ·obtain⟨d,hd⟩:=X1.has a ha;exact⟨hfr a (.inl ha),d,hS' _ _ hd⟩
  ·obtain⟨d,hd⟩:=X2.has a ha;exact⟨hfr a (.inr ha),d,hS' _ _ hd⟩
theorem qqp(hh:D.A.handled=none){x:Str}{p:Pos}{e f:Expr}{pos:Pos}{l:Addr}{xs:List Value}
 (h:WV (model prog w) D (eval f env) M H (fun q M0 H0=>q=.type "reversed"/\WV (model prog w) D (eval e env) M0 H0 (fun q M1 H1=>q=.ref l/\M1=M/\Sub H H1) E) E) (hl:H l=some (lst xs)) {fn:Str} {fp:Pos} (hf:f=.Name fn fp)
 (he:starEach [e] env=[(false,eval e env)]:=by rfl):
 qaf prog w D env (.Name x p) (.Call f [e] [] pos) M H xs.length (fun k v H'=>∃ ys,H' l=some (lst ys)/\ys[xs.length-1-k]?=some v) (·=l) E:=by
 subst hf
 unfold qaf
 refine qF (qM h fun q M0 H0 q'=>oA q' fun h1 h2=>?_)
 refine substr h1 ?_
 refine v_type (qp qaJ (qd (qM h2 fun q M1 H1 q'=>oAA q' fun h5 h6 h7=>?_) he) he)
 refine substr h5 ?_
 refine qi (qjI (h7 _ _ hl) fun it hit=>?_)
 have ne:it≠l:=Ne.symm (qG hit (h7 _ _ hl))
 have I:=qqg (prog:=prog) (w:=w) (n:=xs.length) (l:=l) (it:=it) (x:=x) (pos:=p) hh
 have st:(fun(k:Nat) (H:AH)=>it≠l/\H it=some (qdC l ((xs.length:Int)-1-k))/\∃ ys,H l=some (lst ys)/\ys.length=xs.length) 0 (upd H1 it (qdC l ((xs.length:Int)-1))):=⟨ne,by simp[upd_same],xs,qx hit (h7 _ _ hl),rfl⟩
 refine qdh rfl I st ⟨h6,h7.trans (Sub.upd hit),_,_,_,I,fun a ha=>?_,fun a ha=>?_,st⟩
 ·subst ha;exact⟨h7.none hit,_,upd_same⟩
 ·rcases ha with rfl | rfl
  ·exact⟨.inl (h7.none hit),_,upd_same⟩
  ·exact⟨.inr rfl,_,qx hit (h7 _ _ hl)⟩
theorem qoU(hh:D.A.handled=none){elts:List Expr}{kk:Nat}{tp:Pos}{e f:Expr}{pos:Pos}{l:Addr}{xs:List Value}
 (h:WV (model prog w) D (eval f env) M H (fun q M0 H0=>q=.type "enumerate"/\WV (model prog w) D (eval e env) M0 H0 (fun q M1 H1=>q=.ref l/\M1=M/\Sub H H1) E) E) (hl:H l=some (lst xs)) {fn:Str} {fp:Pos} (hf:f=.Name fn fp)
 (he:starEach [e] env=[(false,eval e env)]:=by rfl):
 qaf prog w D env (.Tuple elts kk tp) (.Call f [e] [] pos) M H xs.length (fun k v H'=>∃ T p,v=.ref T/\H' T=some (tup [I k,p])/\∃ ys,H' l=some (lst ys)/\ys[k]?=some p) (·=l) E:=by
 subst hf
 unfold qaf
 refine qF (qM h fun q M0 H0 q'=>oA q' fun h1 h2=>?_)
 refine substr h1 ?_
 refine v_type (qp qaJ (qd (qM h2 fun q M1 H1 q'=>oAA q' fun h5 h6 h7=>?_) he) he)
 refine substr h5 ?_
 refine qi (qkJ (h7 _ _ hl) fun en it hen hit hei=>?_)
 have hle:=qG hen (h7 _ _ hl)
 have hli:=qG hit (h7 _ _ hl)
 have I:=qiI (prog:=prog) (w:=w) (e:=en) (n:=xs.length) (l:=l) (it:=it) (elts:=elts) (kk:=kk) (pos:=tp) hh hei hle hli
 have hS:Sub H1 (upd (upd H1 it (qax l 0)) en (qek it 0 .none)):=(Sub.upd hit).trans (Sub.upd ((qe hei).trans hen))
 have g1:(upd (upd H1 it (qax l 0)) en (qek it 0 .none)) it=some (qax l 0):=(qe (Ne.symm hei)).trans upd_same
 refine qdh rfl I ⟨⟨_,upd_same⟩,g1,xs,hS _ _ (h7 _ _ hl),rfl⟩ ⟨h6,h7.trans hS,_,_,_,I,fun a ha=>?_,fun a ha=>?_,⟨_,upd_same⟩,g1,xs,hS _ _ (h7 _ _ hl),rfl⟩
 ·rcases ha with rfl | rfl
  ·exact⟨h7.none hen,_,upd_same⟩
  ·exact⟨h7.none hit,_,g1⟩
 ·rcases ha with rfl | rfl | rfl
  ·exact⟨.inl (h7.none hen),_,upd_same⟩
  ·exact⟨.inl (h7.none hit),_,g1⟩
  ·exact⟨.inr rfl,_,hS _ _ (h7 _ _ hl)⟩
end
section
set_option tactic.hygienic true
section
variable{ks ks0:List (String×NameKind)}{Yl:Nat->Value->AH->Prop}{St:Nat->AH->Prop}{pr fp fr P:Addr->Prop}{Ow:AH->Prop}{it:Value}{acc Lc:Addr}
structure Own(P:Addr->Prop)(Ow:AH->Prop)(Lc:Addr):Prop where
 ns:∀ {H:AH},Ow H->∃ Mc,H Lc=some (.ns Mc)
 lc:P Lc
 has:∀ {H:AH},Ow H->∀ a,P a->∃ d,H a=some d
 keep:∀ {H H':AH},Ow H->(∀ a d,P a->H a=some d->H' a=some d)->Ow H'
inductive OwL(Lc:Addr)(H:AH):Prop
 | mk(Mc:Loc)(h:H Lc=some (.ns Mc))
inductive OwC(Lc c:Addr)(H:AH):Prop
 | mk(o:OwL Lc H)(u:Option Value)(h:H c=some (.cell u))
inductive Q0(cl:List (Str×Addr)):Addr->List (Str×Addr)->(Addr->Prop)->(AH->Prop)->Prop
 | mk(Lc:Addr):Q0 cl Lc cl (fun a=>a=Lc) (OwL Lc)
inductive Q1(z:Str)(cl:List (Str×Addr)):Addr->List (Str×Addr)->(Addr->Prop)->(AH->Prop)->Prop
 | mk(Lc c:Addr)(h:c≠Lc):Q1 z cl Lc ((z,c)::cl) (fun a=>a=Lc\/a=c) (OwC Lc c)
theorem qzA:Own (fun a=>a=Lc) (OwL Lc) Lc:=⟨fun⟨Mc,h⟩=>⟨Mc,h⟩,rfl,fun⟨Mc,h⟩ a ha=>⟨_,ha▸h⟩,fun⟨Mc,h⟩ k=>⟨Mc,k _ _ rfl h⟩⟩
theorem own1{c:Addr}:Own (fun a=>a=Lc\/a=c) (OwC Lc c) Lc:=⟨fun⟨⟨Mc,h⟩,_,_⟩=>⟨Mc,h⟩,.inl rfl,
 fun⟨⟨Mc,h⟩,u,g⟩ a ha=>ha.elim (fun e=>⟨_,e▸h⟩) fun e=>⟨_,e▸g⟩,fun⟨⟨Mc,h⟩,u,g⟩ k=>⟨⟨Mc,k _ _ (.inl rfl) h⟩,u,k _ _ (.inr rfl) g⟩⟩
inductive qzB(P:Addr->Prop)(Ow:AH->Prop)(M:Loc)(Hc Hk:AH)(R:AH->Prop)(M5:Loc)(H5:AH):Prop
 | mk(hM:M5=M)(kp:Kp P Hc H5)(ow:Ow H5)(Hk':AH)(s1:Sub Hk Hk')(s2:Sub Hk' H5)(av:∀ a d,Hk' a=some d->Hk a=some d\/Hc a=none)(r:R Hk')
inductive qjQ(P:Addr->Prop)(Ow:AH->Prop)(M:Loc)(Hc:AH)(r:Prop)(M5:Loc)(H5:AH):Prop
 | mk(hM:M5=M)(kp:Kp P Hc H5)(ow:Ow H5)(h:r)
noncomputable def qxs(prog:Program)(w:World)(D:Dyn)(P:Addr->Prop)(Ow:AH->Prop)(elt:Expr)(cenv:Env)(M:Loc)(k:Nat)(ys:List Value)(Hk Hc:AH)(R:Nat->List Value->AH->Prop)(b:Bool)(M4:Loc)(H4:AH):Prop:=
 (b=true->WV (model prog w) D (eval elt cenv) M4 H4 (fun p=>qzB P Ow M Hc Hk (R (k+1) (ys++[p]))) NoE)/\(b=false->qjQ P Ow M Hc (R (k+1) ys Hk) M4 H4)
noncomputable def qcQ(prog:Program)(w:World)(D:Dyn)(P:Addr->Prop)(Ow:AH->Prop)(target elt:Expr)(ifs:List Expr)(cenv:Env)(M:Loc)(k:Nat)(ys:List Value)(Hk Hc:AH)(R:Nat->List Value->AH->Prop)(v:Value):Prop:=
 WX (model prog w) D (assign target cenv v) M Hc (fun _ M3 H3=>Tests (model prog w) D ifs cenv M3 H3 (qxs prog w D P Ow elt cenv M k ys Hk Hc R) NoE) NoE
inductive CI(D:Dyn)(acc:Addr)(pr P:Addr->Prop)(Ow:AH->Prop)(n:Nat)(St:Nat->AH->Prop)(M:Loc)(H:AH)(R:Nat->List Value->AH->Prop)(m:Nat)(s:Shared):Prop
 | mk(k:Nat)(Hc:AH)(hk:k<=n)(hm:m=n-k)(hs:At D s M Hc)(st:St k Hc)(ow:Ow Hc)(ys:List Value)(Hk:AH)(ha:Hc acc=some (lst ys))(hl:ys.length<=k)(s1:Sub H Hk)(s2:Sub Hk Hc)
  (av:∀ a d,Hk a=some d->a≠acc/\¬ P a/\¬ pr a) (r:R k ys Hk)
inductive qjR(D:Dyn)(acc:Addr)(P:Addr->Prop)(Ow:AH->Prop)(n:Nat)(M:Loc)(H:AH)(R:Nat->List Value->AH->Prop):Result->Shared->Prop
 | mk(f:Flow)(s:Shared)(Hc:AH)(hs:At D s M Hc)(ow:Ow Hc)(ys:List Value)(Hk:AH)(ha:Hc acc=some (lst ys))(s1:Sub H Hk)(s2:Sub Hk Hc)(av:∀ a d,Hk a=some d->a≠acc/\¬ P a)(r:R n ys Hk):qjR D acc P Ow n M H R (.ok f) s
theorem qoV{H3:AH}{elt target iter:Expr}{ifs:List Expr}{scope:Scope}{pos:Pos}{cenv:Env}(R:Nat->List Value->AH->Prop)(O:Own P Ow Lc)(I:Iter (model prog w) D target it pr fp n St Yl)(hn1:n<=1000000)
 (hpr:∀ a,pr a->H a=none/\a≠acc/\¬ P a) (hfp:∀ a,fp a->a≠acc/\¬ P a) (hPa:¬ P acc) (h0:St 0 H3) (ow:Ow H3) (ha:H3 acc=some (lst [])) (hS:Sub H H3) (hH:∀ a d,H a=some d->a≠acc/\¬ P a) (r0:R 0 [] H)
 (step:∀ k ys Hk Hc v,k<n->ys.length<=k->R k ys Hk->Sub H Hk->Sub Hk Hc->Ow Hc->(∀ a,P a->Hk a=none)->Yl k (norm v) Hc->qcQ prog w D P Ow target elt ifs cenv M k ys Hk Hc R v) {s:Shared} (hs:At D s M H3):
 codeAny (model prog w) D.A (.compStart (.ListComp elt [⟨target,iter,ifs,0⟩] scope pos) 0 it (.ref acc) cenv) (qjR D acc P Ow n M H R) s:=by
 have key:∀ s,At D s M H3->codeAny (model prog w) D.A (.compLoop (.ListComp elt [⟨target,iter,ifs,0⟩] scope pos) 0 it (.ref acc) cenv) (qjR D acc P Ow n M H R) s:=by
  intro s hs
  refine qg1 (CI D acc pr P Ow n St M H R) ?_ n ⟨0,H3,Nat.zero_le _,rfl,hs,h0,ow,[],H,ha,Nat.le_refl _,Sub.refl,hS,fun a d e=>(iAA ((hH a d e).1) ((hH a d e).2) (fun hp=>nomatch (hpr a hp).1.symm.trans e)),r0⟩
  clear h0 ow ha hS hs s
  rintro m s ⟨k,Hc,hk,rfl,hs,hst,ow,ys,Hk,ha,hl,u1,u2,hav,hR⟩
  rcases Nat.lt_or_ge k n with hlt | hge
  ·refine wpAny_mono (I.item (E:=NoE) hlt hst s hs) (fun r s1 h1=>?_) fun _ _ x=>x
   obtain⟨M1,H1,hs1,v,rfl,h1⟩:=h1
   refine wpAny_mono (h1 s1 hs1) (fun _ s2 h2=>?_) fun _ _ x=>x
   clear h1 hs1 hst hk
   obtain⟨M2,H2,hs2,eM,hst2,hkeep,hY⟩:=h2
   replace hs2:At D s2 M H2:=eM▸hs2
   have ow2:Ow H2:=O.keep ow fun a d pa e=>hkeep a d (fun hp=>(hpr a hp).2.2 pa) e
   have ha2:H2 acc=some (lst ys):=hkeep _ _ (fun hp=>(hpr _ hp).2.1 rfl) ha
   have hu3:Sub Hk H2:=fun a d e=>hkeep a d (hav a d e).2.2 (u2 a d e)
   have fin:∀ {H6 Hk':AH} {zs:List Value} {s6:Shared},At D s6 M H6->Kp (fun a=>P a\/a=acc) H2 H6->Ow H6->H6 acc=some (lst zs)->zs.length<=k+1->Sub Hk Hk'->Sub Hk' H6->(∀ a d,Hk' a=some d->Hk a=some d\/H2 a=none)->R (k+1) zs Hk'->
    ∃ m,m<n-k/\CI D acc pr P Ow n St M H R m s6:=fun hs6 kp ow6 ha6 hl6 q1 q2 av r=>
    ⟨n-(k+1),qfd hlt,k+1,_,hlt,rfl,hs6,I.frame hst2 fun a ha' d e=>kp a d (fun q=>q.elim (hfp a ha').2 (hfp a ha').1) e,ow6,_,_,ha6,hl6,u1.trans q1,q2,fun a d e=>(av a d e).elim (hav a d) fun h=>
     (iAA (fun q=>(nomatch h.symm.trans ((congrArg H2 q).trans ha2))) (fun pa=>(O.has ow2 a pa).elim fun _ g=>(nomatch h.symm.trans g)) (fun hp=>(I.live hst2 a hp).elim fun _ g=>(nomatch h.symm.trans g))),r⟩
   refine wpAny_mono (step k ys Hk H2 v hlt hl hR u1 hu3 ow2 (fun a pa=>by
    cases hq:Hk a with
    | none=>rfl
    | some d=>exact absurd pa (hav a d hq).2.1) hY s2 hs2) (fun _ s3 h3=>?_) fun _ _ x=>x
   obtain⟨M3,H3,hs3,h3⟩:=h3
   refine wpAny_mono (h3.tree s3 hs3) (fun b s4 h4=>?_) fun _ _ x=>x
   obtain⟨M4,H4,hs4,kt,kf⟩:=h4
   cases b with
   | true=>
    refine wpAny_mono (kt rfl s4 hs4) (fun x s5 h5=>?_) fun _ _ x=>x
    obtain⟨M5,H5,hs5,eM5,kp,ow5,Hk',q1,q2,av,r⟩:=h5
    replace hs5:At D s5 M H5:=eM5▸hs5
    have e5:=kp _ _ hPa ha2
    refine wpAny_mono (qhE (p:=norm x) (E:=NoE) (Φ:=fun _ M6 H6=>M6=M/\H6=upd H5 acc (lst (ys++[norm x]))) e5 (qyD hn1 hlt hl (by decide)) ⟨rfl,rfl⟩ _ _ rfl rfl s5 hs5) (fun _ s6 h6=>?_) fun _ _ x=>x
    obtain⟨M6,H6,hs6,e6,g6⟩:=h6
    replace hs6:At D s6 M (upd H5 acc (lst (ys++[norm x]))):=e6▸g6▸hs6
    exact fin hs6 (fun a d na e=>(qe fun q=>na (.inr q)).trans (kp a d (fun q=>na (.inl q)) e)) (O.keep ow5 fun a d pa e=>(qe (a:=acc) fun(q:a=acc)=>hPa (by refine substr q.symm ?_;exact pa)).trans e) upd_same (by refine substr length_append ?_;exact Nat.succ_le_succ hl) q1
     (fun a d e=>(qe fun q=>(av a d e).elim (fun g=>(hav a d g).1 q) fun g=>nomatch g.symm.trans ((congrArg H2 q).trans ha2)).trans (q2 a d e)) av r
   | false=>
    obtain⟨e4,kp,ow5,r⟩:=kf rfl
    exact fin (e4▸hs4:At D s4 M H4) (fun a d na e=>kp a d (fun q=>na (.inl q)) e) ow5 (kp _ _ hPa ha2) (Nat.le_succ_of_le hl) Sub.refl (fun a d e=>kp a d (hav a d e).2.1 (hu3 a d e)) (fun _ _ e=>.inl e) r
  ·have ek:=Nat.le_antisymm hk hge
   refine wpAny_mono (I.done (E:=NoE) (ek▸hst) s hs) (fun r s1 h1=>?_) fun _ _ x=>x
   obtain⟨M1,H1,hs1,rfl,eM,hkeep⟩:=h1
   exact⟨_,_,_,(eM▸hs1:At D s1 M H1),O.keep ow fun a d pa e=>hkeep a d (fun hp=>(hpr a hp).2.2 pa) e,_,_,hkeep _ _ (fun hp=>(hpr _ hp).2.1 rfl) ha,u1,fun a d e=>hkeep a d (hav a d e).2.2 (u2 a d e),fun a d e=>⟨(hav a d e).1,(hav a d e).2.1⟩,ek▸hR⟩
 refine codeAny_compStart_list (key s hs) (wpAny_mono (I.self (E:=NoE) h0 s hs) (fun it' s' h=>?_) fun _ _ x=>qbN x)
 obtain⟨M1,H1,hs1,rfl,rfl,rfl⟩:=h
 exact key s' hs1
noncomputable def qhM(prog:Program)(w:World)(D:Dyn)(scope:Scope)(cl:List (Str×Addr))(env:Env)(Q:Addr->List (Str×Addr)->(Addr->Prop)->(AH->Prop)->Prop):Prop:=
 ∀ {g:Addr} {q:Str} {M:Loc} {H:AH} {E:Value->Shared->Prop} {Φ:Env->Loc->AH->Prop},(∀ Lc cl' P Ow H3,Own P Ow Lc->Q Lc cl' P Ow->(∀ a,P a->H a=none)->Sub H H3->Ow H3->
  Φ { scope:=scope,locals:=Lc,globals:=g,cells:=cl',qual:=q,func:=none,code:=env.code,frame:=env.frame,builtins:=env.builtins } M H3)->WX (model prog w) D (newFunctionEnv scope g cl [] q none .none (some env)) M H Φ E
theorem qkO{scope:Scope}{cl:List (Str×Addr)}(hn:scope.names=ks0.map fun p=>(Str.ofString p.1,p.2))(hc:∀ p∈ks0,p.2≠.cell)(hk:scope.kind=.function):qhM prog w D scope cl env (Q0 cl):=fun h=>
 qlM (fun y hy=>by rw[hn] at hy;(refine oEA (List.mem_map.mp hy) fun p hp e2'=>?_;obtain rfl:=e2');exact hc p hp) hk fun Lc hL=>h Lc cl _ _ _ qzA (.mk Lc) (fun a ha=>ha▸hL) (Sub.upd hL) ⟨[],upd_same⟩
theorem qkP{scope:Scope}{cl:List (Str×Addr)}{z:Str}(hcf:∀ n,cellsFrom n scope.names cl=(z,n)::cl)(hpc:∀ h,pushCells h scope.names=h.push { cls:=.type "cell",data:=.cell none }):qhM prog w D scope cl env (Q1 z cl):=fun h=>
 qlN hcf hpc fun Lc c hL hc hne=>h Lc _ _ _ _ own1 (.mk Lc c hne) (fun a ha=>ha.elim (fun e=>e▸hL) fun e=>e▸hc) ((Sub.upd hL).trans (Sub.upd ((qe hne).trans hc))) ⟨⟨[],(qe (Ne.symm hne)).trans upd_same⟩,none,upd_same⟩
theorem qgQ{Q:Addr->List (Str×Addr)->(Addr->Prop)->(AH->Prop)->Prop}{elt target iter:Expr}{ifs:List Expr}{scope:Scope}{pos:Pos}{cl:List (Str×Addr)}{post:Value->Addr->Result->Shared->Prop}(R:Nat->List Value->AH->Prop)(ks0:List (String×NameKind))
 (ke:KE env ks) (hn:scope.names=ks0.map fun p=>(Str.ofString p.1,p.2)) (hnew:qhM prog w D scope cl env Q) (hnd:qt "__debug__" (qaB ks ks0)=none) (hk:scope.kind=.function)
 (hi:qaf prog w D env target iter M H n Yl fr E) (hn1:n<=1000000) (h0:R 0 [] H)
 (step:∀ k ys Hk Hc v Lc cl' P Ow,k<n->ys.length<=k->R k ys Hk->Sub H Hk->Sub Hk Hc->Ow Hc->(∀ a,P a->Hk a=none)->Q Lc cl' P Ow->∀ cenv:Env,KE cenv (qaB ks ks0)->cenv.locals=Lc->cenv.cells=cl'->Yl k (norm v) Hc->qcQ prog w D P Ow target elt ifs cenv M k ys Hk Hc R v)
 (hpost:∀ acc Lc P Ow f s',Own P Ow Lc->¬ P acc->qjR D acc P Ow n M H R f s'->post (.ref acc) Lc f s') {s:Shared} (hs:At D s M H):
 wpAny (model prog w) D.A (eval iter env) (fun x s₁=>wpAny (model prog w) D.A (pyIter x) (fun it s₂=>wpAny (model prog w) D.A (newList []) (fun a s₃=>wpAny (model prog w) D.A (newFunctionEnv scope env.globals cl [] env.qual none .none (some env)) (fun cenv s₄=>
  codeAny (model prog w) D.A (.compStart (.ListComp elt [⟨target,iter,ifs,0⟩] scope pos) 0 it a { cenv with scope:=relabel scope env }) (post a cenv.locals) s₄) E s₃) E s₂) E s₁) E s:=by
 refine wpAny_mono (hi s hs) (fun x s1 h1=>?_) fun _ _ x=>x
 obtain⟨M1,H1,hs1,h1⟩:=h1
 refine wpAny_mono (h1 x rfl s1 hs1) (fun it s2 h2=>?_) fun _ _ x=>x
 obtain⟨M2,H2,hs2,rfl,hS,pr,fp,St,I,hpr,hfp,hst⟩:=h2
 refine wpAny_newObj_type ?_
 have a1:=hs2.alloc (o:={ cls:=.type "list",data:=.seq ([]:List Value).toArray }) (d:=lst []) rfl fun h' e=>⟨_,_,e,rfl⟩
 have hacc:=hs2.fresh
 generalize s2.heap.objs.size=acc at a1 hacc
 refine wpAny_mono (hnew (E:=E) (Φ:=fun cenv M3 H3=>∀ s4,At D s4 M3 H3->codeAny (model prog w) D.A (.compStart (.ListComp elt [⟨target,iter,ifs,0⟩] scope pos) 0 it (.ref acc) { cenv with scope:=relabel scope env }) (post (.ref acc) cenv.locals) s4) (fun Lc cl' P Ow H3 O q hP hS3 ow s4 hs4=>?_) _ a1) (fun cenv s4 h4=>?_) fun _ _ x=>x
 ·have e3:∀ a d,H2 a=some d->H3 a=some d:=fun a d e=>hS3 a d (qx hacc e)
  have av:∀ a d,H2 a=some d->a≠acc/\¬ P a:=fun a d e=>⟨qG hacc e,fun pa=>nomatch (hP a pa).symm.trans (qx hacc e)⟩
  refine codeAny_mono (qoV R O I hn1 (fun a ha=>⟨(hpr a ha).1,(hpr a ha).2.elim (av a)⟩) (fun a ha=>(hfp a ha).2.elim (av a)) (fun pa=>nomatch (hP _ pa).symm.trans upd_same) (I.frame hst fun a _ d e=>e3 a d e) ow (hS3 _ _ upd_same) (hS.trans e3) (fun a d e=>av a d (hS a d e)) h0
   (fun k ys Hk Hc v b1 b2 b3 b4 b5 b6 b7 b8=>step k ys Hk Hc v Lc cl' P Ow b1 b2 b3 b4 b5 b6 b7 q _ (qoN ke hk hn hnd) rfl rfl b8) hs4) fun f s' c=>hpost _ _ _ _ _ _ O (fun pa=>nomatch (hP _ pa).symm.trans upd_same) c
 ·obtain⟨M4,H4,hs4,k⟩:=h4
  exact k _ hs4
theorem qkQ{M':Loc}{Hc Hk:AH}{ys:List Value}{s:Shared}(O:Own P Ow Lc)(hPa:¬ P acc)(ow:Ow Hc)(ha:Hc acc=some (lst ys))(s2:Sub Hk Hc)(av:∀ a d,Hk a=some d->a≠acc/\¬ P a)(hs:At D s M' Hc):
 ∃ m,s.heap.Ns Lc m/\∀ h',Heap.SameBut Lc s.heap h'->At D { s with heap:=h' } M' (upd Hk acc (lst ys)):=by
 obtain⟨Mc,hc⟩:=O.ns ow
 refine qbI (hs.own _ _ hc) fun _ _ m hm _=>?_
 exact iEA m hm (fun h' hb=>(hs.ext hc hb.extBut).sub (qiH (fun a d e=>(qb1 (a:=Lc) fun(q:a=Lc)=>(av a d e).2 (by refine substr q ?_;exact O.lc)).trans (s2 a d e)) ((qb1 (a:=Lc) fun(q:acc=Lc)=>hPa (by refine substr q ?_;exact O.lc)).trans ha)))
theorem qqq{scope:Scope}(hn:scope.names=ks0.map fun p=>(Str.ofString p.1,p.2))(h:∀ p∈ks0,p.2=.local->qt p.1 ks0=some .local):∀ x∈scope.names,x.2=.local->scope.names.lookup x.1=some .local:=by
 intro y hy hl
 rw[hn] at hy ⊢
 (refine oEA (List.mem_map.mp hy) fun p hp e2'=>?_;obtain rfl:=e2')
 refine substr (qaI ..) ?_
 exact h p hp hl
theorem qiL{Q:Addr->List (Str×Addr)->(Addr->Prop)->(AH->Prop)->Prop}{elt target iter:Expr}{ifs:List Expr}{scope:Scope}{pos:Pos}{cl:List (Str×Addr)}{Φ:Value->Loc->AH->Prop}(R:Nat->List Value->AH->Prop)(ks0:List (String×NameKind))
 (ke:KE env ks) (hclos:closureFor scope env=pure cl) (hn:scope.names=ks0.map fun p=>(Str.ofString p.1,p.2))
 (hdup:∀ p∈ks0,p.2=.local->qt p.1 ks0=some .local) (hnew:qhM prog w D scope cl env Q) (hnd:qt "__debug__" (qaB ks ks0)=none)
 (hi:qaf prog w D env target iter M H n Yl fr E) (hn1:n<=1000000) (h0:R 0 [] H)
 (step:∀ k ys Hk Hc v Lc cl' P Ow,k<n->ys.length<=k->R k ys Hk->Sub H Hk->Sub Hk Hc->Ow Hc->(∀ a,P a->Hk a=none)->Q Lc cl' P Ow->∀ cenv:Env,KE cenv (qaB ks ks0)->cenv.locals=Lc->cenv.cells=cl'->Yl k (norm v) Hc->qcQ prog w D P Ow target elt ifs cenv M k ys Hk Hc R v)
 (fin:∀ acc ys Hk,Sub H Hk->Hk acc=none->R n ys Hk->Φ (.ref acc) M (upd Hk acc (lst ys)))
 (hk:scope.kind=.function) (hs:∀ x,foldedSetIterable iter env x=pure x):
 WV (model prog w) D (eval (.ListComp elt [⟨target,iter,ifs,0⟩] scope pos) env) M H Φ E:=by
 intro s hs'
 refine substr (eval_ListComp ..) ?_
 refine wpAny_comprehension_free rfl hs hclos hk (qqq hn hdup) (qgQ R ks0 ke hn hnew hnd hk hi hn1 h0 step (fun acc Lc P Ow f s' O hPa c=>?_) hs')
 obtain⟨f,s',Hc,hs,ow,ys,Hk,ha,s1,s2,av,r⟩:=c
 refine oEA (qkQ O hPa ow ha s2 av hs) fun m g1 g2=>?_
 refine⟨m,g1,fun h' hb=>⟨_,_,g2 h' hb,fin acc ys Hk s1 ?_ r⟩⟩
 cases hq:Hk acc with
 | none=>rfl
 | some d=>exact absurd rfl (av acc d hq).1
theorem qqr{Q:Addr->List (Str×Addr)->(Addr->Prop)->(AH->Prop)->Prop}{elt target iter:Expr}{ifs:List Expr}{scope:Scope}{pos cpos npos:Pos}{cl:List (Str×Addr)}{x:String}{rest:List Stmt}{Φ:Flow->Loc->AH->Prop}(R:Nat->List Value->AH->Prop)(ks0:List (String×NameKind))
 (ke:KE env ks) (hlo:env.locals=D.L) (hx:qt x ks=some .local) (hx0:qt x ks0=none\/qt x ks0=some .free\/qt x ks0=some .globalImplicit)
 (hclos:closureFor scope env=pure cl) (hn:scope.names=ks0.map fun p=>(Str.ofString p.1,p.2))
 (hdup:∀ p∈ks0,qt p.1 ks0=some p.2) (hnew:qhM prog w D scope cl env Q) (hnd:qt "__debug__" (qaB ks ks0)=none)
 (hi:qaf prog w D env target iter M H n Yl fr E) (hn1:n<=1000000) (h0:R 0 [] H)
 (step:∀ k ys Hk Hc v Lc cl' P Ow,k<n->ys.length<=k->R k ys Hk->Sub H Hk->Sub Hk Hc->Ow Hc->(∀ a,P a->Hk a=none)->Q Lc cl' P Ow->∀ cenv:Env,KE cenv (qaB ks ks0)->cenv.locals=Lc->cenv.cells=cl'->Yl k (norm v) Hc->qcQ prog w D P Ow target elt ifs cenv M k ys Hk Hc R v)
 (fin:∀ acc ys Hk,Sub H Hk->Hk acc=none->R n ys Hk->WS (model prog w) D (execs rest env) (put x (.ref acc) M) (upd Hk acc (lst ys)) Φ E)
 (hline:(npos.line==cpos.line)=true) (hk:scope.kind=.function) (hs:∀ x,foldedSetIterable iter env x=pure x):
 WS (model prog w) D (execs (.Assign [.Name (Str.ofString x) npos] (.ListComp elt [⟨target,iter,ifs,0⟩] scope cpos) pos::rest) env) M H Φ E:=by
 refine qam ?_
 intro s hs'
 refine substr (arm_exec_Assign ..) ?_
 refine wpAny_bind (wpAny_standAt ?_)
 have hsw:swapsWithSole [.Name (Str.ofString x) npos] (.ListComp elt [⟨target,iter,ifs,0⟩] scope cpos) pos.line env=pure true:=by
  show(pure (env.blockKind==.function&&env.kindOf (Str.ofString x)==some .local&&npos.line==cpos.line&&!(scope.names.any fun y=>y.1==Str.ofString x&&(y.2==.local||y.2==.cell))):Sem Bool)=pure true
  have e3:(scope.names.any fun y=>y.1==Str.ofString x&&(y.2==.local||y.2==.cell))=false:=by
   refine substr (propext List.any_eq_false) ?_
   intro y hy
   rw[hn] at hy
   (refine oEA (List.mem_map.mp hy) fun p hp e2'=>?_;obtain rfl:=e2')
   simp only[Bool.and_eq_true,not_and]
   intro hq
   have:=hdup p hp
   rw[qbv (beq_iff_eq.mp hq)] at this
   rcases hx0 with h1 | h1 | h1<;>rw[h1] at this<;>simp at this<;>refine substr this.symm ?_<;>decide
  refine substr (show env.blockKind=ScopeKind.function by unfold Env.blockKind;rw[ke.kind];rfl) (substr (ke.of hx) (substr hline (substr e3 ?_)));rfl
 refine wpAny_bind (wpAny_of_eq hsw ?_)
 refine substr (if_pos rfl) ?_
 refine wpAny_bind ?_
 refine substr (arm_evalThenUse_ListComp ..) ?_
 refine wpAny_bind ?_
 refine wpAny_comprehension_free rfl hs hclos hk (qqq hn fun p hp hl=>hl▸hdup p hp) (qgQ R ks0 ke hn hnew hnd hk hi hn1 h0 step (fun acc Lc P Ow f s' O hPa c=>?_) hs')
 obtain⟨f,s',Hc,hs,ow,ys,Hk,ha,s1,s2,av,r⟩:=c
 show wpAny _ _ (assign (.Name (Str.ofString x) npos) env (.ref acc)) _ _ _
 refine substr (arm_assign_Name ..) ?_
 refine wpAny_bind (wpAny_standAt (wpAny_bindName (qhz ke hlo hx s' hs E _ (.ref acc) rfl fun s5 hs5=>?_)))
 refine oEA (qkQ O hPa ow ha s2 av hs5) fun m g1 g2=>?_
 refine(iEA m g1 (fun h' hb=>wpAny_pure (wpAny_pure ⟨_,_,g2 h' hb,fin acc ys Hk s1 ?_ r⟩)))
 cases hq:Hk acc with
 | none=>rfl
 | some d=>exact absurd rfl (av acc d hq).1
section
variable{elt target iter:Expr}{ifs:List Expr}{scope:Scope}{pos cpos npos:Pos}{cl:List (Str×Addr)}{z:Str}{x:String}{rest:List Stmt}{Ψ:Flow->Loc->AH->Prop}
theorem qiM(R:Nat->List Value->AH->Prop)(ks0:List (String×NameKind))
 (ke:KE env ks) (hclos:closureFor scope env=pure cl) (hn:scope.names=ks0.map fun p=>(Str.ofString p.1,p.2))
 (hdup:∀ p∈ks0,p.2=.local->qt p.1 ks0=some .local) (hcell:∀ p∈ks0,p.2≠.cell) (hnd:qt "__debug__" (qaB ks ks0)=none)
 (hi:qaf prog w D env target iter M H n Yl fr E) (hn1:n<=1000000) (h0:R 0 [] H)
 (step:∀ k ys Hk Hc Lc Mc v,k<n->ys.length<=k->R k ys Hk->Sub H Hk->Sub Hk Hc->Hc Lc=some (.ns Mc)->Hk Lc=none->∀ cenv:Env,KE cenv (qaB ks ks0)->cenv.locals=Lc->cenv.cells=cl->Yl k (norm v) Hc->qcQ prog w D (fun a=>a=Lc) (OwL Lc) target elt ifs cenv M k ys Hk Hc R v)
 (fin:∀ acc ys Hk,Sub H Hk->Hk acc=none->R n ys Hk->Φ (.ref acc) M (upd Hk acc (lst ys)))
 (hk:scope.kind=.function:=by rfl) (hs:∀ x,foldedSetIterable iter env x=pure x:=by intro _;rfl):
 WV (model prog w) D (eval (.ListComp elt [⟨target,iter,ifs,0⟩] scope pos) env) M H Φ E:=
 qiL R ks0 ke hclos hn hdup (qkO hn hcell hk) hnd hi hn1 h0 (fun k ys Hk Hc v Lc cl' P Ow b1 b2 b3 b4 b5 b6 b7 q cenv c1 c2 c3 b8=>by
  cases q;obtain⟨Mc,hMc⟩:=b6;exact step k ys Hk Hc _ Mc v b1 b2 b3 b4 b5 hMc (b7 _ rfl) cenv c1 c2 c3 b8) fin hk hs
theorem qhN(R:Nat->List Value->AH->Prop)(ks0:List (String×NameKind))
 (ke:KE env ks) (hclos:closureFor scope env=pure cl) (hn:scope.names=ks0.map fun p=>(Str.ofString p.1,p.2))
 (hdup:∀ p∈ks0,p.2=.local->qt p.1 ks0=some .local) (hcf:∀ n,cellsFrom n scope.names cl=(z,n)::cl) (hpc:∀ h,pushCells h scope.names=h.push { cls:=.type "cell",data:=.cell none }) (hnd:qt "__debug__" (qaB ks ks0)=none)
 (hi:qaf prog w D env target iter M H n Yl fr E) (hn1:n<=1000000) (h0:R 0 [] H)
 (step:∀ k ys Hk Hc Lc c Mc v,k<n->ys.length<=k->R k ys Hk->Sub H Hk->Sub Hk Hc->Hc Lc=some (.ns Mc)->Hk Lc=none->(∃ u,Hc c=some (.cell u))->Hk c=none->c≠Lc->∀ cenv:Env,KE cenv (qaB ks ks0)->cenv.locals=Lc->cenv.cells=(z,c)::cl->Yl k (norm v) Hc->
  qcQ prog w D (fun a=>a=Lc\/a=c) (OwC Lc c) target elt ifs cenv M k ys Hk Hc R v)
 (fin:∀ acc ys Hk,Sub H Hk->Hk acc=none->R n ys Hk->Φ (.ref acc) M (upd Hk acc (lst ys)))
 (hk:scope.kind=.function:=by rfl) (hs:∀ x,foldedSetIterable iter env x=pure x:=by intro _;rfl):
 WV (model prog w) D (eval (.ListComp elt [⟨target,iter,ifs,0⟩] scope pos) env) M H Φ E:=
 qiL R ks0 ke hclos hn hdup (qkP hcf hpc) hnd hi hn1 h0 (fun k ys Hk Hc v Lc cl' P Ow b1 b2 b3 b4 b5 b6 b7 q cenv c1 c2 c3 b8=>by
  cases q;rename_i c hne;obtain⟨⟨Mc,hMc⟩,u,hu⟩:=b6;exact step k ys Hk Hc _ c Mc v b1 b2 b3 b4 b5 hMc (b7 _ (.inl rfl)) ⟨u,hu⟩ (b7 _ (.inr rfl)) hne cenv c1 c2 c3 b8) fin hk hs
theorem qqs(R:Nat->List Value->AH->Prop)(ks0:List (String×NameKind))
 (ke:KE env ks) (hlo:env.locals=D.L) (hx:qt x ks=some .local) (hx0:qt x ks0=none\/qt x ks0=some .free\/qt x ks0=some .globalImplicit)
 (hclos:closureFor scope env=pure cl) (hn:scope.names=ks0.map fun p=>(Str.ofString p.1,p.2))
 (hdup:∀ p∈ks0,qt p.1 ks0=some p.2) (hcell:∀ p∈ks0,p.2≠.cell) (hnd:qt "__debug__" (qaB ks ks0)=none)
 (hi:qaf prog w D env target iter M H n Yl fr E) (hn1:n<=1000000) (h0:R 0 [] H)
 (step:∀ k ys Hk Hc Lc Mc v,k<n->ys.length<=k->R k ys Hk->Sub H Hk->Sub Hk Hc->Hc Lc=some (.ns Mc)->Hk Lc=none->∀ cenv:Env,KE cenv (qaB ks ks0)->cenv.locals=Lc->cenv.cells=cl->Yl k (norm v) Hc->qcQ prog w D (fun a=>a=Lc) (OwL Lc) target elt ifs cenv M k ys Hk Hc R v)
 (fin:∀ acc ys Hk,Sub H Hk->Hk acc=none->R n ys Hk->WS (model prog w) D (execs rest env) (put x (.ref acc) M) (upd Hk acc (lst ys)) Ψ E)
 (hline:(npos.line==cpos.line)=true:=by rfl) (hk:scope.kind=.function:=by rfl) (hs:∀ x,foldedSetIterable iter env x=pure x:=by intro _;rfl):
 WS (model prog w) D (execs (.Assign [.Name (Str.ofString x) npos] (.ListComp elt [⟨target,iter,ifs,0⟩] scope cpos) pos::rest) env) M H Ψ E:=
 qqr R ks0 ke hlo hx hx0 hclos hn hdup (qkO hn hcell hk) hnd hi hn1 h0 (fun k ys Hk Hc v Lc cl' P Ow b1 b2 b3 b4 b5 b6 b7 q cenv c1 c2 c3 b8=>by
  cases q;obtain⟨Mc,hMc⟩:=b6;exact step k ys Hk Hc _ Mc v b1 b2 b3 b4 b5 hMc (b7 _ rfl) cenv c1 c2 c3 b8) fin hline hk hs
theorem qxt(R:Nat->List Value->AH->Prop)(ks0:List (String×NameKind))
 (ke:KE env ks) (hlo:env.locals=D.L) (hx:qt x ks=some .local) (hx0:qt x ks0=none\/qt x ks0=some .free\/qt x ks0=some .globalImplicit)
 (hclos:closureFor scope env=pure cl) (hn:scope.names=ks0.map fun p=>(Str.ofString p.1,p.2))
 (hdup:∀ p∈ks0,qt p.1 ks0=some p.2) (hcf:∀ n,cellsFrom n scope.names cl=(z,n)::cl) (hpc:∀ h,pushCells h scope.names=h.push { cls:=.type "cell",data:=.cell none }) (hnd:qt "__debug__" (qaB ks ks0)=none)
 (hi:qaf prog w D env target iter M H n Yl fr E) (hn1:n<=1000000) (h0:R 0 [] H)
 (step:∀ k ys Hk Hc Lc c Mc v,k<n->ys.length<=k->R k ys Hk->Sub H Hk->Sub Hk Hc->Hc Lc=some (.ns Mc)->Hk Lc=none->(∃ u,Hc c=some (.cell u))->Hk c=none->c≠Lc->∀ cenv:Env,KE cenv (qaB ks ks0)->cenv.locals=Lc->cenv.cells=(z,c)::cl->Yl k (norm v) Hc->
  qcQ prog w D (fun a=>a=Lc\/a=c) (OwC Lc c) target elt ifs cenv M k ys Hk Hc R v)
 (fin:∀ acc ys Hk,Sub H Hk->Hk acc=none->R n ys Hk->WS (model prog w) D (execs rest env) (put x (.ref acc) M) (upd Hk acc (lst ys)) Ψ E)
 (hline:(npos.line==cpos.line)=true:=by rfl) (hk:scope.kind=.function:=by rfl) (hs:∀ x,foldedSetIterable iter env x=pure x:=by intro _;rfl):
 WS (model prog w) D (execs (.Assign [.Name (Str.ofString x) npos] (.ListComp elt [⟨target,iter,ifs,0⟩] scope cpos) pos::rest) env) M H Ψ E:=
 qqr R ks0 ke hlo hx hx0 hclos hn hdup (qkP hcf hpc) hnd hi hn1 h0 (fun k ys Hk Hc v Lc cl' P Ow b1 b2 b3 b4 b5 b6 b7 q cenv c1 c2 c3 b8=>by
  cases q;rename_i c hne;obtain⟨⟨Mc,hMc⟩,u,hu⟩:=b6;exact step k ys Hk Hc _ c Mc v b1 b2 b3 b4 b5 hMc (b7 _ (.inl rfl)) ⟨u,hu⟩ (b7 _ (.inr rfl)) hne cenv c1 c2 c3 b8) fin hline hk hs
noncomputable def qxu(prog:Program)(w:World)(D:Dyn)(Lc:Addr)(elt:Expr)(cenv:Env)(M:Loc)(Hc:AH)(o o':List Value)(b:Bool)(M4:Loc)(H4:AH):Prop:=
 (b=true->WV (model prog w) D (eval elt cenv) M4 H4 (fun p=>qjQ (fun a=>a=Lc) (OwL Lc) M Hc (o'=o++[p])) NoE)/\(b=false->qjQ (fun a=>a=Lc) (OwL Lc) M Hc (o'=o) M4 H4)
noncomputable def qjS(prog:Program)(w:World)(D:Dyn)(Lc:Addr)(target elt:Expr)(ifs:List Expr)(cenv:Env)(M:Loc)(Hc:AH)(o o':List Value)(v:Value):Prop:=
 WX (model prog w) D (assign target cenv v) M Hc (fun _ M3 H3=>Tests (model prog w) D ifs cenv M3 H3 (qxu prog w D Lc elt cenv M Hc o o') NoE) NoE
inductive qlU(out:Nat->List Value)(H:AH)(k:Nat)(ys:List Value)(Hk:AH):Prop
 | mk(h:Hk=H)(y:ys=out k)
theorem qop{out:Nat->List Value}{cenv:Env}{v:Value}{k:Nat}{Hc:AH}(hS:Sub H Hc)(hL:H Lc=none)(h:qjS prog w D Lc target elt ifs cenv M Hc (out k) (out (k+1)) v):qcQ prog w D (fun a=>a=Lc) (OwL Lc) target elt ifs cenv M k (out k) H Hc (qlU out H) v:=by
 have s5:∀ {H5:AH},Kp (fun a=>a=Lc) Hc H5->Sub H H5:=fun kp a d e=>kp a d (fun(q:a=Lc)=>by rw[q,hL] at e;exact o_ns e) (hS a d e)
 refine qM h fun _ M3 H3 h3=>qjP h3 fun b M4 H4 hb=>⟨fun q=>qM (hb.1 q) fun p M5 H5 c=>?_,fun q=>?_⟩
 ·obtain⟨a1,a2,a3,a4⟩:=c
  exact⟨a1,a2,a3,H,Sub.refl,s5 a2,fun a d e=>.inl e,rfl,a4.symm⟩
 ·obtain⟨a1,a2,a3,a4⟩:=hb.2 q
  exact⟨a1,a2,a3,rfl,a4.symm⟩
theorem qa4(out:Nat->List Value)(ks0:List (String×NameKind))
 (ke:KE env ks) (hclos:closureFor scope env=pure cl) (hn:scope.names=ks0.map fun p=>(Str.ofString p.1,p.2))
 (hdup:∀ p∈ks0,p.2=.local->qt p.1 ks0=some .local) (hcell:∀ p∈ks0,p.2≠.cell) (hnd:qt "__debug__" (qaB ks ks0)=none)
 (hi:qaf prog w D env target iter M H n Yl fr E) (hn1:n<=1000000) (h0:out 0=[])
 (step:∀ k Hc Lc Mc v,k<n->Sub H Hc->Hc Lc=some (.ns Mc)->H Lc=none->∀ cenv:Env,KE cenv (qaB ks ks0)->cenv.locals=Lc->cenv.cells=cl->Yl k (norm v) Hc->qjS prog w D Lc target elt ifs cenv M Hc (out k) (out (k+1)) v)
 (fin:∀ acc,H acc=none->Φ (.ref acc) M (upd H acc (lst (out n))))
 (hk:scope.kind=.function:=by rfl) (hs:∀ x,foldedSetIterable iter env x=pure x:=by intro _;rfl):
 WV (model prog w) D (eval (.ListComp elt [⟨target,iter,ifs,0⟩] scope pos) env) M H Φ E:=
 qiM (qlU out H) ks0 ke hclos hn hdup hcell hnd hi hn1 ⟨rfl,h0.symm⟩ (fun k ys Hk Hc Lc Mc v b1 _ b3 _ b5 b6 b7 cenv c1 c2 c3 b8=>by
  obtain⟨rfl,rfl⟩:=b3;exact qop b5 b7 (step k Hc Lc Mc v b1 b5 b6 b7 cenv c1 c2 c3 b8)) (fun acc ys Hk _ h r=>by obtain⟨rfl,rfl⟩:=r;exact fin acc h) hk hs
theorem qqt(out:Nat->List Value)(ks0:List (String×NameKind))
 (ke:KE env ks) (hlo:env.locals=D.L) (hx:qt x ks=some .local) (hx0:qt x ks0=none\/qt x ks0=some .free\/qt x ks0=some .globalImplicit)
 (hclos:closureFor scope env=pure cl) (hn:scope.names=ks0.map fun p=>(Str.ofString p.1,p.2))
 (hdup:∀ p∈ks0,qt p.1 ks0=some p.2) (hcell:∀ p∈ks0,p.2≠.cell) (hnd:qt "__debug__" (qaB ks ks0)=none)
 (hi:qaf prog w D env target iter M H n Yl fr E) (hn1:n<=1000000) (h0:out 0=[])
 (step:∀ k Hc Lc Mc v,k<n->Sub H Hc->Hc Lc=some (.ns Mc)->H Lc=none->∀ cenv:Env,KE cenv (qaB ks ks0)->cenv.locals=Lc->cenv.cells=cl->Yl k (norm v) Hc->qjS prog w D Lc target elt ifs cenv M Hc (out k) (out (k+1)) v)
 (fin:∀ acc,H acc=none->WS (model prog w) D (execs rest env) (put x (.ref acc) M) (upd H acc (lst (out n))) Ψ E)
 (hline:(npos.line==cpos.line)=true:=by rfl) (hk:scope.kind=.function:=by rfl) (hs:∀ x,foldedSetIterable iter env x=pure x:=by intro _;rfl):
 WS (model prog w) D (execs (.Assign [.Name (Str.ofString x) npos] (.ListComp elt [⟨target,iter,ifs,0⟩] scope cpos) pos::rest) env) M H Ψ E:=
 qqs (qlU out H) ks0 ke hlo hx hx0 hclos hn hdup hcell hnd hi hn1 ⟨rfl,h0.symm⟩ (fun k ys Hk Hc Lc Mc v b1 _ b3 _ b5 b6 b7 cenv c1 c2 c3 b8=>by
  obtain⟨rfl,rfl⟩:=b3;exact qop b5 b7 (step k Hc Lc Mc v b1 b5 b6 b7 cenv c1 c2 c3 b8)) (fun acc ys Hk _ h r=>by obtain⟨rfl,rfl⟩:=r;exact fin acc h) hline hk hs
end
end
end
section
variable{p q:Value}{e e1 e2 e3:Expr}{b b1 b2 b3:Bool}{pos:Pos}
noncomputable def Pv(prog:Program)(w:World)(D:Dyn)(env:Env)(e:Expr)(p:Value)(M:Loc)(H:AH)(E:Value->Shared->Prop):Prop:=∀ Φ:Value->Loc->AH->Prop,Φ p M H->WV (model prog w) D (eval e env) M H Φ E
noncomputable def Pt(prog:Program)(w:World)(D:Dyn)(env:Env)(e:Expr)(b:Bool)(M:Loc)(H:AH)(E:Value->Shared->Prop):Prop:=∀ Φ:Bool->Loc->AH->Prop,Φ b M H->WX (model prog w) D (isTrue e env (eval e env)) M H Φ E
theorem Pv.of(h:WV (model prog w) D (eval e env) M H (fun q M' H'=>q=p/\M'=M/\Sub H H') E):Pv prog w D env e p M H E:=
 fun Φ hΦ=>qfS (qM h fun a M' H' q'=>oAA q' fun h1 h2 h3=>(iEA H h3 (by refine substr h1 (substr h2 ?_);exact hΦ)))
theorem Pt.of(h:WX (model prog w) D (isTrue e env (eval e env)) M H (fun q M' H'=>q=b/\M'=M/\Sub H H') E):Pt prog w D env e b M H E:=
 fun Φ hΦ=>qfS (qM h fun a M' H' q'=>oAA q' fun h1 h2 h3=>(iEA H h3 (by refine substr h1 (substr h2 ?_);exact hΦ)))
theorem qkR(h:Pv prog w D env e (.bool b) M H E):Pv prog w D env (.UnaryOp .Not e pos) (.bool (!b)) M H E:=fun Φ hΦ=>qxf (h _ fun v hv=>qcA (by exact hΦ) v hv)
theorem qkS(h1:Pv prog w D env e1 (.bool b1) M H E)(h2:Pv prog w D env e2 (.bool b2) M H E):Pv prog w D env (.BoolOp .And [e1,e2] pos) (.bool (b1&&b2)) M H E:=fun Φ hΦ=>
 qoi (h1 _ (asB ⟨fun hb=>qgg (h2 _ (by rw[hb] at hΦ;exact hΦ)),fun hb=>by rw[hb] at hΦ;exact hΦ⟩))
theorem qoq(h1:Pv prog w D env e1 (.bool b1) M H E)(h2:Pv prog w D env e2 (.bool b2) M H E):Pv prog w D env (.BoolOp .Or [e1,e2] pos) (.bool (b1||b2)) M H E:=fun Φ hΦ=>
 qqa (h1 _ (asB ⟨fun hb=>qgg (h2 _ (by rw[hb] at hΦ;exact hΦ)),fun hb=>by rw[hb] at hΦ;exact hΦ⟩))
theorem qqu(h1:Pv prog w D env e1 (.bool b1) M H E)(h2:Pv prog w D env e2 (.bool b2) M H E)(h3:Pv prog w D env e3 (.bool b3) M H E):Pv prog w D env (.BoolOp .Or [e1,e2,e3] pos) (.bool (b1||b2||b3)) M H E:=fun Φ hΦ=>
 qqa (h1 _ (asB ⟨fun hb=>qoq h2 h3 _ (by rw[hb] at hΦ;exact hΦ),fun hb=>by rw[hb] at hΦ;exact hΦ⟩))
theorem qfj(h:Pv prog w D env e (.bool b) M H E)(he:∀ whole,isTrue e env whole=(do let v <- whole;standAt e.pos;holding [v] (truthy v)):=by intro _;rfl):Pt prog w D env e b M H E:=
 fun Φ hΦ=>qao (h _ fun v hv=>qcA hΦ v hv) (he _)
theorem qqv(h:Pt prog w D env e b M H E):Pt prog w D env (.UnaryOp .Not e pos) (!b) M H E:=fun Φ hΦ=>qfD (h _ hΦ)
theorem qhO(h1:Pt prog w D env e1 b1 M H E)(h2:b1=true->Pt prog w D env e2 b2 M H E):Pt prog w D env (.BoolOp .And [e1,e2] pos) (b1&&b2) M H E:=fun Φ hΦ=>
 qdz (qaG (h1 _ ⟨fun hb=>qaG (h2 hb _ ⟨fun hb2=>qcN (by rw[hb,hb2] at hΦ;exact hΦ),fun hb2=>by rw[hb,hb2] at hΦ;exact hΦ⟩),fun hb=>by rw[hb] at hΦ;exact hΦ⟩))
theorem qoW(h1:Pt prog w D env e1 b1 M H E)(h2:Pt prog w D env e2 b2 M H E)(h3:Pt prog w D env e3 b3 M H E):Pt prog w D env (.BoolOp .And [e1,e2,e3] pos) (b1&&b2&&b3) M H E:=fun Φ hΦ=>
 qdz (qaG (h1 _ ⟨fun hb=>qaG (h2 _ ⟨fun hb2=>qaG (h3 _ ⟨fun hb3=>qcN (by rw[hb,hb2,hb3] at hΦ;exact hΦ),fun hb3=>by rw[hb,hb2,hb3] at hΦ;exact hΦ⟩),fun hb2=>by rw[hb,hb2] at hΦ;exact hΦ⟩),fun hb=>by rw[hb] at hΦ;exact hΦ⟩))
theorem qcR{body orelse rest:List Stmt}{Φ:Flow->Loc->AH->Prop}(ht:Pt prog w D env e b M H E)(h1:b=true->WS (model prog w) D (execs body env) M H (Seq (model prog w) D rest env Φ E) E)(h2:b=false->WS (model prog w) D (execs orelse env) M H (Seq (model prog w) D rest env Φ E) E):
 WS (model prog w) D (execs (.If e body orelse pos::rest) env) M H Φ E:=qbp (ht _ ⟨h1,h2⟩)
theorem qhP{t:Expr}(ht:Pt prog w D env t b M H E)(h1:b=true->Pv prog w D env e1 p M H E)(h2:b=false->Pv prog w D env e2 p M H E):Pv prog w D env (.IfExp t e1 e2 pos) p M H E:=fun Φ hΦ=>
 qdA (ht _ ⟨fun hb=>h1 hb _ hΦ,fun hb=>h2 hb _ hΦ⟩)
end
noncomputable def qeO(v:Option Int)(d n:Int):Int:=match v with
 | none=>d
 | some i=>max 0 (min (if i<0 then i+n else i) n)
theorem qhQ(lo hi:Option Int)(n:Nat):Builtin.Str.strSliceIndices lo hi 1 n=(List.range (kms_hi hi n-kms_lo lo n)).map (fun k=>kms_lo lo n+k):=by
 have e1:qeO lo 0 n=(kms_lo lo n:Int):=by
  cases lo with
  | none=>rfl
  | some i=>simp only[kms_lo,qeO];split<;>(first | exact qnG | exact qnH)
 have e2:qeO hi n n=(kms_hi hi n:Int):=by
  cases hi with
  | none=>rfl
  | some i=>simp only[kms_hi,qeO];split<;>(first | exact qnG | exact qnH)
 have e3:Builtin.Str.strSliceIndices lo hi 1 n=sliceRange (qeO lo 0 n) (qeO hi n n) 1:=by
  cases lo<;>cases hi<;>rfl
 refine substr e3 (substr e1 (substr e2 ?_))
 unfold sliceRange
 simp only[show(1:Int)>0 by decide,if_true,Int.ediv_one]
 generalize kms_lo lo n=a
 generalize kms_hi hi n=b
 have e4:(if (a:Int)<(b:Int) then(b:Int)-a+1-1 else 0).toNat=b-a:=by split<;>(first | exact quE | exact quF (by assumption))
 refine substr e4 ?_
 refine List.map_congr_left fun k _=>?_
 exact quG
theorem qkT(hi:Option Int)(n:Nat):kms_hi hi n<=n:=by
 cases hi with
 | none=>exact Nat.le_refl _
 | some i=>simp only[kms_hi];split<;>(first | exact quH | exact quI)
theorem qfT{α:Type}(l:List α)(a m:Nat):((List.range m).map (fun k=>a+k)).filterMap (l[·]?)=(l.drop a).take m:=by
 induction m generalizing a with
 | zero=>simp
 | succ m ih=>
  refine substr List.range_succ_eq_map (substr map_cons (substr map_map ?_))
  have e:((fun k=>a+k)∘Nat.succ)=fun k=>(a+1)+k:=by funext k;simp only[Function.comp];exact quJ
  refine substr e (substr List.filterMap_cons (substr (Nat.add_zero ..) ?_))
  cases h:l[a]? with
  | none=>
   have hl:l.length<=a:=List.getElem?_eq_none_iff.mp h
   refine substr (ih (a+1)) ?_
   simp[List.drop_eq_nil_of_le hl,List.drop_eq_nil_of_le (Nat.le_succ_of_le hl)]
  | some x=>
   obtain⟨ha,rfl⟩:=List.getElem?_eq_some_iff.mp h
   refine substr (ih (a+1)) (substr (List.drop_eq_getElem_cons ha) (substr List.take_succ_cons rfl))
noncomputable def lsl(l:List Nat)(lo hi:Option Int):List Nat:=(l.drop (kms_lo lo l.length)).take (kms_hi hi l.length-kms_lo lo l.length)
theorem slice_list(x:Str)(lo hi:Option Int):Txt.slice x lo hi=⟨(lsl x.cps.toList lo hi).toArray⟩:=by
 have hlen:x.length=x.cps.toList.length:=rfl
 have hp:(Builtin.Str.strSliceIndices lo hi 1 x.length).filterMap (x.cps[·]?)=lsl x.cps.toList lo hi:=by
  refine substr (qhQ ..) ?_
  unfold lsl
  refine substr hlen.symm (substr (qfT ..).symm ?_)
  simp
 unfold Txt.slice
 split
 ·rename_i h
  rw[qhQ] at h
  simp at h
  have h2:=qkT hi x.length
  have h3:kms_lo lo x.length=0/\kms_hi hi x.length=x.length\/x.length=0:=quK h h2
  unfold lsl
  refine substr hlen.symm ?_
  rcases h3 with⟨h4,h5⟩ | h4
  ·refine substr h4 (substr h5 (substr List.drop_zero (substr (Nat.sub_zero ..) (substr hlen (substr List.take_length rfl)))))
  ·have:x.cps.toList=[]:=List.eq_nil_of_length_eq_zero (by refine substr hlen.symm ?_;exact h4)
   refine substr this ?_
   cases x with | mk a=>simp at this ⊢;exact this
 ·refine substr hp rfl
theorem qkU(x:Str)(lo hi:Option Int):(Txt.slice x lo hi).length=min (kms_hi hi x.length-kms_lo lo x.length) (x.length-kms_lo lo x.length):=by
 refine substr (slice_list ..) ?_
 show(lsl x.cps.toList lo hi).toArray.size=_
 refine substr List.size_toArray ?_
 unfold lsl
 refine substr length_take (substr length_drop ?_)
 rfl
section
open AutoSeq1 (wpAny_loadPart')
theorem qgo:isSubtype (.type "KeyError") (.type "LookupError")=pure true:=by refine substr (isSubtype_type ..) ?_;kernel_rfl
section
variable{A:Around}{s:Shared}{d:Addr}{f:Int->Option Value}{c:Nat}
theorem qiN{y:Str}{t:Tok}{Q:Builtin.Str.Mapped->Shared->Prop}(hm:s.heap.MapOf (intKind prog w) d f)(hv:f c=some (.str y t))(h:∀ tk,Q (.text y) { s with toks:=tk }):
 wpAny (model prog w) A (Builtin.Str.tableLookup (.ref d) c) Q E s:=by
 unfold Builtin.Str.tableLookup
 refine wpAny_bind (wpAny_attempt (wpAny_bind (wpAny_mkInt ?_)))
 refine wpAny_getItem_of (knd:=intKind prog w) (k:=(c:Int)) (by simp[intKind_is]) (s:={ s with toks:=s.toks+1 }) hm hv ?_
 show wpAny _ _ (asInt? (.str y t) >>= _) _ _ _
 refine wpAny_bind (wpAny_of_eq (a:=none) (by rfl) ?_)
 dsimp only
 refine wpAny_bind (wpAny_of_eq (a:=some y) (by rfl) ?_)
 exact wpAny_pure (h _)
theorem qoX{Q:Builtin.Str.Mapped->Shared->Prop}(hh:A.handled=none)(hd:(d==sysModules)=false)(hm:s.heap.MapOf (intKind prog w) d f)(hv:f c=none)(h:∀ h' e tk,Heap.NewExc s.heap h' e "KeyError"->Q .keep { s with heap:=h',toks:=tk }):
 wpAny (model prog w) A (Builtin.Str.tableLookup (.ref d) c) Q E s:=by
 unfold Builtin.Str.tableLookup
 refine wpAny_bind (wpAny_attempt (wpAny_bind (wpAny_mkInt ?_)))
 refine wpAny_getItem_missing_of (knd:=intKind prog w) (k:=(c:Int)) (by simp[intKind_is]) hd hh (s:={ s with toks:=s.toks+1 }) hm hv fun h' e hx=>?_
 obtain⟨o,ho,hc⟩:∃ o,h'.get? e=some o/\o.cls=.type "KeyError":=by
  refine qR hx.there fun ob t h1 h2 _=>?_
  exact iEA ob h1 h2
 refine wpAny_bind (wpAny_isInstance (T := "KeyError") (b:=true) ⟨o,ho,hc⟩ qgo ?_)
 exact wpAny_bind (wpAny_rule (wpAny_pure (h _ _ _ hx)))
theorem qgp{y:Str}{t u:Tok}{Q:Value->Shared->Prop}(hc:c<128)(hy:y.length=2)(hm:s.heap.MapOf (intKind prog w) d f)(hv:f c=some (.str y t))(h:∀ t' tk,Q (.str y t') { s with toks:=tk }):
 wpAny (model prog w) A (call (.builtin "str.translate") [.str ⟨#[c]⟩ u,.ref d]) Q E s:=by
 refine wpAny_call_entry F.slot_str_translate (typeIs_str _ _ _) F.entry_str_translate ?_ (F.args_str_translate_2 _ _)
 unfold Builtin.«str.translate»
 have e1:Builtin.Str.strOneArg "translate" ⟨[.str ⟨#[c]⟩ u,.ref d],[]⟩=pure (.str ⟨#[c]⟩ u,⟨#[c]⟩,.ref d):=by rfl
 refine substr e1 (substr (pure_bind ..) ?_)
 dsimp only
 refine substr (if_neg (by simp[Str.length])) ?_
 have hall:(#[c].all fun x=>decide (x<128))=true:=by simp[hc]
 refine substr hall (substr (Eq.symm Array.forIn_toList) ?_)
 simp only[List.forIn_cons,List.forIn_nil]
 refine wpAny_bind (wpAny_bind ?_)
 refine substr (if_neg (by decide)) (substr (if_pos trivial) ?_)
 dsimp only[List.lookup]
 have hy1:(y.length==1&&y.cps.all fun x=>decide (x<128))=false:=by refine substr hy ?_;rfl
 refine wpAny_bind (qiN hm hv fun tk=>?_)
 simp only[hy1,Bool.false_eq_true,if_false]
 refine wpAny_bind (wpAny_pure ?_)
 refine wpAny_bind (wpAny_rule ?_)
 refine wpAny_bind (qiN hm hv fun tk=>?_)
 refine wpAny_pure (wpAny_pure ?_)
 dsimp only
 refine substr (if_neg (by rw[hy];decide)) ?_
 have e2:(⟨[y].reverse.foldl (fun acc p=>acc++p.cps) #[]⟩:Str)=y:=by cases y;simp
 refine substr e2 ?_
 unfold retStr
 refine wpAny_bind (wpAny_mkStr (wpAny_pure (iEA _ rfl (h _ _))) (by refine substr hy ?_;decide))
theorem qgq{u:Tok}{Q:Value->Shared->Prop}(hh:A.handled=none)(hd:(d==sysModules)=false)(hc:c<128)(hm:s.heap.MapOf (intKind prog w) d f)(hv:f c=none)(h:∀ h' t' tk,(∀ b o,s.heap.get? b=some o->h'.get? b=some o)->Q (.str ⟨#[c]⟩ t') { s with heap:=h',toks:=tk }):
 wpAny (model prog w) A (call (.builtin "str.translate") [.str ⟨#[c]⟩ u,.ref d]) Q E s:=by
 refine wpAny_call_entry F.slot_str_translate (typeIs_str _ _ _) F.entry_str_translate ?_ (F.args_str_translate_2 _ _)
 unfold Builtin.«str.translate»
 have e1:Builtin.Str.strOneArg "translate" ⟨[.str ⟨#[c]⟩ u,.ref d],[]⟩=pure (.str ⟨#[c]⟩ u,⟨#[c]⟩,.ref d):=by rfl
 refine substr e1 (substr (pure_bind ..) ?_)
 dsimp only
 refine substr (if_neg (by simp[Str.length])) ?_
 have hall:(#[c].all fun x=>decide (x<128))=true:=by simp[hc]
 refine substr hall (substr (Eq.symm Array.forIn_toList) ?_)
 simp only[List.forIn_cons,List.forIn_nil]
 refine wpAny_bind (wpAny_bind ?_)
 refine substr (if_neg (by decide)) (substr (if_pos trivial) ?_)
 dsimp only[List.lookup]
 refine wpAny_bind (qoX hh hd hm hv fun h' e tk hx=>?_)
 refine wpAny_bind (wpAny_pure ?_)
 refine wpAny_pure (wpAny_pure ?_)
 dsimp only
 refine substr (if_neg (by decide)) ?_
 have e2:(⟨[(⟨#[c]⟩:Str)].reverse.foldl (fun acc p=>acc++p.cps) #[]⟩:Str)=⟨#[c]⟩:=by simp
 refine substr e2 ?_
 unfold retStr
 refine wpAny_bind (wpAny_mkStr (wpAny_pure (iEA _ rfl (h _ _ _ hx.keeps))) (by show 1<=sizeLine;decide))
end
end
noncomputable def escL:List (Nat×Tok×String×Tok):=[(40,578, "\\(",582),(41,584, "\\)",588),(91,590, "\\[",594),(93,596, "\\]",600),(123,602, "\\{",606),(125,608, "\\}",612),(63,614, "\\?",618),(42,620, "\\*",624),
 (43,626, "\\+",630),(45,632, "\\-",636),(124,638, "\\|",642),(94,644, "\\^",648),(36,650, "\\$",654),(92,656, "\\\\",660),(46,662, "\\.",666),(38,668, "\\&",672),(126,674, "\\~",678),(35,680, "\\#",684),
 (32,686, "\\ ",690),(9,692, "\\\t",696),(10,698, "\\\n",702),(13,704, "\\\x0d",708),(11,710, "\\\x0b",714),(12,716, "\\\x0c",720)]
noncomputable def qdT(p:Nat×Tok×String×Tok):DictEntry:={ hash:=p.1,key:=.int p.1 p.2.1,val:=.str (Str.ofString p.2.2.1) p.2.2.2 }
noncomputable def kSt(i:Nat):Option Stmt:=Challenge.pw_ij0114_01.main.body[i]?
noncomputable def qzC:Option Stmt:=match kSt 6 with
 | some (.ClassDef _ _ _ b _ _ _ _ _ _ _)=>b[4]?
 | _=>none
noncomputable def fdx{α:Type}(d:α)(f:Str->Arguments->List Stmt->Scope->α):Option Stmt->α
 | some (.FunctionDef n ps b _ _ _ sc _ _ _)=>f n ps b sc
 | _=>d
noncomputable def kfo(s:Option Stmt)(q:Str)(doc:Value)(m:String)(t:Tok)(c:Nat):Obj:=
 fdx ⟨.none,none,.plain,#[]⟩ (fun n ps b sc=>⟨.type "function",none,.func { name:=n,qualname:=q,params:=ps,body:=.stmts b,scope:=sc,globals:=3,closure:=[],defaults:=.none,kwdefaults:=.none,doc:=doc,pyModule:=.str (Str.ofString m) t,code:=.ref c },#[]⟩) s
noncomputable def kcx(n q:String)(i l k r:Nat)(a b c d:Value)(e:Nat):Obj:=⟨.type "code",none,.fields #[.str (Str.ofString n) i,.str (Str.ofString q) (i+1),.str (Str.ofString "/claim/cut.py") (i+2),.int l 0,.int k 0,.int 0 0,.int 0 0,.int 3 0,.ref r,.bool true,.int 276 0,a,.none,b,c,d,.int e 0,.int l 0,.str (Str.ofString "/claim/cut.py") (e+1)],#[]⟩
noncomputable def kco(n q:String)(i l k r e:Nat):Obj:=kcx n q i l k r (.ref (r+1)) (.ref (r+2)) (.ref (r+3)) (.ref (r+4)) e
noncomputable def kcp(n q:String)(i l k r e:Nat):Obj:=kcx n q i l k r (.ref (r+1)) .none .none (.ref (r+2)) e
noncomputable def ke1(P:Params)(x:String)(t:Tok)(v:Value):DictEntry:={ hash:=PyData.keyHash P (Str.ofString x),key:=.str (Str.ofString x) t,val:=v }
noncomputable def KF(P:Params):Frag:=[
 (87,kco "sorted_list_difference" "sorted_list_difference" 348 24 2 82 359),
 (88,kfo (kSt 4) (Str.ofString "sorted_list_difference") (.str (Str.ofString "Finds elements in only one or the other of two, sorted input lists.\n\nReturns a two-element tuple of lists.    The first list contains those\nelements in the \"expected\" list but not in the \"actual\" list, and the\nsecond contains those elements in the \"actual\" list but not in the\n\"expected\" list.    Duplicate elements in either input list are ignored.\n") 361) "cpy313.unittest.util" 289 87),
 (94,kco "unorderable_list_difference" "unorderable_list_difference" 363 63 2 89 370),
 (95,kfo (kSt 5) (Str.ofString "unorderable_list_difference") (.str (Str.ofString "Same behavior as sorted_list_difference but\nfor lists of unorderable items (like dicts).\n\nAs it does a linear search per item (remove) it\nhas O(n*n) performance.") 372) "cpy313.unittest.util" 289 94),
 (175,kco "_count_diff_all_purpose" "_count_diff_all_purpose" 503 121 2 170 521),
 (176,kfo (kSt 8) (Str.ofString "_count_diff_all_purpose") (.str (Str.ofString "Returns list of (cnt_act, cnt_exp, elem) triples where the counts differ") 523) "cpy313.unittest.util" 289 175),
 (187,kco "translate" "translate" 565 155 1 182 571),
 (188,kfo (kSt 11) (Str.ofString "translate") (.str (Str.ofString "Translate a shell PATTERN to a regular expression.\n\nThere is no way to quote meta-characters.\n") 573) "cpy313.fnmatch" 525 187),
 (199,kco "escape" "escape" 723 165 1 194 727),
 (200,kfo (kSt 14) (Str.ofString "escape") .none "re" 575 199),
 (206,kco "_translate" "_translate" 732 172 3 201 748),
 (207,kfo (kSt 16) (Str.ofString "_translate") .none "cpy313.fnmatch" 730 206),
 (213,kco "_join_translated_parts" "_join_translated_parts" 751 234 2 208 761),
 (214,kfo (kSt 17) (Str.ofString "_join_translated_parts") .none "cpy313.fnmatch" 730 213),
 (218,kcp "_law_signs" "_law_signs" 766 262 2 215 769),
 (219,kfo (kSt 19) (Str.ofString "_law_signs") .none "law_ij0114_01" 764 218),
 (225,kco "_law_pieces" "_law_pieces" 772 264 1 220 783),
 (226,kfo (kSt 20) (Str.ofString "_law_pieces") .none "law_ij0114_01" 764 225),
 (230,kcp "_law_fits" "_law_fits" 786 282 3 227 789),
 (231,kfo (kSt 21) (Str.ofString "_law_fits") .none "law_ij0114_01" 764 230),
 (237,kco "_law_takes" "_law_takes" 792 286 2 232 800),
 (238,kfo (kSt 22) (Str.ofString "_law_takes") .none "law_ij0114_01" 764 237),
 (242,kcp "_law_taken" "_law_taken" 803 298 2 239 806),
 (243,kfo (kSt 23) (Str.ofString "_law_taken") .none "law_ij0114_01" 764 242),
 (249,kco "_law_dressed" "_law_dressed" 809 301 2 244 817),
 (250,kfo (kSt 24) (Str.ofString "_law_dressed") .none "law_ij0114_01" 764 249),
 (256,kco "_law_met" "_law_met" 820 306 2 251 828),
 (257,kfo (kSt 25) (Str.ofString "_law_met") .none "law_ij0114_01" 764 256),
 (263,kco "_law_either" "_law_either" 831 313 2 258 838),
 (264,kfo (kSt 26) (Str.ofString "_law_either") .none "law_ij0114_01" 764 263),
 (268,kcp "_law_piled" "_law_piled" 841 316 3 265 844),
 (269,kfo (kSt 27) (Str.ofString "_law_piled") .none "law_ij0114_01" 764 268),
 (273,kcp "_law_under" "_law_under" 847 333 2 270 850),
 (274,kfo (kSt 28) (Str.ofString "_law_under") .none "law_ij0114_01" 764 273),
 (2,⟨.none,none,.dict #[ke1 P "\x69mport.loaded._sre" 183 (.bool true),ke1 P "class._frozen_importlib.BuiltinImporter" 185 (.ref 14),ke1 P "watched.\x69mport" 206 (.ref 18),ke1 P "class._frozen_importlib.ModuleSpec" 216 (.ref 22),ke1 P "sys.modules.booked-epoch" 245 (.int 3 0),ke1 P "\x69mport.later-laid._sre" 270 (.bool true),ke1 P "watched.library" 272 (.ref 27),ke1 P "watched.library-objects" 0 (.str (Str.ofString "\x0c") 0),ke1 P "watched.library-deep._sre" 273 (.str (Str.ofString "\x04\x00\x00\x0b\x04\x00\x00\x0b\x04\x00\x00\x03\x04\x00\x00\x0b\x08\x04dict\x02") 0)] 9,#[]⟩),
 (3,⟨.type "dict",none,.dict #[ke1 P "__name__" 165 (.str (Str.ofString "law_ij0114_01") 764),ke1 P "__doc__" 166 .none,ke1 P "__package__" 167 .none,ke1 P "__loader__" 168 (.builtin "__main__.__loader__#\x6fpaque"),ke1 P "__spec__" 169 .none,ke1 P "__annotations__" 170 (.ref 6),ke1 P "__builtins__" 171 (.ref 4),ke1 P "__file__" 173 (.str (Str.ofString "/claim/cut.py") 172),ke1 P "__cached__" 174 .none,ke1 P "_sre" 275 (.ref 12),ke1 P "_wall" 288 (.ref 38),ke1 P "_tuplegetter" 347 (.ref 77),ke1 P "sorted_list_difference" 362 (.ref 88),ke1 P "unorderable_list_difference" 373 (.ref 95),ke1 P "Mismatch" 501 (.ref 166),ke1 P "_Mismatch" 502 (.ref 166),ke1 P "_count_diff_all_purpose" 524 (.ref 176),ke1 P "_twin_re_1" 564 (.ref 181),ke1 P "translate" 574 (.ref 188),ke1 P "_special_chars_map" 722 (.ref 190),ke1 P "escape" 729 (.ref 200),ke1 P "_translate" 750 (.ref 207),ke1 P "_join_translated_parts" 763 (.ref 214),ke1 P "_law_signs" 771 (.ref 219),ke1 P "_law_pieces" 785 (.ref 226),ke1 P "_law_fits" 791 (.ref 231),ke1 P "_law_takes" 802 (.ref 238),ke1 P "_law_taken" 808 (.ref 243),ke1 P "_law_dressed" 819 (.ref 250),ke1 P "_law_met" 830 (.ref 257),ke1 P "_law_either" 840 (.ref 264),ke1 P "_law_piled" 846 (.ref 269),ke1 P "_law_under" 852 (.ref 274),ke1 P "law" 858 (.ref 279)] 34,#[]⟩),
 (165,⟨.type "dict",none,.dict #[ke1 P "__module__" 381 (.str (Str.ofString "cpy313.unittest.util") 289),ke1 P "__firstlineno__" 385 (.int 77 384),ke1 P "__doc__" 387 (.str (Str.ofString "Mismatch(actual, expected, value)") 386),ke1 P "__slots__" 389 (.ref 104),ke1 P "_fields" 393 (.ref 105),ke1 P "_field_defaults" 394 (.ref 106),ke1 P "__new__" 405 (.ref 167),ke1 P "_make" 427 (.ref 122),ke1 P "_replace" 438 (.ref 131),ke1 P "__replace__" 439 (.ref 131),ke1 P "__repr__" 447 (.ref 138),ke1 P "_asdict" 454 (.ref 145),ke1 P "__getnewargs__" 462 (.ref 152),ke1 P "__match_args__" 466 (.ref 153),ke1 P "actual" 476 (.ref 155),ke1 P "expected" 486 (.ref 158),ke1 P "value" 496 (.ref 161),ke1 P "__static_attributes__" 497 (.ref 163)] 2,#[]⟩),
 (112,kco "__new__" "Mismatch.__new__" 395 83 4 107 402),
 (113,kfo qzC (Str.ofString "Mismatch.__new__") (.str (Str.ofString "Create new \x69nstance of Mismatch(actual, expected, value)") 404) "cpy313.unittest.util" 289 112),
 (166,⟨.type "type",none,.cls { name:=Str.ofString "Mismatch",bases:=[.type "tuple"],mro:=[.ref 166,.type "tuple",.type "object"],ns:=165,qualname:=Str.ofString "Mismatch",hasDict:=false },#[some (.ref 96),none,some (.str (Str.ofString "Mismatch") 374),some (.str (Str.ofString "Mismatch") 382),some .none,some (.bool false)]⟩),
 (167,⟨.type "staticmethod",none,.fields #[.ref 113],#[]⟩),
 (190,⟨.type "dict",none,.dict (escL.map qdT).toArray 24,#[]⟩)]
theorem qqw(P:Params):(KF P).lookup 190=some { cls:=.type "dict",data:=.dict (escL.map qdT).toArray 24 }:=by rfl
noncomputable def qfU(k:Int):Option Value:=findBy Value.isInt (escL.map qdT).toArray k
noncomputable def qqx(c:Nat):Option Str:=(escL.find? (·.1==c)).map fun p=>Str.ofString p.2.2.1
noncomputable def qgr(c:Nat):Str:=(qqx c).getD ⟨#[c]⟩
theorem qhR(c:Nat):∀ l:List (Nat×Tok×String×Tok),((l.map qdT).find? fun e=>Value.isInt c e.key)=(l.find? (·.1==c)).map qdT
 | []=>rfl
 | p::r=>by
  refine substr map_cons (substr List.find?_cons (substr List.find?_cons ?_))
  have e:Value.isInt (c:Int) (qdT p).key=(p.1==c):=by
   show((p.1:Int)==(c:Int))=(p.1==c)
   by_cases q:p.1=c
   ·subst q;refine substr (beq_self_eq_true ..) (substr (beq_self_eq_true ..) rfl)
   ·have:¬ ((p.1:Int)=(c:Int)):=by exact qtV q
    refine substr (beq_eq_false_iff_ne.mpr this) (substr (beq_eq_false_iff_ne.mpr q) rfl)
  refine substr e ?_
  cases (p.1==c) with
  | true=>rfl
  | false=>exact qhR c r
theorem qhS(c:Nat):qfU c=(escL.find? (·.1==c)).map fun p=>(.str (Str.ofString p.2.2.1) p.2.2.2):=by
 unfold qfU findBy
 refine substr (List.find?_toArray ..) (substr (qhR ..) (substr (Option.map_map ..) ?_))
 rfl
theorem qoY:∀ p∈escL,(Str.ofString p.2.2.1).length=2:=by decide +kernel
theorem qlV:∀ p∈escL,hashInt (p.1:Int)=(p.1:Int):=by decide +kernel
theorem qoZ{h:Heap}(hg:h.get? 190=some { cls:=.type "dict",data:=.dict (escL.map qdT).toArray 24 }):h.MapOf (intKind prog w) 190 qfU:=by
 refine⟨_,_,_,hg,⟨rfl,rfl,rfl⟩,rfl,fun e he=>?_,fun k=>rfl⟩
 have he':e∈escL.map qdT:=by simpa using he
 (refine oEA (List.mem_map.mp he') fun p hp e2'=>?_;obtain rfl:=e2')
 exact iEA (p.1:Int) (by simp[intKind,qdT,Value.isInt]) ((qlV p hp).symm)
theorem qis(ok:Ok (KF w.params) glob q7 D n){c:Nat}(hc:c<128)(h:Φ (S (qgr c)) M H):
 ∀ v,norm v=S ⟨#[c]⟩->∀ vs,vs.map norm=[.ref 190]->WV (model prog w) D (call (.builtin "str.translate") ([v]++vs)) M H Φ E:=by
 intro v hv vs hvs s hs
 (refine oEA (nm1 hvs) fun u e1' hu=>?_;obtain rfl:=e1')
 obtain⟨t,rfl⟩:=qH hv
 refine substr (qz hu) ?_
 refine qR hs.fr fun g m T F Rm=>?_
 have hg:=F.keep _ _ (ok.X T _ _ (qqw w.params))
 have hm:=qoZ (prog:=prog) (w:=w) hg
 unfold qgr qqx at h
 cases hq:escL.find? (·.1==c) with
 | none=>
  rw[hq] at h
  refine qgq (f:=qfU) ok.hand (by decide) hc hm (by refine substr (qhS ..) (substr hq ?_);rfl) fun h' t' tk hk=>⟨M,H,(hs.grow (s':={ s with heap:=h' }) hk).toks _,h⟩
 | some p=>
  rw[hq] at h
  have hp:=List.mem_of_find?_eq_some hq
  refine qgp (f:=qfU) (y:=Str.ofString p.2.2.1) (t:=p.2.2.2) hc (qoY p hp) hm (by refine substr (qhS ..) (substr hq ?_);rfl) fun t' tk=>⟨M,H,hs.toks _,h⟩
section
namespace LA
theorem ga:Slot "list" "__getattribute__" "list.__getattribute__":=
 .of (owner := "list") (n := "__getattribute__") (by refine substr (typeLookup_type ..) (substr builtinLookup_eq_fast ?_);kernel_rfl) (by decide +kernel) (by decide +kernel) (by decide +kernel)
  (by first | exact .inl (by decide +kernel) | exact .inr (by decide +kernel)) (by refine substr (isSubtype_type ..) ?_;kernel_rfl)
theorem qlW:entryFor table "list.__getattribute__"=some Builtin.«object.__getattribute__»:=
 entryFor_alias (id' := "object.__getattribute__") (by kernel_rfl) (by first | rfl | decide +kernel) (by decide +kernel) (by kernel_rfl)
theorem qo0(a b:Value):argsOk "list.__getattribute__" ⟨[a,b],[]⟩:=by unfold argsOk;kernel_rfl
theorem lk:typeLookup (.type "list") "append"=pure (some (.builtin "list.append")):=by refine substr (typeLookup_type ..) (substr builtinLookup_eq_fast ?_);kernel_rfl
theorem md_get:Slot "method_descriptor" "__get__" "method_descriptor.__get__":=
 .of (owner := "method_descriptor") (n := "__get__") (by refine substr (typeLookup_type ..) (substr builtinLookup_eq_fast ?_);kernel_rfl) (by decide +kernel) (by decide +kernel) (by decide +kernel)
  (by first | exact .inl (by decide +kernel) | exact .inr (by decide +kernel)) (by refine substr (isSubtype_type ..) ?_;kernel_rfl)
theorem qlX:entryFor table "method_descriptor.__get__"=some Builtin.«method_descriptor.__get__»:=entryFor_of_tree (by kernel_rfl)
theorem qo1(a b c:Value):argsOk "method_descriptor.__get__" ⟨[a,b,c],[]⟩:=by unfold argsOk;kernel_rfl
theorem qqy:typeLookup (.type "method_descriptor") "__set__"=pure none:=by refine substr (typeLookup_type ..) (substr builtinLookup_eq_fast ?_);kernel_rfl
theorem qqz:typeLookup (.type "method_descriptor") "__delete__"=pure none:=by refine substr (typeLookup_type ..) (substr builtinLookup_eq_fast ?_);kernel_rfl
end LA
namespace LA
theorem qkV:(".".intercalate ("list.append".cutAt '.').dropLast) = "list":=by
 have e0 : "list.append".cutAt '.'=["list", "append"]:=by first | rfl | decide +kernel
 refine substr e0 ?_;decide +kernel
theorem qlY:isSubtype (.type "list") (.type "list")=pure true:=by refine substr (isSubtype_type ..) ?_;kernel_rfl
noncomputable abbrev bapp(l:Addr):Obj:={ cls:=.type "builtin_function_or_method",data:=.fields #[.builtin "list.append",.ref l] }
section
variable{A:Around}{h:Heap}{g:Array GenState}{d:Drawn}{t:Nat}{os:OsState}{a:Addr}{o:Obj}
theorem qo2{R:Result->Shared->Prop}(hx:h.get? a=some o)(hc:o.cls=.type "list") (hq:R (.ok (.ret (.ref h.objs.size))) ⟨h.push (bapp a),g,d,t,os⟩):
 codeAny (model prog w) A (.call (.builtin "method_descriptor.__get__") ⟨[.builtin "list.append",.ref a,.type "list"],[]⟩) R ⟨h,g,d,t,os⟩:=by
 have hT:(⟨h,g,d,t,os⟩:Shared).TypeIs (.ref a) "list":=⟨_,hx,hc⟩
 have hT5:(⟨h,g,d,t,os⟩:Shared).TypeIs (.builtin "list.append") "method_descriptor":=F.type_list_append
 have f8:isSubtype (.type "list") (.type (".".intercalate ("list.append".cutAt '.').dropLast))=pure true:=by refine substr qkV ?_;exact qlY
 refine codeAny_call_builtin md_get.plain qlX (md_get.check _ _ _ _ _ _ _ _ hT5 (qo1 _ _ _) ?_)
 repeat (any_goals (first | assumption | wp_step))
theorem qlZ{tk:Tok}{vs:Array Value}{n:Nat}{Q:Fin->Shared->Prop}(hx:h.get? a=some { cls:=.type "list",data:=.seq vs n }) (hq:Q (.done (.ret (.ref h.objs.size))) ⟨h.push (bapp a),g,d,t,os⟩):
 wpAny (model prog w) A (Builtin.«object.__getattribute__» ⟨[.ref a,.str "append" tk],[]⟩) Q E ⟨h,g,d,t,os⟩:=by
 have hT:(⟨h,g,d,t,os⟩:Shared).TypeIs (.ref a) "list":=⟨_,hx,rfl⟩
 have hT5:(⟨h,g,d,t,os⟩:Shared).TypeIs (.builtin "list.append") "method_descriptor":=F.type_list_append
 have f4:=lk
 have f5:=F.type_list_append
 have f6:=md_get.lookup
 have f7:=qqy
 have f8:=qqz
 repeat (any_goals (first | assumption | wp_step))
 refine qo2 hx rfl ?_
 repeat (any_goals (first | assumption | wp_step))
theorem qo3{tk:Tok}{vs:Array Value}{n:Nat}{R:Result->Shared->Prop}(hx:h.get? a=some { cls:=.type "list",data:=.seq vs n }) (hq:R (.ok (.ret (.ref h.objs.size))) ⟨h.push (bapp a),g,d,t,os⟩):
 codeAny (model prog w) A (.call (.builtin "list.__getattribute__") ⟨[.ref a,.str "append" tk],[]⟩) R ⟨h,g,d,t,os⟩:=
 codeAny_call_builtin ga.plain qlW (ga.check _ _ _ _ _ _ _ _ (show(⟨h,g,d,t,os⟩:Shared).TypeIs (.ref a) "list" from⟨_,hx,rfl⟩) (qo0 _ _) (qlZ hx hq))
theorem by_{tk:Tok}{vs:Array Value}{n:Nat}{fill expr:Bool}{Q:Value->Shared->Prop}(hx:h.get? a=some { cls:=.type "list",data:=.seq vs n }) (hq:Q (.ref h.objs.size) ⟨h.push (bapp a),g,d,t,os⟩):
 wpAny (model prog w) A (getAttrBy (.ref a) (.str "append" tk) fill expr) Q E ⟨h,g,d,t,os⟩:=by
 have hT:(⟨h,g,d,t,os⟩:Shared).TypeIs (.ref a) "list":=⟨_,hx,rfl⟩
 have f2:=ga.lookup
 have f3:=ga.bind (.ref a)
 have hx0:(expr&&onTheHeap (Value.builtin "list.__getattribute__"))=false:=by cases expr<;>rfl
 repeat (any_goals (first | assumption | wp_step))
 refine qo3 hx ?_
 repeat (any_goals (first | assumption | wp_step))
theorem attr{vs:Array Value}{n:Nat}{expr:Bool}{Q:Value->Shared->Prop}(hx:h.get? a=some { cls:=.type "list",data:=.seq vs n }) (hq:Q (.ref h.objs.size) ⟨h.push (bapp a),g,d,t+1,os⟩):
 wpAny (model prog w) A (getAttr (.ref a) "append" expr) Q E ⟨h,g,d,t,os⟩:=by
 unfold getAttr
 repeat (any_goals (first | assumption | with_reducible apply by_ hx | wp_step))
end
end LA
end
section
namespace LA
theorem kind:builtinKind "list.append"=some .method:=by decide +kernel
theorem qqA:isSubtype (.type "list") (.type "module")=pure false:=by refine substr (isSubtype_type ..) ?_;kernel_rfl
theorem sub_lt:isSubtype (.type "list") (.type "type")=pure false:=by refine substr (isSubtype_type ..) ?_;kernel_rfl
section
variable{A:Around}{s:Shared}{l q:Addr}{v:Value}{vs:Array Value}
theorem qjT{Q:Unit->Shared->Prop}(hl:s.heap.get? l=some { cls:=.type "list",data:=.seq vs n }) (hq:Q () s):wpAny (model prog w) A (checkBoundCall "list.append" ⟨[.ref l,v],[]⟩) Q E s:=by
 obtain⟨hp,g,d,tk,os⟩:=s
 have hT:(⟨hp,g,d,tk,os⟩:Shared).TypeIs (.ref l) "list":=⟨_,hl,rfl⟩
 have f1:=kind
 have f2:=qqA
 have f3:=sub_lt
 unfold checkBoundCall
 repeat (any_goals (first | assumption | wp_step))
theorem call_bapp{Q:Value->Shared->Prop}(hq:s.heap.get? q=some (bapp l))(hl:s.heap.get? l=some { cls:=.type "list",data:=.seq vs n }) (hz:vs.size<=sizeLine) (h:Q .none { s with heap:=s.heap.update l (Obj.mapSeq (·.push v)) }):
 wpAny (model prog w) A (call (.ref q) [v]) Q E s:=by
 refine wpAny_call (codeAny_of_tree ?_)
 show wpAny _ _ (callAny (.ref q) ⟨[v],[]⟩) _ _ _
 unfold callAny
 refine wpAny_bind (wpAny_load hq ?_)
 show wpAny _ _ (checkBoundCall "list.append" ⟨[.ref l,v],[]⟩ >>= fun _=>again (.builtin "list.append" ⟨[.ref l,v],[]⟩)) _ _ s
 refine wpAny_bind (qjT hl ?_)
 refine wpAny_pure ⟨Code.quiet_builtin _ (by decide +kernel),codeAny_builtin entry_list_append ?_⟩
 show wpAny _ _ (updateSeq l (·.push v) >>= fun _=>ret .none) _ _ s
 refine wpAny_bind (wpAny_updateSeq hl rfl (wpAny_pure h) hz (by refine substr (Array.size_push ..) ?_;exact qnd hz))
end
end LA
theorem qyh{q l:Addr}(hh:∀ s M H',At D s M H'->s.heap.get? q=some (LA.bapp l)):qeh (model prog w) D (.ref q):=fun s M H hs=>
 (iEA .machine (.inr (.inl rfl)) ((Looks.ld (part:=none) (hh s M H hs)).andThen .now))
theorem qgR{x:Str}{p pos:Pos}{l:Addr}{xs:List Value}(h:WV (model prog w) D (eval (.Name x p) env) M H (fun v M1 H1=>v=.ref l/\H1 l=some (lst xs)/\∀ q,H1 q=none->Φ (.ref q) M1 (upd H1 q (.raw (LA.bapp l)))) E):
 WV (model prog w) D (eval (.Attribute (.Name x p) "append" pos) env) M H Φ E:=by
 intro s hs
 refine substr (arm_eval_Attribute ..) ?_
 refine wpAny_bind (m:=attributeBase (.Name x p) "append" env (eval (.Name x p) env)) (show wpAny _ _ (eval (.Name x p) env) _ _ _ from wpAny_mono (h s hs) (fun v s1 q'=>Post.el q' fun M1 H1 hs1 z'=>oAA z' fun hv hl k=>?_) fun _ _ x=>x)
 refine wpAny_bind (wpAny_standAt (wpAny_bind (wpAny_holding ?_)))
 refine substr (qz hv) ?_
 refine qau (hs1.own _ _ hl) fun _ _ us n e r=>?_
 obtain⟨hp,g,d,tk,os⟩:=s1
 refine LA.attr e ?_
 refine wpAny_bind (wpAny_of_eq (a:=()) rfl (wpAny_pure ?_))
 exact⟨M1,_,(hs1.alloc (o:=LA.bapp l) (d:=.raw (LA.bapp l)) rfl fun h e=>e).toks _,k _ hs1.fresh⟩
theorem qcE{q l:Addr}{xs:List Value}{p:Value}(hq:H q=some (.raw (LA.bapp l)))(hl:H l=some (lst xs))(hz:xs.length<=sizeLine)(h:Φ .none M (upd H l (lst (xs++[p])))):
 ∀ vs,vs.map norm=[p]->WV (model prog w) D (call (.ref q) ([]++vs)) M H Φ E:=by
 intro vs hvs s hs
 (refine oEA (nm1 hvs) fun u e1' hu=>?_;obtain rfl:=e1')
 refine qau (hs.own _ _ hl) fun _ _ us n e r=>?_
 have hsz:us.size=xs.length:=by refine substr r.symm ?_;simp
 refine LA.call_bapp (hs.own _ _ hq).2.2 e (qlB hz hsz) ⟨M,_,hs.seqSet hl e _ ?_,h⟩
 refine substr Array.toList_push (substr map_append (substr r (substr List.map_singleton (substr hu rfl))))
end
structure qo4(Mo:Model)(D:Dyn)(rest:List Stmt)(env:Env)(Φ:Flow->Loc->AH->Prop)(E:Value->Shared->Prop)(b:Bool)(M1:Loc)(H1:AH):Prop where
 e:b=true
 k:WS Mo D (execs rest env) M1 H1 Φ E
structure qqB(Mo:Model)(D:Dyn)(q l:Addr)(Φ:Value->Loc->AH->Prop)(E:Value->Shared->Prop)(ps:List Value)(M1:Loc)(H1:AH):Prop where
 h:H1 q=some (.raw (LA.bapp l))
 k:∀ vs,vs.map norm=ps->WV Mo D (call (.ref q) ([]++vs)) M1 H1 Φ E
theorem qdU{t:Expr}{msg:Option Expr}{pos:Pos}{rest:List Stmt}{Φ:Flow->Loc->AH->Prop}(h:WX (model prog w) D (isTrue t env (eval t env)) M H (qo4 (model prog w) D rest env Φ E) E):
 WS (model prog w) D (execs (.Assert t msg pos::rest) env) M H Φ E:=
 qam fun s hs=>wpAny_Assert_holds (wpAny_mono (h s hs) (fun b s1 ⟨M1,H1,hs1,hb,k⟩=>⟨hb,M1,H1,hs1,k⟩) fun _ _ x=>x)
theorem qqC{e:Expr}{pos:Pos}{Φ:Value->Loc->AH->Prop}(h:WV (model prog w) D (eval e env) M H (fun p M1 H1=>∃ x,p=S x/\x.length<=sizeLine/\Φ (S x) M1 H1) E):WV (model prog w) D (eval (.FormattedValue e (-1) none pos) env) M H Φ E:=
 fun s hs=>FormattedValue_plain (wpAny_mono (h s hs) (fun v s1 q'=>Post.el q' fun M1 H1 hs1 z'=>qbe z' fun x hv hz k=>by
  obtain⟨t,rfl⟩:=qH hv
  exact formatField_str (fun t' tk=>⟨M1,H1,hs1.toks _,k⟩) hz) fun _ _ x=>x)
theorem qeP(x:Str):Str.empty++x=x:=by
 show(⟨#[]++x.cps⟩:Str)=x
 refine substr Array.empty_append rfl
theorem qgS{e1 e2 e3:Expr}{pos:Pos}{Φ:Value->Loc->AH->Prop}
 (h:WV (model prog w) D (eval e1 env) M H (fun p M1 H1=>∃ x,p=S x/\x.length<=sizeLine/\WV (model prog w) D (eval e2 env) M1 H1 (fun p M2 H2=>∃ y,p=S y/\(x++y).length<=sizeLine/\WV (model prog w) D (eval e3 env) M2 H2 (fun p M3 H3=>∃ z,p=S z/\(x++y++z).length<=sizeLine/\Φ (S (x++y++z)) M3 H3) E) E) E):
 WV (model prog w) D (eval (.JoinedStr [e1,e2,e3] pos) env) M H Φ E:=
 fun s hs=>JoinedStr_many (joinParts_cons (wpAny_mono (h s hs) (fun v s1 q'=>Post.el q' fun M1 H1 hs1 z'=>qbe z' fun x hv hz h2=>by
  obtain⟨t,rfl⟩:=qH hv
  refine⟨by refine substr (qeP ..) ?_;exact hz,joinParts_cons (wpAny_mono (h2 s1 hs1) (fun v s2 q'=>Post.el q' fun M2 H2 hs2 z'=>qbe z' fun y hv hz h3=>?_) fun _ _ x=>x)⟩
  obtain⟨t,rfl⟩:=qH hv
  refine⟨by refine substr (qeP ..) ?_;exact hz,joinParts_cons (wpAny_mono (h3 s2 hs2) (fun v s3 q'=>Post.el q' fun M3 H3 hs3 z'=>qbe z' fun z hv hz k=>?_) fun _ _ x=>x)⟩
  obtain⟨t,rfl⟩:=qH hv
  refine⟨by refine substr (qeP ..) ?_;exact hz,?_⟩
  show wpAny _ _ (joinParts _ []) _ _ _
  refine substr (qeP ..) ?_
  exact joinParts_nil ⟨M3,H3,hs3.toks _,k⟩ hz) fun _ _ x=>x))
theorem qkW{x:Str}{Φ:Value->Loc->AH->Prop}(h:Φ (.bool true) M H):∀ vs,vs.map norm=[S x,.type "str"]->WV (model prog w) D (call (.builtin "isinstance") ([]++vs)) M H Φ E:=by
 intro vs hvs s hs
 (refine qR (nm2 hvs) fun v u e2' hv hu=>?_;obtain rfl:=e2')
 obtain⟨t,rfl⟩:=qH hv
 refine substr (qdc hu) ?_
 exact IsiPair.str_str ⟨M,H,hs,h⟩
theorem qcf{q l:Addr}{e:Expr}{args:List Expr}{pos pos':Pos}{Φ:Value->Loc->AH->Prop}
 (h:WSp (model prog w) D pos' (e::args) env M H (qqB (model prog w) D q l Φ E) E)
 (he:starEach (e::args) env=(false,eval e env)::starEach args env:=by rfl) (hplain:(backTo pos' (starEach args env)).any (·.1)=false:=by rfl):
 WV (model prog w) D (callWith pos (.ref q) [] (backTo pos' (starEach (e::args) env)) []) M H Φ E:=by
 intro s hs
 have key:=wpAny_mono (h s hs) (Q':=fun vs s₁=>(∃ k,(k=Keeper.frame\/k=Keeper.machine\/k=Keeper.boundFrame)/\Looks (model prog w) s₁.heap (keeperOf (.ref q)) k)/\wpAny (model prog w) D.A (call (.ref q) ([]++vs)) (Post D (fun v=>Φ (norm v))) E s₁)
  (fun vs s1 ⟨M1,H1,hs1,hq,h1⟩=>⟨(iEA .machine (.inr (.inl rfl)) ((Looks.ld (part:=none) (hs1.own _ _ hq).2.2).andThen .now)),h1 vs rfl s1 hs1⟩) fun _ _ x=>x
 rw[he] at key ⊢
 refine callWith_of (P:=fun h=>∃ k,(k=Keeper.frame\/k=Keeper.machine\/k=Keeper.boundFrame)/\Looks (model prog w) h (keeperOf (.ref q)) k) ?_ (fun h k=>k) (Calls.evalArgs_plain key)
 show((false||(backTo pos' (starEach args env)).any (·.1))||false)=false
 refine substr hplain ?_;rfl
theorem qc4{test:Expr}{body rest:List Stmt}{pos:Pos}{Φ:Flow->Loc->AH->Prop}(J:Nat->Loc->AH->Prop)(P:Loc->AH->Prop){n:Nat}(h0:J n M H)
 (step:∀ n M H,J n M H->WX (model prog w) D (isTrue test env (eval test env)) M H (fun b M1 H1=>
  (b=true->WS (model prog w) D (execs body env) M1 H1 (TurnEnd (qjG P) (LtJ n J)) NoE)/\(b=false->P M1 H1)) NoE)
 (fin:∀ M H,P M H->WS (model prog w) D (execs rest env) M H Φ E):
 WS (model prog w) D (execs (.While test body [] pos::rest) env) M H Φ E:=
 qeM J h0 fun n M H hj=>qM (step n M H hj) fun b M1 H1 k=>⟨fun hb=>qM (k.1 hb) fun f M2 H2 h2=>qa9 (fun f M H q=>by obtain⟨rfl,hp⟩:=q;exact fin M H hp) (fun _ _ x=>x) h2,fun hb=>fin _ _ (k.2 hb)⟩
section
open PySem PySem.W PyProof.Rows PySem.SeqAt
set_option compiler.extract_closed false
set_option hygiene false
local macro_rules | `(tactic| walk_at "a")=>`(tactic| with_reducible assumption)
local macro_rules | `(tactic| walk_at "p")=>`(tactic| (walk_at "a";walk_at "a";rfl))
local macro_rules | `(tactic| walk_at "q")=>`(tactic| (walk_at "a";rfl;(first | rfl | walk_at "a");walk_at "h"))
local macro_rules | `(tactic| walk_at "l")=>`(tactic| first
 | with_reducible exact qbj
 | (with_reducible apply qbm);(with_unfolding_all exact Eq.refl false);with_reducible walk_at "l"
 | walk_at "a"
 | rfl)
local macro_rules | `(tactic| walk_at "e")=>`(tactic| first
 | walk_at "a"
 | apply qG;walk_at "a";walk_at "h")
local macro_rules | `(tactic| walk_at "h")=>`(tactic| first
 | walk_at "a"
 | exact upd_same
 | apply qx;walk_at "a";walk_at "h"
 | refine(qe ?_).trans ?_;(first | walk_at "e" | apply Ne.symm;walk_at "e");walk_at "h"
 | refine(by assumption:Sub _ _) _ _ ?_;walk_at "h")
local macro_rules | `(tactic| walk_at "n")=>`(tactic| first
 | apply qbQ;walk_at "p";walk_at "l"
 | apply qoQ;walk_at "p";walk_at "h";walk_at "l"
 | apply qoR;walk_at "p";rfl
 | apply qqn;walk_at "p";rfl
 | apply qoS;walk_at "q";rfl
 | apply qoT;walk_at "q")
local macro_rules | `(tactic| walk_at "s")=>`(tactic| first
 | apply st1;walk_at "p"
 | apply stc;walk_at "p";walk_at "h"
 | apply qqo;walk_at "q")
local macro_rules | `(tactic| walk_at "k")=>`(tactic| first
 | exact Kp.refl
 | assumption
 | (refine Kp.new ?_ (by walk_at "a");walk_at "k")
 | (refine Kp.at ?_ (by first | rfl | exact Or.inl rfl | exact Or.inr rfl);walk_at "k"))
local macro_rules | `(tactic| walk_at "d")=>`(tactic| first
 | apply qfe;walk_at "p";walk_at "l"
 | apply qiD;walk_at "p";walk_at "h";walk_at "l"
 | apply qiF;walk_at "q";rfl
 | apply qiE;walk_at "q")
local macro_rules | `(tactic| walk_at "c")=>`(tactic| (refine qF ?_;walk_at "n";refine qY (qp qu (qd ?_));walk_at "n";refine qi ?_))
local macro_rules | `(tactic| walk_at "b")=>`(tactic| first
 | exact Sub.refl
 | walk_at "a"
 | (refine Sub.new ?_ (by walk_at "a");walk_at "b"))
section
noncomputable abbrev qC(c:Nat):Str:=⟨#[c]⟩
noncomputable def qcH(r m:Str):List (Nat×Nat):=r.cps.toList.zip m.cps.toList
noncomputable def clashes(r m:Str):List Str:=((qcH r m).filter fun p=>!([qC 63,qC p.2].any (·==qC p.1))).map fun p=>qC p.1
theorem qhT(r m:Str):(qcH r m).length=min r.cps.size m.cps.size:=by simp[qcH]
theorem qhU{r m:Str}{k:Nat}{c d:Nat}(h1:r.cps[k]?=some c)(h2:m.cps[k]?=some d):(qcH r m)[k]?=some (c,d):=by
 unfold qcH
 refine substr (propext List.getElem?_zip_eq_some) ?_
 exact⟨by simpa using h1,by simpa using h2⟩
theorem qc5{α β:Type}{l:List α}{f:α->Bool}{g:α->β}{k:Nat}{x:α}(h:l[k]?=some x)(hf:f x=true):((l.take (k+1)).filter f).map g=((l.take k).filter f).map g++[g x]:=by
 refine substr List.take_add_one (substr h ?_)
 simp[hf]
theorem qcI{α β:Type}{l:List α}{f:α->Bool}{g:α->β}{k:Nat}{x:α}(h:l[k]?=some x)(hf:f x=false):((l.take (k+1)).filter f).map g=((l.take k).filter f).map g:=by
 refine substr List.take_add_one (substr h ?_)
 simp[hf]
theorem ql0(ok:Ok (KF w.params) glob q7 D (n+1))(hn:8<=n){r m:Str}(hr:∀ x∈clashes r m,PyData.strOk x=true)(hs1:r.cps.size<=1000000)(h:Φ (.bool (decide (clashes r m=[]))) M H):
 ∀ vs,vs.map norm=[S r,S m]->WV (model prog w) D (call (.ref 274) vs) M H Φ E:=by
 refine qba ok (by rfl) (by rfl) ["row", "name"] [("row",.local),("name",.local),("zip",.globalImplicit)] ?hb (by rfl) (by rfl) (by decide) (by decide) (by rfl) ?_
 case hb=>intro vs h;(refine oEE (ex2 h) fun a b e2'=>?_;obtain rfl:=e2');rfl
 intro D' env ok' ke hl hf
 have hu:D'.A.units+64<cLine:=by have:=ok'.units;exact qpW hn this
 refine qaw (qcx ?_)
 refine qa4 (n:=min r.cps.size m.cps.size) (fr:=fun _=>False) (fun k=>(((qcH r m).take k).filter fun p=>!([qC 63,qC p.2].any (·==qC p.1))).map fun p=>S (qC p.1)) [(".0",.local),("mark",.local),("sign",.local)] ke (qat (ks0:=[(".0",.local),("mark",.local),("sign",.local)]) (by rfl) (by decide)) (by rfl) (by decide) (by decide) (by decide)
  (qc3 ok'.hand (by
   walk_at "n"
   refine⟨rfl,?_⟩
   walk_at "n"
   refine⟨rfl,?_⟩
   walk_at "n"
   exact⟨rfl,rfl,Sub.refl,qdD ok'.hand,qdD ok'.hand,fun _ h=>by simp at h⟩) rfl) (qy0 hs1) (by rfl) ?_ ?_
 ·intro k Hc Lc Mc v hk hS hLc hnL cenv cke hcl hcc z1
  refine qaC z1 fun T p q hv hT z2 z3=>oEA z2 fun c hc hp=>oEA z3 fun d hd hq=>?_
  subst hp hq
  have hz:=qhU hc hd
  refine qbP (D:=D') ok'.hand hT ?_ _ hv
  refine qj ?_;walk_at "s"
  refine qj ?_;walk_at "s"
  refine qN ?_
  refine qcP (qO ?_)
  walk_at "n"
  refine qaa (qd (qQ (qd ?_)))
  walk_at "n"
  refine qi ⟨qJ rfl,fun t ht=>?_⟩
  refine qfh (ys:=[Str.ofString "?",qC d]) upd_same (asB ⟨fun hb=>?_,fun hb=>?_⟩)
  ·walk_at "n"
   exact⟨rfl,by walk_at "k",⟨_,by walk_at "h"⟩,qc5 hz hb⟩
  ·exact⟨rfl,by walk_at "k",⟨_,by walk_at "h"⟩,qcI hz hb⟩
 ·intro acc hacc
  refine qae (qi ⟨qJ rfl,fun r2 hr2=>?_⟩)
  refine qkK (xs:=clashes r m) (ys:=[]) ?_ upd_same hr (fun _ h=>by simp at h) hu ⟨H,(Sub.new (Sub.upd hacc) hr2),h⟩
  refine(qx hr2 (by refine substr upd_same rfl)).trans ?_
  refine substr (List.take_of_length_le (by refine substr (qhT ..) ?_;exact Nat.le_refl _)) ?_
  unfold clashes;refine substr map_map ?_;rfl
end
noncomputable def qdj:List (Nat×Nat)->Str->Str
 | [],acc=>acc
 | p::r,acc=>if (qC p.1 != Str.ofString "?" && !([Str.ofString "?",qC p.1].any (·==qC p.2)))=true then Str.ofString "" else qdj r (acc++(if (qC p.1==Str.ofString "?")=true then qC p.2 else qC p.1))
theorem qgs{p:Nat×Nat}{r:List (Nat×Nat)}{acc:Str}:qdj (p::r) acc=if (qC p.1 != Str.ofString "?" && !([Str.ofString "?",qC p.1].any (·==qC p.2)))=true then Str.ofString "" else qdj r (acc++(if (qC p.1==Str.ofString "?")=true then qC p.2 else qC p.1)):=rfl
noncomputable def qbR(a b:Str):Str:=qdj (qcH a b) (Str.ofString "")
theorem qap{α:Type}{l:List α}{k:Nat}{x:α}(h:l[k]?=some x):l.drop k=x::l.drop (k+1):=by
 obtain⟨hk,rfl⟩:=List.getElem?_eq_some_iff.mp h
 exact List.drop_eq_getElem_cons hk
inductive qqD(H:AH)(t:Str)(zs:List (Nat×Nat))(k:Nat)(M:Loc)(Hk:AH):Prop
 | mk(hH:Hk=H)(acc:Str)(l:acc.length<=k)(m:look "met" M=some (S acc)) (e:t=qdj (zs.drop k) acc)
theorem qqE(ok:Ok (KF w.params) glob q7 D (n+1)){a b:Str}(ha:a.cps.size<=1000)(hb:b.cps.size<=1000)(h:Φ (S (qbR a b)) M H):
 ∀ vs,vs.map norm=[S a,S b]->WV (model prog w) D (call (.ref 257) vs) M H Φ E:=by
 refine qba ok (by rfl) (by rfl) ["first", "second"] [("first",.local),("second",.local),("met",.local),("one",.local),("other",.local),("zip",.globalImplicit)] ?hb (by rfl) (by rfl) (by decide) (by decide) (by rfl) ?_
 case hb=>intro vs h;(refine oEE (ex2 h) fun a b e2'=>?_;obtain rfl:=e2');rfl
 intro D' env ok' ke hl hf
 refine qI (qQ ?_)
 walk_at "s"
 refine qdG (n:=min a.cps.size b.cps.size) (fr:=fun _=>False) (fun _=>False) (qqD H (qbR a b) (qcH a b))
  (qc3 ok'.hand (by
   walk_at "n"
   refine⟨rfl,?_⟩
   walk_at "n"
   refine⟨rfl,?_⟩
   walk_at "n"
   exact(qea rfl rfl Sub.refl (qdD ok'.hand) (qdD ok'.hand) (fun _ h=>by simp at h))) rfl) (fun _ h=>h.elim) ⟨rfl,_,Nat.le_refl _,by walk_at "l",rfl⟩ ?_ ?_
 ·rintro k M' Hk Hc v hk ⟨rfl,acc,hal,hacc,hm⟩ hS ⟨T,p,q,hv,hT,⟨c,hc,hp⟩,⟨d,hd,hq⟩⟩
  subst hp hq
  have hz:=qhU hc hd
  rw[qap hz] at hm
  rw[qgs] at hm
  refine qbP (D:=D') ok'.hand hT ?_ _ hv
  refine qj ?_;walk_at "s"
  refine qj ?_;walk_at "s"
  refine qN ?_
  have fin:(qC c != Str.ofString "?" && !([Str.ofString "?",qC c].any (·==qC d)))=false->∀ Hx,Sub Hc Hx->WS (model prog w) D' (execs [Stmt.AugAssign (.Name (Str.ofString "met") { line:=311,col:=8,endLine:=311,endCol:=11 }) .Add (.IfExp (.Compare (.Name (Str.ofString "one") { line:=311,col:=24,endLine:=311,endCol:=27 }) [.Eq] [.Constant (.str (Str.ofString "?")) 0 { line:=311,col:=31,endLine:=311,endCol:=34 }] { line:=311,col:=24,endLine:=311,endCol:=34 }) (.Name (Str.ofString "other") { line:=311,col:=15,endLine:=311,endCol:=20 }) (.Name (Str.ofString "one") { line:=311,col:=40,endLine:=311,endCol:=43 }) { line:=311,col:=15,endLine:=311,endCol:=43 }) { line:=311,col:=8,endLine:=311,endCol:=43 }] env) (put "other" (S (qC d)) (put "one" (S (qC c)) M')) Hx (TurnEnd (fun _ _ _=>False) (TE (Kp (fun _=>False) Hc) Hc Hk (qqD Hk (qbR a b) (qcH a b) (k+1)))) NoE:=by
   intro hno Hx hSx
   rw[if_neg (by refine substr hno ?_;decide)] at hm
   refine qbs (by walk_at "d") ?_
   refine qdA (qO ?_)
   walk_at "n"
   refine qQ ?_
   have e1:∀ x:Nat,(qC x).length=1:=fun _=>rfl
   have e2:∀ x:Nat,acc.length+1<=sizeLine:=fun _=>by
    have:(2000:Nat)<=sizeLine:=by decide
    exact qsq hb hk hal this
   have e3:∀ x:Nat,(acc++qC x).length<=k+1:=fun x=>by refine substr (Str.length_append ..) (substr (e1 ..) ?_);exact qnd hal
   refine qb5 (asB ⟨fun hb=>?_,fun hb=>?_⟩)
   ·rw[if_pos hb] at hm
    walk_at "n"
    refine qiK (by refine substr (e1 ..) ?_;exact e2 0) ?_
    walk_at "s"
    refine qy ⟨Kp.sub hSx,Hk,hS.trans hSx,fun a d e=>.inl ⟨_,e⟩,rfl,_,e3 _,by walk_at "l",hm⟩
   ·rw[if_neg (by refine substr hb ?_;decide)] at hm
    walk_at "n"
    refine qiK (by refine substr (e1 ..) ?_;exact e2 0) ?_
    walk_at "s"
    refine qy ⟨Kp.sub hSx,Hk,hS.trans hSx,fun a d e=>.inl ⟨_,e⟩,rfl,_,e3 _,by walk_at "l",hm⟩
  refine qbp (qdz (qaG (qO ?_)))
  walk_at "n"
  refine qQ (qxi (asB ⟨fun hb=>?_,fun hb=>?_⟩))
  ·refine qaG (qO ?_)
   walk_at "n"
   refine qaa (qd (qQ (qd ?_)))
   walk_at "n"
   refine qi ⟨qJ rfl,fun t ht=>?_⟩
   refine qfh (ys:=[Str.ofString "?",qC c]) upd_same (asB ⟨fun hb2=>qcN ⟨fun _=>?_,fun h=>by cases h⟩,fun hb2=>⟨fun h=>(by cases h),fun _=>?_⟩⟩)
   ·rw[if_pos (by refine substr hb (substr hb2 ?_);rfl)] at hm
    refine qaw (qQ ?_)
    refine⟨Hk,hS.trans (Sub.upd ht),?_⟩
    show Φ (S (Str.ofString "")) M Hk
    refine substr hm.symm ?_;exact h
   ·refine qy ?_
    exact qM (fin (by refine substr hb (substr hb2 ?_);rfl) _ (Sub.upd ht)) fun f M5 H5 h5=>qa9 (fun _ _ _ x=>x.elim) (fun _ _ x=>x) h5
  ·refine⟨fun h=>(by cases h),fun _=>qy ?_⟩
   exact qM (fin (by refine substr hb ?_;rfl) _ Sub.refl) fun f M5 H5 h5=>qa9 (fun _ _ _ x=>x.elim) (fun _ _ x=>x) h5
 ·rintro M' Hk ⟨rfl,acc,hal,hacc,hm⟩
  rw[List.drop_eq_nil_of_le (by refine substr (qhT ..) ?_;exact Nat.le_refl _)] at hm
  refine qaw ?_
  walk_at "n"
  exact iEA Hk Sub.refl (by show Φ (S acc) M Hk;refine substr (show acc=qbR a b from hm.symm) ?_;exact h)
noncomputable def qm:Str:=Str.ofString "?"
noncomputable def qbL(row:Str):Str:=((Txt.split row qm)[0]?).getD (Str.ofString "")
noncomputable def qeQ(row:Str):Str:=Txt.lstripChars (Txt.slice row (some ((qbL row).length:Int)) none) qm
noncomputable def qer(row:Str):Str:=Txt.slice row (some ((qbL row).length:Int)) (some ((row.length:Int)-((qeQ row).length:Int)))
noncomputable def mid(row:Str)(d:Nat):Str:=([qer row,Str.ofString "*",Str.ofString "?**",Str.ofString "*?*"][d]?).getD (Str.ofString "")
noncomputable def qbS(row:Str)(d:Nat):Str:=if (((qer row).length:Int) != 0)=true then qbL row++mid row d++qeQ row else row
theorem qkX(x y:Str)(h:x.length<=1000):(Txt.lstripChars x y).length<=x.length:=len_lstripChars x y
theorem lt4{P:Nat->Prop}{d:Nat}(h:d<4)(h0:P 0)(h1:P 1)(h2:P 2)(h3:P 3):P d:=by
 match d,h with
 | 0,_=>exact h0
 | 1,_=>exact h1
 | 2,_=>exact h2
 | 3,_=>exact h3
theorem qqF{row:Str}{d:Nat}(hd:d<4)(hr:row.length<=1000):(mid row d).length<=1000/\[S (qer row),S (Str.ofString "*"),S (Str.ofString "?**"),S (Str.ofString "*?*")][d]?=some (S (mid row d)):=by
 have hrun:(qer row).length<=1000:=Nat.le_trans (Txt.slice_le _ _ _) hr
 unfold mid
 generalize qer row=x at hrun ⊢
 refine lt4 (P:=fun d=>([x,Str.ofString "*",Str.ofString "?**",Str.ofString "*?*"][d]?.getD (Str.ofString "")).length<=1000/\[S x,S (Str.ofString "*"),S (Str.ofString "?**"),S (Str.ofString "*?*")][d]?=some (S ([x,Str.ofString "*",Str.ofString "?**",Str.ofString "*?*"][d]?.getD (Str.ofString "")))) hd ?_ ?_ ?_ ?_
 ·exact⟨hrun,rfl⟩
 ·exact⟨by show(Str.ofString "*").length<=1000;decide +kernel,rfl⟩
 ·exact⟨by show(Str.ofString "?**").length<=1000;decide +kernel,rfl⟩
 ·exact⟨by show(Str.ofString "*?*").length<=1000;decide +kernel,rfl⟩
theorem qbT{d n:Nat}(h:d<n):seqIndex? (d:Int) n=some d:=by
 unfold seqIndex?
 simp
 omega
theorem qjU(ok:Ok (KF w.params) glob q7 D (n+1)){row:Str}{d:Nat}(hr:row.length<=1000)(hs:0<(Txt.split row qm).length)(hh:(qbL row).length<=1000)(hd:d<4)(h:Φ (S (qbS row d)) M H):
 ∀ vs,vs.map norm=[S row,I d]->WV (model prog w) D (call (.ref 250) vs) M H Φ E:=by
 refine qba ok (by rfl) (by rfl) ["row", "dress"] [("row",.local),("dress",.local),("head",.local),("rest",.local),("run",.local),("len",.globalImplicit)] ?hb (by rfl) (by rfl) (by decide) (by decide) (by rfl) ?_
 case hb=>intro vs h;(refine oEE (ex2 h) fun a b e2'=>?_;obtain rfl:=e2');rfl
 intro D' env ok' ke hl hf
 have big:(10000:Nat)<=sizeLine:=by decide
 have b63:(10000:Nat)<2^63:=by decide
 have hrest:(qeQ row).length<=row.length:=Nat.le_trans (qkX _ _ (Nat.le_trans (Txt.slice_le _ _ _) hr)) (Txt.slice_le _ _ _)
 have hrun:(qer row).length<=row.length:=Txt.slice_le _ _ _
 refine qI (qW (qcc F.slot_str_split F.type_str_split ?_))
 walk_at "n"
 refine⟨_,rfl,fun v hv=>qp qu (qd (qQ (qi ?_)))⟩
 refine m_split (y:=qm) (by decide) (qsz hr big) (fun r hr'=>?_) v hv
 refine qw (qb0 upd_same (by decide) (by decide) (p:=S (qbL row)) ?_ ?_)
 ·unfold qbL
  refine substr getElem?_map ?_
  cases hq:Txt.split row qm with
  | nil=>rw[hq] at hs;simp at hs
  | cons a r=>rfl
 walk_at "s"
 refine qI (qcc F.slot_str_lstrip F.type_str_lstrip (qW ?_))
 walk_at "n"
 refine qaN (qaj ?_)
 walk_at "c"
 refine qb2 (qbr hh) (qcd ?_)
 refine qbX (lo:=some ((qbL row).length:Int)) (hi:=none) (qjm hr big) ⟨_,rfl,fun v hv=>qp qu (qd (qQ (qi ?_)))⟩
 refine m_lstrip (z:=qm) (Nat.le_trans (Txt.slice_le _ _ _) (qjm hr big)) ?_ v hv
 walk_at "s"
 refine qI (qW ?_)
 walk_at "n"
 refine qaN (qaj ?_)
 walk_at "c"
 refine qb2 (qbr hh) (qaj (qK ?_))
 walk_at "c"
 refine qb2 (qbr hr) ?_
 walk_at "c"
 refine qb2 (x:=qeQ row) (qng hr hrest) (qjE ?_)
 refine qbX (lo:=some ((qbL row).length:Int)) (hi:=some ((row.length:Int)-((qeQ row).length:Int))) (qjm hr big) ?_
 walk_at "s"
 refine qaw (qdA (qao ?_))
 walk_at "n"
 refine qom (x:=qer row) (qng hr hrun) ⟨fun hb=>?_,fun hb=>?_⟩
 ·refine qK (qK ?_)
  walk_at "n"
  refine qW (qaa (qd ?_))
  walk_at "n"
  refine qd (qQ (qd (qQ (qd (qQ (qi ⟨qJ rfl,fun t ht=>?_⟩))))))
  walk_at "n"
  have hml:=qqF (row:=row) hd hr
  have q1 : -(2^63)<=(d:Int):=qjn
  have q2:(d:Int)<2^63:=qsA hd
  refine qoj (xs:=[S (qer row),S (Str.ofString "*"),S (Str.ofString "?**"),S (Str.ofString "*?*")]) (k:=(d:Int)) (j:=d) (p:=S (mid row d)) upd_same q1 q2 (qbT hd) hml.2 ?_
  refine qfG (qsB hh big hml.1) ?_
  walk_at "n"
  refine qfG (y:=qeQ row) (by rw[Str.length_append];exact qsC hr hh big hrest hml.1) ?_
  refine(iEA H ?_ ?_)
  ·walk_at "b"
  ·show Φ (S _) M H
   unfold qbS at h
   rw[if_pos hb] at h
   exact h
 ·walk_at "n"
  refine(iEA H ?_ ?_)
  ·walk_at "b"
  ·show Φ (S _) M H
   unfold qbS at h
   rw[if_neg (by rw[hb];decide)] at h
   exact h
noncomputable def emp:Str:=Str.ofString ""
noncomputable def qfk(piece:List Str)(t:Str):List Str:=((piece.zip t.cps.toList).filter fun p=>!([emp,qC p.2].any (·==p.1))).map (·.1)
noncomputable def qbn(piece:List Str)(name:Str)(place:Nat):Bool:=if name.length<place+piece.length then false else decide (qfk piece (Txt.slice name (some (place:Int)) none)=[])
theorem qzD{α β:Type}{a:List α}{b:List β}{k:Nat}{c:α}{d:β}(h1:a[k]?=some c)(h2:b[k]?=some d):(a.zip b)[k]?=some (c,d):=by
 refine substr (propext List.getElem?_zip_eq_some) ?_;exact⟨h1,h2⟩
theorem qai{α β:Type}{f:α->β}{l:List α}{k:Nat}{b:β}(h:(l.map f)[k]?=some b):∃ a,l[k]?=some a/\f a=b:=by
 rw[getElem?_map] at h
 cases hq:l[k]? with
 | none=>rw[hq] at h;exact o_ns h
 | some a=>rw[hq] at h;exact⟨a,rfl,by simpa using h⟩
theorem qo5{H:AH}{l:Addr}{xs ys:List Value}(h:H l=some (lst xs))(k:H l=some (lst ys)):xs=ys:=by
 rw[h] at k;injection k with k;injection k
theorem qgt(ok:Ok (KF w.params) glob q7 D (n+1))(hn:8<=n){l:Addr}{piece:List Str}{name:Str}{place:Nat}(hl:H l=some (lst (piece.map S)))(hp:piece.length<=1000)(hm:name.length<=1000)(hpl:place<=10000)
 (hs:∀ x∈piece,PyData.strOk x=true) (h:Φ (.bool (qbn piece name place)) M H):
 ∀ vs,vs.map norm=[.ref l,S name,I place]->WV (model prog w) D (call (.ref 231) vs) M H Φ E:=by
 refine qba ok (by rfl) (by rfl) ["piece", "name", "place"] [("piece",.local),("name",.local),("place",.local),("len",.globalImplicit),("zip",.globalImplicit)] ?hb (by rfl) (by rfl) (by decide) (by decide) (by rfl) ?_
 case hb=>intro vs h;(refine qd9 (ex3 h) fun a b c e3'=>?_;obtain rfl:=e3');rfl
 intro D' env ok' ke hlo hf
 have hu:D'.A.units+64<cLine:=by have:=ok'.units;exact qpW hn this
 have big:(100000:Nat)<=sizeLine:=by decide
 have b63:(100000:Nat)<2^63:=by decide
 have hml:(piece.map S).length=piece.length:=length_map ..
 refine qbp (qO (qK ?_))
 walk_at "n"
 walk_at "c"
 refine qbl hl (qnh hp hml) (qcO ?_)
 walk_at "c"
 refine qb2 (qbr hm) (qqc (asB ⟨fun hb=>?_,fun hb=>?_⟩))
 ·rw[hml] at hb
  refine qaw (qcb ⟨H,Sub.refl,?_⟩)
  have e:qbn piece name place=false:=by unfold qbn;refine substr (if_pos (by have:=of_decide_eq_true hb;exact qsD this)) rfl
  rw[e] at h;exact h
 ·rw[hml] at hb
  have e:qbn piece name place=decide (qfk piece (Txt.slice name (some (place:Int)) none)=[]):=by unfold qbn;refine substr (if_neg (by have:=of_decide_eq_false hb;exact qsE this)) rfl
  rw[e] at h
  have hsl:(Txt.slice name (some (place:Int)) none).length<=1000:=Nat.le_trans (Txt.slice_le _ _ _) hm
  generalize ht:Txt.slice name (some (place:Int)) none=t at h hsl
  refine qbG (qaw (qcx ?_))
  refine qa4 (n:=min (piece.map S).length t.cps.size) (fr:=fun a=>a=l) (fun k=>(((piece.zip t.cps.toList).take k).filter fun p=>!([emp,qC p.2].any (·==p.1))).map fun p=>S p.1) [(".0",.local),("sign",.local),("found",.local)] ke (qat (ks0:=[(".0",.local),("sign",.local),("found",.local)]) (by rfl) (by decide)) (by rfl) (by decide) (by decide) (by decide)
   (qc3 ok'.hand (by
    walk_at "n"
    refine⟨rfl,?_⟩
    walk_at "n"
    refine⟨rfl,qW ?_⟩
    walk_at "n"
    refine qaN (qaj ?_)
    walk_at "n"
    refine qcd ?_
    refine fun r hr v u hv hu'=>qog (qbX (lo:=some (place:Int)) (hi:=none) (qfB hm big) (Φ:=fun q' M1 H1=>q'=S t/\M1=_/\Sub H H1/\Src prog w D' H1 (.ref l) _ _ _ _/\Src prog w D' H1 (S t) _ _ _ _/\_) ?_ r hr v u hv hu') Sub.refl
    refine substr ht ?_
    exact⟨rfl,rfl,Sub.refl,qbA ok'.hand hl,qdD ok'.hand,fun a ha=>.inr (by simpa using ha)⟩) rfl) (qsF hp hml) (by rfl) ?_ ?_
  ·intro k Hc Lc Mc v hk hS hLc hnL cenv cke hcl hcc z1
   refine qaC z1 fun T p q hv hT z2 z3=>oEA z2 fun ys hys hc=>oEA z3 fun d hd hq=>?_
   have eys:=qo5 hys (hS _ _ hl)
   subst eys hq
   (refine oEA (qai hc) fun c hc' e2'=>?_;obtain rfl:=e2')
   have hz:(piece.zip t.cps.toList)[k]?=some (c,d):=qzD hc' (by simpa using hd)
   refine qbP (D:=D') ok'.hand hT ?_ _ hv
   refine qj ?_;walk_at "s"
   refine qj ?_;walk_at "s"
   refine qN ?_
   refine qcP (qO ?_)
   walk_at "n"
   refine qaa (qd (qQ (qd ?_)))
   walk_at "n"
   refine qi ⟨qJ rfl,fun t ht=>?_⟩
   refine qfh (ys:=[emp,qC d]) upd_same (asB ⟨fun hb=>?_,fun hb=>?_⟩)
   ·walk_at "n"
    exact⟨rfl,by walk_at "k",⟨_,by walk_at "h"⟩,qc5 hz hb⟩
   ·exact⟨rfl,by walk_at "k",⟨_,by walk_at "h"⟩,qcI hz hb⟩
  ·intro acc hacc
   refine qae (qi ⟨qJ rfl,fun r2 hr2=>?_⟩)
   have hbad:∀ x∈qfk piece t,PyData.strOk x=true:=fun x hx=>by
    unfold qfk at hx
    (refine oEA (List.mem_map.mp hx) fun p hp e2'=>?_;obtain rfl:=e2')
    exact hs _ (List.of_mem_zip (List.mem_filter.mp hp).1).1
   refine qkK (xs:=qfk piece t) (ys:=[]) ?_ upd_same hbad (fun _ h=>by simp at h) hu ⟨H,(Sub.new (Sub.upd hacc) hr2),h⟩
   refine(qx hr2 (by refine substr upd_same rfl)).trans ?_
   refine substr (List.take_of_length_le (by simp)) ?_
   unfold qfk;refine substr map_map ?_;rfl
noncomputable def PAt(H:AH)(L:Addr)(ps:List (List Str)):Prop:=∃ as:List Addr,H L=some (lst (as.map Value.ref))/\as.length=ps.length/\∀(k:Nat) (a:Addr) (p:List Str),as[k]?=some a->ps[k]?=some p->H a=some (lst (p.map S))
noncomputable def qb6(piece:List Str)(name:Str):Nat->Nat->Nat
 | 0,p=>p
 | f+1,p=>if (decide (p<=name.length)&&!qbn piece name p)=true then qb6 piece name f (p+1) else p
noncomputable def qdk(name:Str)(ps:List (List Str))(p:Nat):Nat:=ps.foldl (fun pl q=>qb6 q name (name.length+1-pl) pl+q.length) p
noncomputable def qcp(ps:List (List Str)):List Str:=(ps[ps.length-1]?).getD []
noncomputable def qbb(ps:List (List Str))(name:Str):Bool:=
 let p0:=(ps[0]?).getD []
 if qbn p0 name 0=false then false else
 if ps.length=1 then decide (p0.length=name.length) else
 let place:=qdk name ((ps.drop 1).take (ps.length-1-1)) p0.length
 if ((name.length:Int)-((qcp ps).length:Int)<(place:Int)) then false else qbn (qcp ps) name (name.length-(qcp ps).length)
theorem PAt.sub{H H':AH}{L:Addr}{ps:List (List Str)}(h:PAt H L ps)(s:Sub H H'):PAt H' L ps:=by
 refine qbe h fun as h1 h2 h3=>?_
 exact⟨as,s _ _ h1,h2,fun k a p q r=>s _ _ (h3 k a p q r)⟩
theorem qgu{piece:List Str}{name:Str}{f p:Nat}:qb6 piece name (f+1) p=if (decide (p<=name.length)&&!qbn piece name p)=true then qb6 piece name f (p+1) else p:=rfl
theorem qkY{piece:List Str}{name:Str}{p:Nat}(h:p<=name.length)(hf:qbn piece name p=false):qb6 piece name (name.length+1-p) p=qb6 piece name (name.length+1-(p+1)) (p+1):=by
 have:name.length+1-p=(name.length+1-(p+1))+1:=by exact qni h
 rw[this,qgu,if_pos (by simp[h,hf])]
theorem qjV{piece:List Str}{name:Str}{p:Nat}(h:¬ p<=name.length):qb6 piece name (name.length+1-p) p=p:=by
 have:name.length+1-p=0:=by exact qsG h
 rw[this];rfl
theorem qjW{piece:List Str}{name:Str}{p:Nat}(h:p<=name.length)(hf:qbn piece name p=true):qb6 piece name (name.length+1-p) p=p:=by
 have:name.length+1-p=(name.length+1-(p+1))+1:=by exact qni h
 rw[this,qgu,if_neg (by simp[hf])]
inductive TkO(name:Str)(L:Addr)(H:AH)(ms:List (List Str))(t:Nat)(k:Nat)(M:Loc)(Hk:AH):Prop
 | mk(hH:Hk=H)(pl:Nat)(k1:look "place" M=some (I pl)) (k2:look "name" M=some (S name)) (k3:look "pieces" M=some (.ref L)) (k4:t=qdk name (ms.drop k) pl)
inductive TkI(name:Str)(L a:Addr)(Hc:AH)(q:List Str)(s:Nat)(m:Nat)(M:Loc)(H2:AH):Prop
 | mk(hH:H2=Hc)(pl:Nat)(hm:m=name.length+1-pl)(k1:look "place" M=some (I pl)) (k2:look "name" M=some (S name)) (k3:look "pieces" M=some (.ref L)) (k4:look "piece" M=some (.ref a)) (k5:s=qb6 q name (name.length+1-pl) pl)
theorem ql1(ok:Ok (KF w.params) glob q7 D (n+2))(hn:8<=n){L:Addr}{ps:List (List Str)}{name:Str}(hL:PAt H L ps)(h0:0<ps.length)(hp:∀ p∈ps,p.length<=1000/\∀ x∈p,PyData.strOk x=true)(hps:ps.length<=1000)(hm:name.length<=1000)
 (h:Φ (.bool (qbb ps name)) M H):
 ∀ vs,vs.map norm=[.ref L,S name]->WV (model prog w) D (call (.ref 238) vs) M H Φ E:=by
 refine qba ok (by rfl) (by rfl) ["pieces", "name"] [("pieces",.local),("name",.local),("place",.local),("piece",.local),("final",.local),("_law_fits",.globalImplicit),("len",.globalImplicit)] ?hb (by rfl) (by rfl) (by decide) (by decide) (by rfl) ?_
 case hb=>intro vs h;(refine oEE (ex2 h) fun a b e2'=>?_;obtain rfl:=e2');rfl
 intro D' env ok' ke hlo hf
 have big:(100000:Nat)<=sizeLine:=by decide
 have b63:(100000:Nat)<2^63:=by decide
 refine qbe hL fun as hLa hlen hat=>?_
 have hlm:(as.map Value.ref).length=ps.length:=by refine substr (length_map ..) (substr hlen rfl)
 obtain⟨a0,ha0⟩:∃ a,as[0]?=some a:=⟨_,getElem?_eq_getElem (qsH h0 hlen)⟩
 obtain⟨p0,hp0⟩:∃ p,ps[0]?=some p:=⟨_,getElem?_eq_getElem (qsI h0)⟩
 have hp0m:=hp p0 (mem_of_getElem? hp0)
 have hA0:=hat 0 a0 p0 ha0 hp0
 have hx0:(as.map Value.ref)[(0:Int).toNat]?=some (.ref a0):=by simp[ha0]
 have hml0:(p0.map S).length=p0.length:=length_map ..
 refine qbp (qfD (qao ?_))
 refine qF ?_
 walk_at "n"
 refine qad (qp (qan ok' (by rfl)) (qd (qW ?_)))
 walk_at "n"
 refine qw (qb0 hLa (by decide) (by decide) hx0 (qd ?_))
 walk_at "n"
 refine qd (qw (qi ?_))
 refine qgt ok' hn (place:=0) hA0 hp0m.1 hm (qsJ) hp0m.2 ?_
 refine qcA ⟨fun hb=>?_,fun hb=>?_⟩
 ·refine qaw (qcb ⟨H,Sub.refl,?_⟩)
  have e:qbb ps name=false:=by unfold qbb;simp only[hp0,Option.getD_some];refine substr (if_pos (by simpa using hb)) rfl
  rw[e] at h;exact h
 have hf0:qbn p0 name 0=true:=by simpa using hb
 refine qbG (qI (qF ?_))
 walk_at "n"
 refine qY (qp qu (qd (qW ?_)))
 walk_at "n"
 refine qw (qb0 hLa (by decide) (by decide) hx0 (qi ?_))
 refine qbl hA0 (by refine substr hml0 ?_;exact qbr hp0m.1) ?_
 refine substr hml0 ?_
 walk_at "s"
 refine qbp (qO ?_)
 walk_at "c"
 refine qbl hLa (by refine substr hlm ?_;exact qbr hps) (qw (qds (asB ⟨fun hb=>?_,fun hb=>?_⟩)))
 ·rw[hlm] at hb
  have h1:ps.length=1:=by have:=beq_iff_eq.mp hb;exact qm6 this
  refine qaw (qcx ?_)
  walk_at "n"
  walk_at "c"
  refine qb2 (qbr hm) (qds ⟨H,Sub.refl,?_⟩)
  have e:qbb ps name=((p0.length:Int)==(name.length:Int)):=by
   unfold qbb
   simp only[hp0,Option.getD_some]
   refine substr (if_neg (by refine substr hf0 ?_;decide)) (substr (if_pos h1) ?_)
   by_cases q:p0.length=name.length
   ·refine substr (decide_eq_true q) (substr q ?_);simp
   ·refine substr (decide_eq_false q) ?_;symm;refine substr (propext beq_eq_false_iff_ne) ?_;exact qnj q
  rw[e] at h;exact h
 rw[hlm] at hb
 have h1:ps.length≠1:=by have:=beq_eq_false_iff_ne.mp hb;exact qsK this
 refine qbG ?_
 have hpk:pick (as.map Value.ref) (some 1) (some (-1))=((as.drop 1).take (ps.length-1-1)).map Value.ref:=by
  refine substr (qgn ..) (substr hlm ?_)
  have e1:kms_lo (some 1) ps.length=1:=by unfold kms_lo;simp;exact qsL h0
  have e2:kms_hi (some (-1)) ps.length=ps.length-1:=by unfold kms_hi;simp
  refine substr e1 (substr e2 (substr List.map_take (substr List.map_drop rfl)))
 have hmids:((ps.drop 1).take (ps.length-1-1)).length=ps.length-2:=by simp;exact qsM
 have hmidsA:((as.drop 1).take (ps.length-1-1)).length=ps.length-2:=by simp;exact qsN hlen
 refine qdG (n:=(((as.drop 1).take (ps.length-1-1)).map Value.ref).length) (fr:=fun _=>False) (fun _=>False)
  (TkO name L H ((ps.drop 1).take (ps.length-1-1)) (qdk name ((ps.drop 1).take (ps.length-1-1)) p0.length))
  (qce ok'.hand (qW (by
   walk_at "n"
   refine qaN (qaj (qw (qaj (qdi (qw ⟨1,rfl,?_⟩)))))
   refine fun r hr v u hv hu=>qdQ (lo:=some 1) (hi:=some (-1)) hLa (by refine substr hlm ?_;exact qfB hps big) (Φ:=fun q M1 H1=>M1=_/\Sub H H1/\∃ l,q=.ref l/\H1 l=some (lst _)/\(H l=none\/False)) ?_ r hr v u hv hu
   intro r hr
   exact(qci rfl (Sub.upd hr) r rfl (by refine substr hpk (substr upd_same rfl)) (.inl hr))))) (fun _ h=>h.elim) ⟨rfl,_,by walk_at "l",by walk_at "l",by walk_at "l",rfl⟩ ?_ ?_
 ·rintro k M' Hk Hc v hk ⟨rfl,pl,k1,k2,k3,k4⟩ hS hv
  refine oEA (qai hv) fun a ha hav=>?_
  have hk':k<ps.length-2:=by rw[length_map,hmidsA] at hk;exact hk
  have hak:as[k+1]?=some a:=by
   rw[List.getElem?_take,if_pos (qnk hk'),List.getElem?_drop,Nat.add_comm] at ha
   exact ha
  obtain⟨q,hq⟩:∃ q,ps[k+1]?=some q:=⟨_,getElem?_eq_getElem (qsO hk')⟩
  have hqs:((ps.drop 1).take (ps.length-1-1))[k]?=some q:=by
   refine substr List.getElem?_take (substr (if_pos (qnk hk')) (substr List.getElem?_drop (substr (Nat.add_comm ..) ?_)))
   exact hq
  have hqm:=hp q (mem_of_getElem? hq)
  have hqa:=hS _ _ (hat (k+1) a q hak hq)
  have hmlq:(q.map S).length=q.length:=length_map ..
  rw[qap hqs] at k4
  unfold qdk at k4
  rw[List.foldl_cons] at k4
  refine qar hav.symm ?_
  walk_at "s"
  refine qeM (TkI name L a Hc q (qb6 q name (name.length+1-pl) pl))
   (n:=name.length+1-pl) ⟨rfl,pl,rfl,by walk_at "l",by walk_at "l",by walk_at "l",by walk_at "l",rfl⟩ ?_
  rintro m M2 H2 ⟨rfl,pl2,rfl,j1,j2,j3,j4,j5⟩
  have out:∀ {Hx:AH},Sub H2 Hx->qb6 q name (name.length+1-pl2) pl2=pl2->WS (model prog w) D' (execs [Stmt.AugAssign (.Name (Str.ofString "place") { line:=295,col:=8,endLine:=295,endCol:=13 }) .Add (.Call (.Name (Str.ofString "len") { line:=295,col:=17,endLine:=295,endCol:=20 }) [.Name (Str.ofString "piece") { line:=295,col:=21,endLine:=295,endCol:=26 }] [] { line:=295,col:=17,endLine:=295,endCol:=27 }) { line:=295,col:=8,endLine:=295,endCol:=27 }] env) M2 Hx (TurnEnd (fun _ _ _=>False) (TE (Kp (fun _=>False) H2) H2 Hk (TkO name L Hk ((ps.drop 1).take (ps.length-1-1)) (qdk name ((ps.drop 1).take (ps.length-1-1)) p0.length) (k+1)))) NoE:=by
   intro Hx hx hstop
   refine qbs (by walk_at "d") ?_
   walk_at "c"
   refine qbl (hx _ _ hqa) (by refine substr hmlq ?_;exact qbr hqm.1) (qa7 ?_)
   refine substr hmlq (substr (Int.natCast_add ..).symm ?_)
   walk_at "s"
   refine qy ⟨Kp.sub hx,Hk,hS.trans hx,fun a d e=>.inl ⟨_,e⟩,rfl,pl2+q.length,by walk_at "l",by walk_at "l",by walk_at "l",?_⟩
   rw[j5,hstop] at k4
   exact k4
  have up:∀ {f:Flow} {M5:Loc} {H5:AH} {Φ:Flow->Loc->AH->Prop} {J:Loc->AH->Prop},TurnEnd (fun _ _ _=>False) J f M5 H5->TurnEnd Φ J f M5 H5:=fun h=>qa9 (fun _ _ _ x=>x.elim) (fun _ _ x=>x) h
  refine qdz (qaG (qO ?_))
  walk_at "n"
  walk_at "c"
  refine qb2 (qbr hm) (qzo (asB ⟨fun hb=>?_,fun hb=>?_⟩))
  ·have hle:pl2<=name.length:=by have:=of_decide_eq_true hb;exact qpT this
   refine qaG (qfD (qao (qF ?_)))
   walk_at "n"
   refine qad (qp (qan ok' (by rfl)) (qd ?_))
   walk_at "n"
   refine qd ?_
   walk_at "n"
   refine qd ?_
   walk_at "n"
   refine qi (qgt ok' hn (place:=pl2) hqa hqm.1 hm (qsP hm hle) hqm.2 (qcA ⟨fun hb2=>qcN ⟨fun _=>?_,fun h=>(by cases h)⟩,fun hb2=>⟨fun h=>(by cases h),fun _=>?_⟩⟩))
   ·have hff:qbn q name pl2=false:=by simpa using hb2
    refine qbs (by walk_at "d") (qw (qa7 ?_))
    refine substr (show((pl2:Int)+1)=((pl2+1:Nat):Int) from by exact qnl) ?_
    walk_at "s"
    refine qy ⟨name.length+1-(pl2+1),by exact qsQ hle,rfl,pl2+1,rfl,by walk_at "l",by walk_at "l",by walk_at "l",by walk_at "l",?_⟩
    refine substr j5 (substr (qkY hle hff) rfl)
   ·have hff:qbn q name pl2=true:=by simpa using hb2
    exact qM (out Sub.refl (qjW hle hff)) fun f M5 H5 h5=>up h5
  ·have hle:¬ pl2<=name.length:=by have:=of_decide_eq_false hb;exact qsR this
   exact⟨fun h=>(by cases h),fun _=>qM (out Sub.refl (qjV hle)) fun f M5 H5 h5=>up h5⟩
 ·rintro M' Hk ⟨rfl,pl,k1,k2,k3,k4⟩
  rw[length_map,hmidsA,<- hmids,List.drop_length] at k4
  have k5:qdk name ((ps.drop 1).take (ps.length-1-1)) p0.length=pl:=k4
  obtain⟨az,haz⟩:∃ a,as[ps.length-1]?=some a:=⟨_,getElem?_eq_getElem (qnm h0 hlen)⟩
  obtain⟨pz,hpz⟩:∃ p,ps[ps.length-1]?=some p:=⟨_,getElem?_eq_getElem (qjo h0)⟩
  have hpzm:=hp pz (mem_of_getElem? hpz)
  have hAz:=hat _ az pz haz hpz
  have hmlz:(pz.map S).length=pz.length:=length_map ..
  have hxz:(as.map Value.ref)[((-1:Int)+((as.map Value.ref).length:Int)).toNat]?=some (.ref az):=by
   refine substr hlm (substr (show((-1:Int)+(ps.length:Int)).toNat=ps.length-1 from by exact qjp) (substr getElem?_map (substr haz ?_)));rfl
  have hlast:qcp ps=pz:=by unfold qcp;refine substr hpz ?_;rfl
  have tk:qbb ps name=if ((name.length:Int)-(pz.length:Int)<(pl:Int)) then false else qbn pz name (name.length-pz.length):=by
   unfold qbb
   simp only[hp0,Option.getD_some,hlast,k5]
   refine substr (if_neg (by refine substr hf0 ?_;decide)) (substr (if_neg h1) rfl)
  refine qI (qK ?_)
  walk_at "c"
  refine qb2 (qbr hm) (qF ?_)
  walk_at "n"
  refine qY (qp qu (qd (qW ?_)))
  walk_at "n"
  refine qdi (qw ⟨1,rfl,?_⟩)
  refine qdg hLa (by decide) (by refine substr hlm ?_;exact qhc h0) (by decide) hxz (qi (qbl hAz (by refine substr hmlz ?_;exact qbr hpzm.1) (qjE ?_)))
  refine substr hmlz ?_
  walk_at "s"
  refine qaw (qoi (qcx ?_))
  walk_at "n"
  walk_at "n"
  refine qzp (asB ⟨fun hb=>?_,fun hb=>?_⟩)
  ·have hge:pl<=name.length-pz.length/\pz.length<=name.length\/pl=0/\pz.length<=name.length:=by have:=of_decide_eq_true hb;exact qsS this
   have hge2:pz.length<=name.length:=qsT hge
   rw[if_neg (by have:=of_decide_eq_true hb;exact qsU this)] at tk
   refine substr (show((name.length:Int)-(pz.length:Int))=((name.length-pz.length:Nat):Int) from by exact qsV hge2) ?_
   refine qgg (qF ?_)
   walk_at "n"
   refine qad (qp (qan ok' (by rfl)) (qd (qW ?_)))
   walk_at "n"
   refine qdi (qw ⟨1,rfl,?_⟩)
   refine qdg hLa (by decide) (by refine substr hlm ?_;exact qhc h0) (by decide) hxz (qd ?_)
   walk_at "n"
   refine qd ?_
   walk_at "n"
   refine qi (qgt ok' hn (place:=name.length-pz.length) hAz hpzm.1 hm (qsW hm) hpzm.2 (iEA Hk Sub.refl ?_))
   rw[tk] at h;exact h
  ·rw[if_pos (by have:=of_decide_eq_false hb;exact qsX this)] at tk
   refine(iEA Hk Sub.refl ?_)
   rw[tk] at h;exact h
structure PS where
 sound:Bool
 held:Bool
 last:Bool
 place:Nat
 pieces:List (List Str)
noncomputable def qbU(b:Str)(i:Nat):Str:=qC ((b.cps[i]?).getD 0)
noncomputable def qcF(x:Str):Str:=qC ((x.cps[x.length-1]?).getD 0)
noncomputable def specials:Str:=Str.ofString "^$*+?{}[]|("
noncomputable def qbw(ps:List (List Str))(x:Str):List (List Str):=ps.dropLast++[(ps[ps.length-1]?).getD []++[x]]
noncomputable def qbt(b:Str)(s:PS):PS:=
 if (Txt.slice b (some (s.place:Int)) (some ((s.place:Int)+6))==Str.ofString "(?>.*?")=true then⟨!s.held&&!s.last,true,s.last,s.place+6,s.pieces++[[]]⟩
 else if (Txt.slice b (some (s.place:Int)) (some ((s.place:Int)+2))==Str.ofString ".*")=true then⟨!s.held&&!s.last,s.held,true,s.place+2,s.pieces++[[]]⟩
 else if (qbU b s.place==Str.ofString ")")=true then⟨s.held,false,s.last,s.place+1,s.pieces⟩
 else
  let st:Nat:=if (qbU b s.place==Str.ofString "\\")=true then 2 else 1
  ⟨(s.held||s.last||((s.pieces.length:Int)==1))&&(((st:Int)==2)||(Builtin.Str.occurrences specials (qbU b s.place) 0 specials.length 1).isEmpty),s.held,s.last,s.place+st,
   qbw s.pieces (if (qbU b s.place==Str.ofString ".")=true then emp else qcF (Txt.slice b (some (s.place:Int)) (some ((s.place:Int)+(st:Int)))))⟩
noncomputable def qb7(b:Str):Nat->PS->PS
 | 0,s=>s
 | f+1,s=>if (s.sound&&decide (s.place<b.length))=true then qb7 b f (qbt b s) else s
noncomputable def qP(t:Str):Str:=Txt.slice t (some 4) (some (-3))
noncomputable def qdH(t:Str):PS:=⟨Txt.slice t none (some 4)++Txt.slice t (some (-3)) none==Str.ofString "(?s:)\\Z",false,false,0,[[]]⟩
noncomputable def qgv(t:Str):PS:=qb7 (qP t) (qP t).length (qdH t)
noncomputable def okP(s:PS):Bool:=s.sound&&!s.held&&(s.last==decide ((1:Int)<(s.pieces.length:Int)))
noncomputable def qak(t:Str):List (List Str):=if okP (qgv t)=true then(qgv t).pieces else[[Str.ofString "none"]]
theorem qdu(b:Str)(s:PS):s.place<(qbt b s).place:=by
 unfold qbt
 dsimp only
 split
 ·dsimp only;exact qsY
 ·split
  ·dsimp only;exact qlz
  ·split
   ·dsimp only;exact qhq
   ·dsimp only;split<;>(first | exact qlz | exact qhq)
theorem qcY{b:Str}{f:Nat}{s:PS}:qb7 b (f+1) s=if (s.sound&&decide (s.place<b.length))=true then qb7 b f (qbt b s) else s:=rfl
theorem qfV(b:Str):∀(f g:Nat) (s:PS),b.length-s.place<=f->b.length-s.place<=g->qb7 b f s=qb7 b g s
 | 0,0,s,_,_=>rfl
 | 0,g+1,s,h,_=>by
  rw[qcY,if_neg];rfl;simp;omega
 | f+1,0,s,_,h=>by
  rw[qcY,if_neg];rfl;simp;omega
 | f+1,g+1,s,h1,h2=>by
  rw[qcY,qcY]
  split
  ·have:=qdu b s
   exact qfV b f g _ (qnn h1 this) (qnn h2 this)
  ·rfl
theorem qjX(b:Str)(s:PS)(h:(s.sound&&decide (s.place<b.length))=true):qb7 b (b.length-s.place) s=qb7 b (b.length-(qbt b s).place) (qbt b s):=by
 have hlt:s.place<b.length:=by simp at h;exact h.2
 have e:b.length-s.place=(b.length-s.place-1)+1:=qno hlt
 rw[e,qcY,if_pos h]
 have:=qdu b s
 exact qfV b _ _ _ (qsZ this) (qs0)
theorem qjY(b:Str)(f:Nat)(s:PS)(h:(s.sound&&decide (s.place<b.length))=false):qb7 b f s=s:=by
 cases f with
 | zero=>rfl
 | succ f=>rw[qcY,if_neg (by refine substr h ?_;decide)]
theorem qhV(b:Str)(s:PS)(h:0<s.pieces.length):0<(qbt b s).pieces.length/\(qbt b s).pieces.length<=s.pieces.length+1:=by
 unfold qbt
 dsimp only
 split
 ·simp
 ·split
  ·simp
  ·split
   ·dsimp only;exact qs1 h
   ·simp[qbw]
structure PInv(H Hk:AH)(L:Addr)(as:List Addr)(ps:List (List Str)):Prop where
 top:Hk L=some (lst (as.map Value.ref))
 len:as.length=ps.length
 at_:∀(k:Nat) (a:Addr) (p:List Str),as[k]?=some a->ps[k]?=some p->Hk a=some (lst (p.map S))
 nodup:as.Nodup
 apart:L ∉ as
 new:∀ a∈as,H a=none
 newL:H L=none
 sub:Sub H Hk
theorem PInv.pat{H Hk:AH}{L:Addr}{as:List Addr}{ps:List (List Str)}(h:PInv H Hk L as ps):PAt Hk L ps:=⟨as,h.top,h.len,h.at_⟩
theorem PInv.up{H Hk Hx:AH}{L:Addr}{as:List Addr}{ps:List (List Str)}(h:PInv H Hk L as ps)(s:Sub Hk Hx):PInv H Hx L as ps:=
 ⟨s _ _ h.top,h.len,fun k a p q r=>s _ _ (h.at_ k a p q r),h.nodup,h.apart,h.new,h.newL,h.sub.trans s⟩
theorem PInv.mem{H Hk:AH}{L:Addr}{as:List Addr}{ps:List (List Str)}(h:PInv H Hk L as ps){a:Addr}(ha:a∈as):∃ d,Hk a=some d:=by
 obtain⟨k,hk,rfl⟩:=List.getElem_of_mem ha
 have:k<ps.length:=h.len▸hk
 exact⟨_,h.at_ k _ _ (getElem?_eq_getElem hk) (getElem?_eq_getElem this)⟩
theorem PInv.push{H Hk:AH}{L a:Addr}{as:List Addr}{ps:List (List Str)}(h:PInv H Hk L as ps)(ha:Hk a=none):PInv H (upd (upd Hk a (lst [])) L (lst (as.map Value.ref++[.ref a]))) L (as++[a]) (ps++[[]]):=by
 have hLa:L≠a:=qG ha h.top
 refine⟨by refine substr upd_same (substr map_append ?_);rfl,by simp[h.len],?_,?_,?_,?_,h.newL,?_⟩
 ·intro k b p hb hp
  by_cases hk:k<as.length
  ·rw[List.getElem?_append_left hk] at hb
   rw[List.getElem?_append_left (h.len▸hk)] at hp
   have hbm:b∈as:=mem_of_getElem? hb
   have h1:b≠L:=fun q=>h.apart (q▸hbm)
   exact(qe h1).trans (qx ha (h.at_ k b p hb hp))
  ·have e1:k=as.length:=by
    have:=(List.getElem?_eq_some_iff.mp hb).1
    simp at this;exact qs2 hk this
   subst e1
   simp at hb
   rw[h.len] at hp
   simp at hp
   subst hb hp
   exact(qe (Ne.symm hLa)).trans upd_same
 ·refine substr (propext List.nodup_append) ?_
  refine(iAA h.nodup (by simp) (fun x hx y hy=>?_))
  simp at hy;subst hy
  obtain⟨d,hd⟩:=h.mem hx
  exact qG ha hd
 ·simp only[List.mem_append,List.mem_singleton,not_or];exact⟨h.apart,hLa⟩
 ·intro b hb
  rcases List.mem_append.mp hb with hb | hb
  ·exact h.new b hb
  ·simp at hb;subst hb;exact h.sub.none ha
 ·intro b d hb
  refine(qe fun q=>?_).trans (qx ha (h.sub b d hb))
  rw[q,h.newL] at hb;exact o_ns hb
theorem PInv.app{H Hk:AH}{L a:Addr}{as:List Addr}{ps:List (List Str)}{p:List Str}{x:Str}(h:PInv H Hk L as ps)(h0:0<ps.length)(ha:as[ps.length-1]?=some a)(hp:ps[ps.length-1]?=some p):
 PInv H (upd Hk a (lst (p.map S++[S x]))) L as (qbw ps x):=by
 have ham:a∈as:=mem_of_getElem? ha
 have hLa:L≠a:=fun q=>h.apart (q▸ham)
 have hl:(qbw ps x).length=ps.length:=by simp[qbw];exact qs3 h0
 refine⟨(qe hLa).trans h.top,by refine substr hl (substr h.len rfl),?_,h.nodup,h.apart,h.new,h.newL,?_⟩
 ·intro k b q hb hq
  have hk:k<ps.length:=by have:=(List.getElem?_eq_some_iff.mp hb).1;rw[h.len] at this;exact this
  by_cases e:k=ps.length-1
  ·subst e
   rw[ha] at hb;cases hb
   unfold qbw at hq
   rw[List.getElem?_append_right (by simp),List.length_dropLast,Nat.sub_self,hp] at hq
   simp at hq;subst hq
   refine substr upd_same ?_;simp
  ·have hne:b≠a:=fun q'=>by
    subst q'
    have i1:=(List.getElem?_eq_some_iff.mp hb).1
    exact e ((List.getElem?_inj i1 h.nodup).mp (hb.trans ha.symm))
   unfold qbw at hq
   rw[List.getElem?_append_left (by refine substr List.length_dropLast ?_;exact qnp hk e),List.getElem?_dropLast,if_pos (qnp hk e)] at hq
   exact(qe hne).trans (h.at_ k b q hb hq)
 ·intro b d hb
  refine(qe fun q=>?_).trans (h.sub b d hb)
  rw[q,h.new a ham] at hb;exact o_ns hb
inductive PcJ(H:AH)(t:Str)(L:Addr)(m:Nat)(M:Loc)(Hk:AH):Prop
 | mk(st:PS)(as:List Addr)(inv:PInv H Hk L as st.pieces)(hm:m=(qP t).length-st.place)(k1:look "body" M=some (S (qP t))) (k2:look "place" M=some (I st.place)) (k3:look "held" M=some (.bool st.held)) (k4:look "last" M=some (.bool st.last))
  (k5:look "sound" M=some (.bool st.sound)) (k6:look "pieces" M=some (.ref L)) (k7:qb7 (qP t) ((qP t).length-st.place) st=qgv t) (k8:0<st.pieces.length) (k9:st.pieces.length<=st.place+1) (k10:∀ p∈st.pieces,p.length<=st.place) (k11:st.place<=2000)
theorem qkZ(ok:Ok (KF w.params) glob q7 D (n+1)){t:Str}(ht:t.length<=1000)(h:∀ L Hs,Sub H Hs->H L=none->PAt Hs L (qak t)->Φ (.ref L) M Hs):
 ∀ vs,vs.map norm=[S t]->WV (model prog w) D (call (.ref 226) vs) M H Φ E:=by
 refine qba ok (by rfl) (by rfl) ["text"] [("text",.local),("body",.local),("place",.local),("held",.local),("last",.local),("pieces",.local),("sound",.local),("step",.local),("len",.globalImplicit)] ?hb (by rfl) (by rfl) (by decide) (by decide) (by rfl) ?_
 case hb=>intro vs h;obtain⟨a,rfl⟩:=ex1 h;rfl
 intro D' env ok' ke hlo hf
 have big:(100000:Nat)<=sizeLine:=by decide
 have b63:(100000:Nat)<2^63:=by decide
 have hbl:(qP t).length<=1000:=Nat.le_trans (Txt.slice_le _ _ _) ht
 refine qjO ok'.hand (qaa (qd (qW ?_)))
 walk_at "n"
 refine qaN (qaj (qw (qaj (qdi (qw ⟨3,rfl,?_⟩)))))
 refine qbX (lo:=some 4) (hi:=some (-3)) (qfB ht big) ?_
 refine qd (qw (qd (qcb (qd (qcb (qd (qae (qd (qae (qi ⟨qJ rfl,fun a0 ha0=>qi ⟨qJ rfl,fun L hL=>?_⟩⟩))))))))))
 refine qi ⟨qJ rfl,fun T hT=>⟨T,_,rfl,upd_same,?_⟩⟩
 refine qj ?_;walk_at "s"
 refine qj ?_;walk_at "s"
 refine qj ?_;walk_at "s"
 refine qj ?_;walk_at "s"
 refine qj ?_;walk_at "s"
 refine qN ?_
 refine qI (qcx (qK (qW ?_)))
 walk_at "n"
 refine qaN (qcd (qaj (qw ?_)))
 refine qbX (lo:=none) (hi:=some 4) (qfB ht big) (qW ?_)
 walk_at "n"
 refine qaN (qaj (qdi (qw ⟨3,rfl,qcd ?_⟩)))
 refine qbX (lo:=some (-3)) (hi:=none) (qfB ht big) ?_
 have l1:=Txt.slice_le t none (some 4)
 have l2:=Txt.slice_le t (some (-3)) none
 refine qfG (qs4 ht big l1 l2) (qQ (qb5 ?_))
 walk_at "s"
 have hne:a0≠L:=Ne.symm (fun q=>by rw[q,upd_same] at hL;exact o_sn hL)
 have hL0:H L=none:=(qe (Ne.symm hne)).symm.trans hL
 have inv0:PInv H (upd (upd H a0 (lst [])) L (lst [.ref a0])) L [a0] [[]]:=by
  refine⟨upd_same,rfl,?_,by simp,by simp;exact Ne.symm hne,by simp[ha0],hL0,(Sub.upd ha0).trans (Sub.upd hL)⟩
  intro k a p h1 h2
  cases k with
  | zero=>simp at h1 h2;subst h1 h2;exact(qe hne).trans upd_same
  | succ k=>simp at h1
 refine qeM (PcJ H t L)
  (n:=(qP t).length) ⟨qdH t,[a0],inv0.up (by walk_at "b"),rfl,by walk_at "l",by walk_at "l",by walk_at "l",by walk_at "l",by walk_at "l",by walk_at "l",rfl,(by show 0<1;decide),(by show 1<=1;decide),fun p hp=>(by simp[qdH] at hp;simp[hp]),(by show 0<=2000;decide)⟩ ?_
 rintro m M2 Hk ⟨st,as,inv,rfl,k1,k2,k3,k4,k5,k6,k7,k8,k9,k10,k11⟩
 have hPv:∀ {x:String} {p:Value} {pos:Pos} {k:NameKind},qt x [("text",NameKind.local),("body",.local),("place",.local),("held",.local),("last",.local),("pieces",.local),("sound",.local),("step",.local),("len",.globalImplicit)]=some .local->look x M2=some p->Pv prog w D' env (.Name (Str.ofString x) pos) p M2 Hk NoE:=
  fun hk hv Φ hΦ=>qbQ ke hlo hk hv hΦ
 have pSound:∀ pos,Pv prog w D' env (.Name (Str.ofString "sound") pos) (.bool st.sound) M2 Hk NoE:=fun _ Φ hΦ=>qbQ ke hlo (by rfl) k5 hΦ
 have pHeld:∀ pos,Pv prog w D' env (.Name (Str.ofString "held") pos) (.bool st.held) M2 Hk NoE:=fun _ Φ hΦ=>qbQ ke hlo (by rfl) k3 hΦ
 have pLast:∀ pos,Pv prog w D' env (.Name (Str.ofString "last") pos) (.bool st.last) M2 Hk NoE:=fun _ Φ hΦ=>qbQ ke hlo (by rfl) k4 hΦ
 refine qhO (b1:=st.sound) (b2:=decide (st.place<(qP t).length)) (qfj (pSound _)) (fun _=>Pt.of (qO ?_)) _ ⟨fun hb=>?_,fun hb=>?_⟩
 ·walk_at "n"
  walk_at "c"
  refine qb2 (qbr hbl) (qhA (asB (iAA ?_ rfl Sub.refl)))
  by_cases q:st.place<(qP t).length
  ·refine substr (decide_eq_true q) ?_;exact decide_eq_true (qnq q)
  ·refine substr (decide_eq_false q) ?_;exact decide_eq_false (qnr q)
 ·have hlt:st.place<(qP t).length:=by simp at hb;exact hb.2
  have hrun:=qjX (qP t) st hb
  have hsp:=qhV (qP t) st k8
  have hpl:=qdu (qP t) st
  have fin:∀(so he la:Bool) (pc:Nat) (pp:List (List Str)) (as':List Addr) (M5:Loc) (H5:AH),qbt (qP t) st=⟨so,he,la,pc,pp⟩->PInv H H5 L as' pp->look "body" M5=some (S (qP t))->look "place" M5=some (I pc)->look "held" M5=some (.bool he)->look "last" M5=some (.bool la)->
   look "sound" M5=some (.bool so)->look "pieces" M5=some (.ref L)->(∀ p∈pp,p.length<=pc)->pc<=2000->LtJ ((qP t).length-st.place) (PcJ H t L) M5 H5:=by
   intro so he la pc pp as' M5 H5 e a1 a2 a3 a4 a5 a6 a7 a8 a9
   rw[e] at hrun hsp hpl
   dsimp only at hrun hsp hpl
   exact⟨(qP t).length-pc,by exact qs5 hlt hpl,⟨so,he,la,pc,pp⟩,as',a1,rfl,a2,a3,a4,a5,a6,a7,by refine substr hrun.symm ?_;exact k7,hsp.1,by dsimp only;exact qs6 k9 hpl hsp.2,a8,a9⟩
  have hpm:∀ pc:Nat,st.place<=pc->∀ p∈st.pieces++[[]],p.length<=pc:=by
   intro pc hle p hp
   rw[List.mem_append] at hp
   rcases hp with hp | hp
   ·exact Nat.le_trans (k10 p hp) hle
   ·simp at hp;subst hp;simp
  have pNot:∀ p1 p2 p3 p4 p5,Pv prog w D' env (.BoolOp .And [.UnaryOp .Not (.Name (Str.ofString "held") p1) p2,.UnaryOp .Not (.Name (Str.ofString "last") p3) p4] p5) (.bool (!st.held&&!st.last)) M2 Hk NoE:=fun _ _ _ _ _=>qkS (qkR (pHeld _)) (qkR (pLast _))
  refine qcR (b:=Txt.slice (qP t) (some (st.place:Int)) (some ((st.place:Int)+6))==Str.ofString "(?>.*?") (Pt.of (qO (qW ?_))) (fun h1=>?_) fun h1=>qbD ?_
  ·walk_at "n"
   refine qaN (qaj ?_)
   walk_at "n"
   refine qaj (qK ?_)
   walk_at "n"
   refine qw (qcO ?_)
   refine qbX (lo:=some (st.place:Int)) (hi:=some ((st.place:Int)+6)) (qjq big hbl) (qQ (qb5 (asB (iAA rfl rfl (by walk_at "b")))))
  ·refine qgm ok'.hand ke (by rfl) (by rfl) (by rfl) (qaa (qd (pNot _ _ _ _ _ _ (qd (qcb (qd (qK ?_)))))))
   walk_at "n"
   refine qw (qcO ?_)
   refine substr (show((st.place:Int)+6)=((st.place+6:Nat):Int) from by exact qs7) ?_
   refine qi ⟨qJ rfl,fun T hT=>⟨T,_,_,_,rfl,upd_same,?_⟩⟩
   refine qj ?_;walk_at "s"
   refine qj ?_;walk_at "s"
   refine qj ?_;walk_at "s"
   refine qN (qaq (qa2 F.slot_list_append F.type_list_append ?_) ke)
   walk_at "n"
   refine⟨L,_,rfl,qx hT inv.top,qp qu (qd (qae (qi ⟨qJ rfl,fun r hr=>qi (qbB (qx hr (qx hT inv.top)) (by refine substr (length_map ..) (substr inv.len ?_);exact qns big k9 k11) ⟨rfl,?_⟩)⟩)))⟩
   have inv2:=(inv.up (Sub.upd hT)).push hr
   refine qbG (qy (fin (!st.held&&!st.last) true st.last (st.place+6) (st.pieces++[[]]) _ _ _ (by unfold qbt;refine substr (if_pos h1) rfl) inv2 (by walk_at "l") (by walk_at "l") (by walk_at "l") (by walk_at "l") (by walk_at "l") (by walk_at "l") (hpm _ (qs8)) (qs9 hbl hlt)))
  refine qcR (b:=Txt.slice (qP t) (some (st.place:Int)) (some ((st.place:Int)+2))==Str.ofString ".*") (Pt.of (qO (qW ?_))) (fun h2=>?_) fun h2=>qbD ?_
  ·walk_at "n"
   refine qaN (qaj ?_)
   walk_at "n"
   refine qaj (qK ?_)
   walk_at "n"
   refine qw (qcO ?_)
   refine qbX (lo:=some (st.place:Int)) (hi:=some ((st.place:Int)+2)) (qjq big hbl) (qQ (qb5 (asB (iAA rfl rfl (by walk_at "b")))))
  ·refine qgm ok'.hand ke (by rfl) (by rfl) (by rfl) (qaa (qd (pNot _ _ _ _ _ _ (qd (qcb (qd (qK ?_)))))))
   walk_at "n"
   refine qw (qcO ?_)
   refine substr (show((st.place:Int)+2)=((st.place+2:Nat):Int) from by exact qta) ?_
   refine qi ⟨qJ rfl,fun T hT=>⟨T,_,_,_,rfl,upd_same,?_⟩⟩
   refine qj ?_;walk_at "s"
   refine qj ?_;walk_at "s"
   refine qj ?_;walk_at "s"
   refine qN (qaq (qa2 F.slot_list_append F.type_list_append ?_) ke)
   walk_at "n"
   refine⟨L,_,rfl,qx hT inv.top,qp qu (qd (qae (qi ⟨qJ rfl,fun r hr=>qi (qbB (qx hr (qx hT inv.top)) (by refine substr (length_map ..) (substr inv.len ?_);exact qns big k9 k11) ⟨rfl,?_⟩)⟩)))⟩
   have inv2:=(inv.up (Sub.upd hT)).push hr
   refine qbG (qy (fin (!st.held&&!st.last) st.held true (st.place+2) (st.pieces++[[]]) _ _ _ (by unfold qbt;refine substr (if_neg (by refine substr h1 ?_;decide)) (substr (if_pos h2) rfl)) inv2 (by walk_at "l") (by walk_at "l") (by walk_at "l") (by walk_at "l") (by walk_at "l") (by walk_at "l") (hpm _ (qtb)) (qtc hbl hlt)))
  have hc:(seqIndex? (st.place:Int) (qP t).length).bind ((qP t).cps[·]?)=some (((qP t).cps[st.place]?).getD 0):=by
   refine substr (qbT hlt) ?_
   have:st.place<(qP t).cps.size:=hlt
   simp[this]
  have q1 : -(2^63)<=(st.place:Int):=qjn
  have q2:(st.place:Int)<2^63:=qtd k11
  have pCh:∀ p1 p2 p3,Pv prog w D' env (.Subscript (.Name (Str.ofString "body") p1) (.Name (Str.ofString "place") p2) p3) (S (qbU (qP t) st.place)) M2 Hk NoE:=by
   intro p1 p2 p3 Φ hΦ
   refine qW ?_
   walk_at "n"
   walk_at "n"
   exact qdP q1 q2 hc hΦ
  refine qcR (b:=qbU (qP t) st.place==Str.ofString ")") (Pt.of (qO (pCh _ _ _ _ (qQ (qb5 (asB (iAA rfl rfl Sub.refl))))))) (fun h3=>?_) fun h3=>qbD ?_
  ·refine qgm ok'.hand ke (by rfl) (by rfl) (by rfl) (qaa (qd (pHeld _ _ (qd (qcb (qd (qK ?_)))))))
   walk_at "n"
   refine qw (qcO ?_)
   refine substr (show((st.place:Int)+1)=((st.place+1:Nat):Int) from by exact qnl) ?_
   refine qi ⟨qJ rfl,fun T hT=>⟨T,_,_,_,rfl,upd_same,?_⟩⟩
   refine qj ?_;walk_at "s"
   refine qj ?_;walk_at "s"
   refine qj ?_;walk_at "s"
   refine qN (qbG (qy ?_))
   exact fin st.held false st.last (st.place+1) st.pieces _ _ _ (by unfold qbt;refine substr (if_neg (by refine substr h1 ?_;decide)) (substr (if_neg (by refine substr h2 ?_;decide)) (substr (if_pos h3) rfl))) (inv.up (Sub.upd hT)) (by walk_at "l") (by walk_at "l") (by walk_at "l") (by walk_at "l") (by walk_at "l") (by walk_at "l") (fun p hp=>Nat.le_succ_of_le (k10 p hp)) (qte hbl hlt)
  obtain⟨az,haz⟩:∃ a,as[st.pieces.length-1]?=some a:=⟨_,getElem?_eq_getElem (by have:=inv.len;exact qnm k8 this)⟩
  obtain⟨pz,hpz⟩:∃ p,st.pieces[st.pieces.length-1]?=some p:=⟨_,getElem?_eq_getElem (qjo k8)⟩
  have hAz:=inv.at_ _ az pz haz hpz
  have hlm:(as.map Value.ref).length=st.pieces.length:=by refine substr (length_map ..) (substr inv.len rfl)
  have hxz:(as.map Value.ref)[((-1:Int)+((as.map Value.ref).length:Int)).toNat]?=some (.ref az):=by
   refine substr hlm (substr (show((-1:Int)+(st.pieces.length:Int)).toNat=st.pieces.length-1 from by exact qjp) (substr getElem?_map (substr haz ?_)));rfl
  have hpzl:=k10 pz (mem_of_getElem? hpz)
  have hmlz:(pz.map S).length=pz.length:=length_map ..
  obtain⟨sp,hsp1,hsp2⟩:∃ sp:Nat,(sp=1\/sp=2)/\(if (qbU (qP t) st.place==Str.ofString "\\")=true then 2 else 1)=sp:=by
   split
   ·exact iEA 2 (.inr rfl) rfl
   ·exact iEA 1 (.inl rfl) rfl
  refine qI (qhP (p:=I sp) (b:=qbU (qP t) st.place==Str.ofString "\\") (Pt.of (qO (pCh _ _ _ _ (qQ (qb5 (asB (iAA rfl rfl Sub.refl))))))) (fun hb2 Φ hΦ=>qw (by rw[if_pos hb2] at hsp2;subst hsp2;exact hΦ)) (fun hb2 Φ hΦ=>qw (by rw[if_neg (by refine substr hb2 ?_;decide)] at hsp2;subst hsp2;exact hΦ)) _ ?_)
  walk_at "s"
  have x1:(seqIndex? (st.place:Int) (qP t).length).bind ((qP t).cps[·]?)=some (((qP t).cps[st.place]?).getD 0):=hc
  have pCh2:∀ {M3:Loc} {H3:AH} p1 p2 p3,look "body" M3=some (S (qP t))->look "place" M3=some (I st.place)->Pv prog w D' env (.Subscript (.Name (Str.ofString "body") p1) (.Name (Str.ofString "place") p2) p3) (S (qbU (qP t) st.place)) M3 H3 NoE:=by
   intro M3 H3 p1 p2 p3 b1 b2 Φ hΦ
   refine qW ?_
   walk_at "n"
   walk_at "n"
   exact qdP q1 q2 hc hΦ
  refine qI (qkS (b1:=st.held||st.last||((st.pieces.length:Int)==1)) (b2:=((sp:Int)==2)||(Builtin.Str.occurrences specials (qbU (qP t) st.place) 0 specials.length 1).isEmpty) (qqu ?_ ?_ ?_) (qoq ?_ ?_) _ ?_)
  ·intro Φ hΦ;walk_at "n";exact hΦ
  ·intro Φ hΦ;walk_at "n";exact hΦ
  ·intro Φ hΦ
   refine qcx ?_
   walk_at "c"
   refine qbl inv.top (by refine substr hlm ?_;exact qnt k9 k11) (qw (qds ?_))
   refine substr hlm ?_;exact hΦ
  ·intro Φ hΦ
   refine qcx ?_
   walk_at "n"
   exact qw (qds hΦ)
  ·intro Φ hΦ
   refine qcx (pCh2 _ _ _ (by walk_at "l") (by walk_at "l") _ (qQ (qlS hΦ)))
  walk_at "s"
  have hsl:(Txt.slice (qP t) (some (st.place:Int)) (some ((st.place:Int)+(sp:Int)))).length≠0:=by
   refine substr (qkU ..) ?_
   have a1:kms_lo (some (st.place:Int)) (qP t).length=st.place:=by simp only[kms_lo];split<;>(first | exact qtg hlt | exact qtf (by assumption))
   have a2:st.place<kms_hi (some ((st.place:Int)+(sp:Int))) (qP t).length:=by simp only[kms_hi];split<;>(first | exact qti hlt hsp1 | exact qth (by assumption))
   refine substr a1 ?_
   exact qtj hlt a2
  refine qaq (qa2 F.slot_list_append F.type_list_append (qW ?_)) ke
  walk_at "n"
  refine qdi (qw ⟨1,rfl,?_⟩)
  refine qdg inv.top (by decide) (by refine substr hlm ?_;exact qhc k8) (by decide) hxz ?_
  refine⟨az,_,rfl,hAz,qp qu (qd (qhP (p:=S (if (qbU (qP t) st.place==Str.ofString ".")=true then emp else qcF (Txt.slice (qP t) (some (st.place:Int)) (some ((st.place:Int)+(sp:Int)))))) (b:=qbU (qP t) st.place==Str.ofString ".") (Pt.of (qO (pCh2 _ _ _ (by walk_at "l") (by walk_at "l") _ (qQ (qb5 (asB (iAA rfl rfl Sub.refl))))))) ?_ ?_ _ ?_))⟩
  ·intro hb2 Φ hΦ
   rw[if_pos hb2] at hΦ
   exact qQ hΦ
  ·intro hb2
   refine substr (if_neg (by refine substr hb2 ?_;decide)) ?_
   refine Pv.of (qW (qW ?_))
   walk_at "n"
   refine qaN (qaj ?_)
   walk_at "n"
   refine qaj (qK ?_)
   walk_at "n"
   walk_at "n"
   refine qcO ?_
   refine qbX (lo:=some (st.place:Int)) (hi:=some ((st.place:Int)+(sp:Int))) (qjq big hbl) (qdi (qw ⟨1,rfl,?_⟩))
   refine qdP (c:=((Txt.slice (qP t) (some (st.place:Int)) (some ((st.place:Int)+(sp:Int)))).cps[(Txt.slice (qP t) (some (st.place:Int)) (some ((st.place:Int)+(sp:Int)))).length-1]?).getD 0) (by decide) (by decide) ?_ (iAA rfl rfl (by walk_at "b"))
   generalize hy:Txt.slice (qP t) (some (st.place:Int)) (some ((st.place:Int)+(sp:Int)))=y at hsl ⊢
   have e1:seqIndex? (-1) y.length=some (y.length-1):=by
    unfold seqIndex?
    have:((-1:Int)+(y.length:Int))=((y.length-1:Nat):Int):=qtk hsl
    simp
    exact qtl this
   have e2:y.length-1<y.cps.size:=by show y.length-1<y.length;exact qtm hsl
   refine substr e1 ?_
   simp[e2]
  refine qi (qbB hAz (by refine substr hmlz ?_;exact qtn big k11 hpzl) ⟨rfl,?_⟩)
  have inv3:=inv.app (x:=if (qbU (qP t) st.place==Str.ofString ".")=true then emp else qcF (Txt.slice (qP t) (some (st.place:Int)) (some ((st.place:Int)+(sp:Int))))) k8 haz hpz
  refine qbs (by walk_at "d") ?_
  walk_at "n"
  refine qa7 ?_
  refine substr (show I ((st.place:Int)+(sp:Int))=I ((st.place+sp:Nat):Int) from rfl) ?_
  walk_at "s"
  refine qy (fin ((st.held||st.last||((st.pieces.length:Int)==1))&&(((sp:Int)==2)||(Builtin.Str.occurrences specials (qbU (qP t) st.place) 0 specials.length 1).isEmpty)) st.held st.last (st.place+sp) (qbw st.pieces (if (qbU (qP t) st.place==Str.ofString ".")=true then emp else qcF (Txt.slice (qP t) (some (st.place:Int)) (some ((st.place:Int)+(sp:Int)))))) _ _ _ ?_ inv3 (by walk_at "l") (by walk_at "l") (by walk_at "l") (by walk_at "l") (by walk_at "l") (by walk_at "l") ?_ (qto hbl hlt hsp1))
  ·unfold qbt
   rw[if_neg (by refine substr h1 ?_;decide),if_neg (by refine substr h2 ?_;decide),if_neg (by refine substr h3 ?_;decide)]
   dsimp only
   rw[hsp2]
  ·intro p hp
   unfold qbw at hp
   rw[List.mem_append] at hp
   rcases hp with hp | hp
   ·have:=k10 p (List.dropLast_subset _ hp);exact qnu this
   ·rw[hpz] at hp
    simp at hp;subst hp
    simp;exact qtp hpzl hsp1
 ·have hend:st=qgv t:=by rw[qjY _ _ _ hb] at k7;exact k7
  have hlm:(as.map Value.ref).length=st.pieces.length:=by refine substr (length_map ..) (substr inv.len rfl)
  refine qaw (qdA (qoW (b1:=st.sound) (b2:=!st.held) (b3:=st.last==decide ((1:Int)<(st.pieces.length:Int))) (qfj (pSound _)) (qqv (qfj (pHeld _))) ?_ _ ⟨fun hb2=>?_,fun hb2=>?_⟩))
  ·refine Pt.of (qO (pLast _ _ (qcx ?_)))
   walk_at "c"
   refine qbl inv.top (by refine substr hlm ?_;exact qnt k9 k11) (qw (qqc ?_))
   refine substr hlm ?_
   exact qxh (asB (iAA rfl rfl Sub.refl))
  ·walk_at "n"
   refine(iEA Hk Sub.refl (h L Hk inv.sub inv.newL ?_))
   have:qak t=st.pieces:=by unfold qak;refine substr hend.symm (substr (if_pos (by unfold okP;exact hb2)) rfl)
   refine substr this ?_
   exact inv.pat
  ·refine qae (qd (qae (qd (qQ (qi ⟨qJ rfl,fun r1 hr1=>qi ⟨qJ rfl,fun r2 hr2=>?_⟩⟩)))))
   have hne2:r1≠r2:=fun q=>by rw[q,upd_same] at hr2;exact o_sn hr2
   refine(iEA _ Sub.refl (h r2 _ (Sub.new (Sub.new inv.sub hr1) hr2) ?_ ?_))
   ·exact inv.sub.none ((qe (Ne.symm hne2)).symm.trans hr2)
   ·have:qak t=[[Str.ofString "none"]]:=by unfold qak;refine substr hend.symm (substr (if_neg (by unfold okP;rw[hb2];decide)) rfl)
    refine substr this ?_
    refine⟨[r1],upd_same,rfl,?_⟩
    intro k a p q1 q2
    cases k with
    | zero=>simp at q1 q2;subst q1 q2;exact(qe hne2).trans upd_same
    | succ k=>simp at q1
theorem qk0(ok:Ok (KF w.params) glob q7 D (n+1)){c:Nat}(hc:c<128)(h:Φ (S (qgr c)) M H):
 ∀ vs,vs.map norm=[S (qC c)]->WV (model prog w) D (call (.ref 200) vs) M H Φ E:=by
 refine qba ok (by rfl) (by rfl) ["pattern"] [("pattern",.local),("isinstance",.globalImplicit),("str",.globalImplicit),("_special_chars_map",.globalImplicit)] ?hb (by rfl) (by rfl) (by decide) (by decide) (by rfl) ?_
 case hb=>intro vs h;obtain⟨a,rfl⟩:=ex1 h;rfl
 intro D' env ok' ke hlo hf
 refine qbp (qao (qF ?_))
 walk_at "n"
 refine qY (qp qu (qd ?_))
 walk_at "n"
 refine qd ?_
 walk_at "n"
 refine qi (qkW (qcA ⟨fun _=>?_,fun h=>by cases h⟩))
 refine qaw (qcc F.slot_str_translate F.type_str_translate ?_)
 walk_at "n"
 refine⟨_,rfl,fun v hv=>qp qu (qd ?_)⟩
 walk_at "n"
 refine qi (qis ok' hc ⟨H,Sub.refl,h⟩ v hv)
noncomputable def pv(st:Addr):Option Str->Value
 | none=>.ref st
 | some x=>S x
noncomputable def qb9(acc:List (Option Str)):Bool:=match acc[acc.length-1]? with
 | some none=>true
 | _=>false
noncomputable def qcq(c:Nat)(acc:List (Option Str)):List (Option Str):=
 if (qC c==Str.ofString "*")=true then(if (acc.isEmpty||!qb9 acc)=true then acc++[none] else acc)
 else if (qC c==Str.ofString "?")=true then acc++[some (Str.ofString ".")] else acc++[some (qgr c)]
noncomputable def trP(pat:Str):List (Option Str):=pat.cps.toList.foldl (fun acc c=>qcq c acc) []
inductive TrJ(H:AH)(pat:Str)(st R q:Addr)(m:Nat)(M:Loc)(Hk:AH):Prop
 | mk(i:Nat)(acc:List (Option Str))(hi:i<=pat.length)(hm:m=pat.length-i)(hal:acc.length<=i)(hS:Sub H Hk)(hR:Hk R=some (lst (acc.map (pv st))))(hq:Hk q=some (.raw (LA.bapp R)))
  (k1:look "pat" M=some (S pat)) (k2:look "STAR" M=some (.ref st)) (k3:look "QUESTION_MARK" M=some (S (Str.ofString "."))) (k4:look "res" M=some (.ref R)) (k5:look "add" M=some (.ref q)) (k6:look "i" M=some (I i)) (k7:look "n" M=some (I pat.length))
  (k8:(pat.cps.toList.drop i).foldl (fun acc c=>qcq c acc) acc=trP pat)
theorem qqG(ok:Ok (KF w.params) glob q7 D (n+2)){pat:Str}{st:Addr}(hp:pat.length<=1000)(hc:∀ c∈pat.cps.toList,c<128/\c≠91)
 (h:∀ R Hs,Sub H Hs->H R=none->Hs R=some (lst ((trP pat).map (pv st)))->Φ (.ref R) M Hs):
 ∀ vs,vs.map norm=[S pat,.ref st,S (Str.ofString ".")]->WV (model prog w) D (call (.ref 207) vs) M H Φ E:=by
 refine qba ok (by rfl) (by rfl) ["pat", "STAR", "QUESTION_MARK"] [("pat",.local),("STAR",.local),("QUESTION_MARK",.local),("res",.local),("add",.local),("i",.local),("n",.local),("c",.local),("j",.local),("stuff",.local),("chunks",.local),("k",.local),("chunk",.local),
  ("len",.globalImplicit),("range",.globalImplicit),("_twin_re_1",.globalImplicit),("escape",.globalImplicit)] ?hb (by rfl) (by rfl) (by decide) (by decide) (by rfl) ?_
 case hb=>intro vs h;(refine qd9 (ex3 h) fun a b c e3'=>?_;obtain rfl:=e3');rfl
 intro D' env ok' ke hlo hf
 have big:(100000:Nat)<=sizeLine:=by decide
 have b63:(100000:Nat)<2^63:=by decide
 refine qI (qae (qi ⟨qJ rfl,fun R hR=>?_⟩))
 walk_at "s"
 refine qI (qgR (l:=R) (xs:=[]) ?_)
 walk_at "n"
 refine(iAA rfl upd_same (fun q hq=>?_))
 walk_at "s"
 refine qdF ok'.hand ke (by rfl) (by rfl) (qaa (qd (qw (qd ?_))))
 walk_at "c"
 refine qb2 (qbr hp) (qi ⟨qJ rfl,fun T hT=>⟨T,_,_,rfl,upd_same,?_⟩⟩)
 refine qj ?_;walk_at "s"
 refine qj ?_;walk_at "s"
 refine qN ?_
 have hqR:q≠R:=fun e=>by rw[e,upd_same] at hq;exact o_sn hq
 refine qeM (TrJ H pat st R q)
  (n:=pat.length) ⟨0,[],Nat.zero_le _,rfl,Nat.le_refl _,by walk_at "b",by walk_at "h",by walk_at "h",by walk_at "l",by walk_at "l",by walk_at "l",by walk_at "l",by walk_at "l",by walk_at "l",by walk_at "l",rfl⟩ ?_
 rintro m M2 Hk ⟨i,acc,hi,rfl,hal,hS,hRk,hqk,k1,k2,k3,k4,k5,k6,k7,k8⟩
 refine qO ?_
 walk_at "n"
 walk_at "n"
 have hml:(acc.map (pv st)).length=acc.length:=length_map ..
 refine qhA (asB ⟨fun hb=>?_,fun hb=>?_⟩)
 ·have hlt:i<pat.length:=by have:=of_decide_eq_true hb;exact qlD this
  have hlt':i<pat.cps.toList.length:=hlt
  obtain⟨c,hcc⟩:∃ c,pat.cps.toList[i]?=some c:=⟨_,getElem?_eq_getElem hlt'⟩
  have hcm:=hc c (mem_of_getElem? hcc)
  rw[qap hcc,List.foldl_cons] at k8
  have hix:(seqIndex? (i:Int) pat.length).bind (pat.cps[·]?)=some c:=by
   refine substr (qbT hlt) ?_;simpa using hcc
  have q1 : -(2^63)<=(i:Int):=qjn
  have q2:(i:Int)<2^63:=qnv hp hlt
  refine qI (qW ?_)
  walk_at "n"
  walk_at "n"
  refine qdP q1 q2 hix ?_
  walk_at "s"
  refine qI (qK ?_)
  walk_at "n"
  refine qw (qcO ?_)
  refine substr (show I ((i:Int)+1)=I ((i+1:Nat):Int) from rfl) ?_
  walk_at "s"
  have hRn:H R=none:=hR
  have fin:∀(acc':List (Option Str)) (H5:AH),qcq c acc=acc'->acc'.length<=i+1->Sub H H5->H5 R=some (lst (acc'.map (pv st)))->H5 q=some (.raw (LA.bapp R))->LtJ (pat.length-i) (TrJ H pat st R q) (put "i" (I ((i+1:Nat):Int)) (put "c" (S (qC c)) M2)) H5:=by
   intro acc' H5 e a1 a2 a3 a4
   rw[e] at k8
   exact⟨pat.length-(i+1),by exact qfd hlt,i+1,acc',by exact qc0 hlt,rfl,a1,a2,a3,a4,by walk_at "l",by walk_at "l",by walk_at "l",by walk_at "l",by walk_at "l",by walk_at "l",by walk_at "l",k8⟩
  have hSa:∀ {xs:List Value},Sub H (upd Hk R (lst xs)):=fun {xs} b d hb=>(qe fun e=>by rw[e,hRn] at hb;exact o_ns hb).trans (hS b d hb)
  have qa:∀ {xs:List Value},(upd Hk R (lst xs)) q=some (.raw (LA.bapp R)):=fun {xs}=>(qe hqR).trans hqk
  have al:∀ {xs:List (Option Str)} {x:Option Str},xs.map (pv st)++[pv st x]=(xs++[x]).map (pv st):=fun {xs x}=>by simp
  refine qcR (b:=qC c==Str.ofString "*") (Pt.of (qO ?_)) (fun h1=>qbD ?_) fun h1=>qbD ?_
  ·walk_at "n"
   exact qQ (qb5 (asB (iAA rfl rfl Sub.refl)))
  ·have e1:qcq c acc=if (acc.isEmpty||!qb9 acc)=true then acc++[none] else acc:=by unfold qcq;refine substr (if_pos h1) rfl
   refine qcR (b:=acc.isEmpty||!qb9 acc) ?_ (fun h2=>qbD ?_) fun h2=>?_
   ·refine fun Φ hΦ=>qdz (qfE (qfD (qao ?_)))
    walk_at "n"
    have e2:(acc.map (pv st)).isEmpty=acc.isEmpty:=by cases acc<;>rfl
    refine qfO hRk (by refine substr hml ?_;exact qtq hp hal hlt) ⟨fun hb=>?_,fun hb=>?_⟩
    ·rw[e2,Bool.not_not] at hb
     rw[hb] at hΦ
     have hpos:0<acc.length:=by cases acc with | nil=>simp at hb | cons a r=>simp
     obtain⟨z,hz⟩:∃ z,acc[acc.length-1]?=some z:=⟨_,getElem?_eq_getElem (qjo hpos)⟩
     have hxz:(acc.map (pv st))[((-1:Int)+((acc.map (pv st)).length:Int)).toNat]?=some (pv st z):=by
      refine substr hml (substr (show((-1:Int)+(acc.length:Int)).toNat=acc.length-1 from by exact qjp) (substr getElem?_map (substr hz ?_)));rfl
     refine qfE (qO (qW ?_))
     walk_at "n"
     refine qdi (qw ⟨1,rfl,?_⟩)
     refine qdg hRk (by decide) (by refine substr hml ?_;exact qhc hpos) (by decide) hxz ?_
     walk_at "n"
     cases z with
     | none=>
      have:qb9 acc=true:=by unfold qb9;refine substr hz rfl
      rw[this] at hΦ
      exact qe5 (asB ⟨fun _=>qkF hΦ,fun h=>by cases h⟩)
     | some x=>
      have:qb9 acc=false:=by unfold qb9;refine substr hz rfl
      rw[this] at hΦ
      exact qfN (asB ⟨fun h=>(by cases h),fun _=>hΦ⟩)
    ·rw[e2,Bool.not_not] at hb
     rw[hb] at hΦ
     exact hΦ
   ·rw[if_pos h2] at e1
    refine qaq (qF ?_) ke
    walk_at "n"
    refine qad (qcf (l:=R) (qd ?_))
    walk_at "n"
    refine qi ⟨hqk,qcE hqk hRk (by refine substr hml ?_;exact qjr hp big hal hlt) ⟨rfl,qy (fin _ _ e1 (by simp;exact qd7 hal) hSa ?_ qa)⟩⟩
    refine substr upd_same ?_;exact congrArg (fun z=>some (lst z)) (al (x:=none))
   ·rw[if_neg (by refine substr h2 ?_;decide)] at e1
    exact qbG (qy (fin _ _ e1 (qjd hal) hS hRk hqk))
  ·refine qcR (b:=qC c==Str.ofString "?") (Pt.of (qO ?_)) (fun h2=>qbD ?_) fun h2=>qbD ?_
   ·walk_at "n"
    exact qQ (qb5 (asB (iAA rfl rfl Sub.refl)))
   ·have e1:qcq c acc=acc++[some (Str.ofString ".")]:=by unfold qcq;refine substr (if_neg (by refine substr h1 ?_;decide)) (substr (if_pos h2) rfl)
    refine qaq (qF ?_) ke
    walk_at "n"
    refine qad (qcf (l:=R) (qd ?_))
    walk_at "n"
    refine qi ⟨hqk,qcE hqk hRk (by refine substr hml ?_;exact qjr hp big hal hlt) ⟨rfl,qy (fin _ _ e1 (by simp;exact qd7 hal) hSa ?_ qa)⟩⟩
    refine substr upd_same ?_;exact congrArg (fun z=>some (lst z)) (al (x:=some (Str.ofString ".")))
   ·have h3:(qC c==Str.ofString "[")=false:=by
     refine substr (propext beq_eq_false_iff_ne) ?_
     intro e
     have e':qC c=⟨#[91]⟩:=e.trans (by decide +kernel)
     injection e' with e'
     have:=congrArg Array.toList e'
     simp at this
     exact hcm.2 this
    refine qcR (b:=qC c==Str.ofString "[") (Pt.of (qO ?_)) (fun h2=>by rw[h3] at h2;cases h2) fun _=>qbD ?_
    ·walk_at "n"
     exact qQ (qb5 (asB (iAA rfl rfl Sub.refl)))
    ·have e1:qcq c acc=acc++[some (qgr c)]:=by unfold qcq;refine substr (if_neg (by refine substr h1 ?_;decide)) (substr (if_neg (by refine substr h2 ?_;decide)) rfl)
     refine qaq (qF ?_) ke
     walk_at "n"
     refine qad (qcf (l:=R) (qd (qF ?_)))
     walk_at "n"
     refine qad (qp (qan ok' (by rfl)) (qd ?_))
     walk_at "n"
     refine qi (qk0 ok' hcm.1 (qi ⟨hqk,qcE hqk hRk (by refine substr hml ?_;exact qjr hp big hal hlt) ⟨rfl,qy (fin _ _ e1 (by simp;exact qd7 hal) hSa ?_ qa)⟩⟩))
     refine substr upd_same ?_;exact congrArg (fun z=>some (lst z)) (al (x:=some (qgr c)))
 ·have he:i=pat.length:=by have:=of_decide_eq_false hb;exact qnw hi this
  subst he
  rw[show pat.length=pat.cps.toList.length from rfl,List.drop_length] at k8
  refine qdU (qO ?_)
  walk_at "n"
  walk_at "n"
  refine qds (asB ⟨by simp,qaw ?_⟩)
  walk_at "n"
  refine(iEA Hk Sub.refl (h R Hk hS hR ?_))
  refine substr k8.symm ?_;exact hRk
section
section
noncomputable def dotS:Str:=Str.ofString ".*"
noncomputable def preS:Str:=Str.ofString "(?>.*?"
noncomputable def parS:Str:=Str.ofString ")"
noncomputable def jS:List (Option Str)->List Str->Option (List Str)->List Str
 | [],acc,none=>acc
 | [],acc,some []=>acc++[dotS]
 | [],acc,some (f::r)=>acc++[dotS]++[Txt.join emp (f::r)]
 | none::r,acc,none=>jS r acc (some [])
 | none::r,acc,some fx=>jS r (acc++[preS++Txt.join emp fx++parS]) (some [])
 | some x::r,acc,none=>jS r (acc++[x]) none
 | some x::r,acc,some fx=>jS r acc (some (fx++[x]))
noncomputable def qjZ(inp:List (Option Str)):Str:=Str.ofString "(?s:" ++ Txt.join emp (jS inp [] none)++Str.ofString ")\\Z"
noncomputable def ls(acc:List Str):Nat:=(acc.map (·.length)).sum
theorem qdI(a b:List Str):ls (a++b)=ls a+ls b:=by simp[ls]
theorem qdJ(x:Str):ls [x]=x.length:=by simp[ls]
theorem qhW(ys:List Str):(Txt.join emp ys).length<=ls ys:=by
 show(Builtin.Str.glued emp ys).length<=_
 refine substr (StrLaws.glued_eq_join ..) ?_
 have:=StrLaws.join_length_le emp ys
 have e:emp.length=0:=by decide +kernel
 rw[e] at this
 exact this
structure JL(L st R q:Addr)(N i:Nat)(M:Loc):Prop where
 inp:look "inp" M=some (.ref L)
 star:look "STAR" M=some (.ref st)
 res:look "res" M=some (.ref R)
 add:look "add" M=some (.ref q)
 i_:look "i" M=some (I i)
 n_:look "n" M=some (I N)
structure HK(H Hk:AH)(R q:Addr)(acc:List Str):Prop where
 sub:Sub H Hk
 res:Hk R=some (lst (acc.map S))
 add:Hk q=some (.raw (LA.bapp R))
theorem HK.up{H Hk Hx:AH}{R q:Addr}{acc:List Str}(h:HK H Hk R q acc)(s:Sub Hk Hx):HK H Hx R q acc:=⟨h.sub.trans s,s _ _ h.res,s _ _ h.add⟩
theorem HK.app{H Hk:AH}{R q:Addr}{acc:List Str}(h:HK H Hk R q acc)(hq:q≠R)(hR:H R=none)(x:Str):HK H (upd Hk R (lst (acc.map S++[S x]))) R q (acc++[x]):=
 ⟨fun b d hb=>(qe fun e=>by rw[e,hR] at hb;exact o_ns hb).trans (h.sub b d hb),by refine substr upd_same (substr map_append ?_);rfl,(qe hq).trans h.add⟩
theorem HK.app'{H Hk:AH}{R q st:Addr}{acc:List Str}(h:HK H Hk R q acc)(hq:q≠R)(hR:H R=none)(x:Str):HK H (upd Hk R (lst (acc.map S++[pv st (some x)]))) R q (acc++[x]):=h.app hq hR x
section
variable(H:AH)(L st R q:Addr)
inductive J8a(inp:List (Option Str))(T:List Str)(m:Nat)(M:Loc)(Hk:AH):Prop
 | mk(i:Nat)(acc:List Str)(hi:i<=inp.length)(hm:m=inp.length-i)(j:JL L st R q inp.length i M)(k:HK H Hk R q acc)(hjs:jS (inp.drop i) acc none=T)(hls:ls acc<=2*i)(hal:acc.length<=i)
inductive P8a(inp:List (Option Str))(T:List Str)(M:Loc)(Hk:AH):Prop
 | mk(i:Nat)(acc:List Str)(hi:i<=inp.length)(j:JL L st R q inp.length i M)(k:HK H Hk R q acc)(h1:i<inp.length->inp[i]?=some none/\jS (inp.drop (i+1)) acc (some [])=T)(h2:i=inp.length->acc=T)(hls:ls acc<=10*i)(hal:acc.length<=2*i)
inductive J8b(inp:List (Option Str))(T:List Str)(m:Nat)(M:Loc)(Hk:AH):Prop
 | mk(i:Nat)(acc:List Str)(hi:i<=inp.length)(hm:m=inp.length-i)(j:JL L st R q inp.length i M)(k:HK H Hk R q acc)(h1:i<inp.length->inp[i]?=some none/\jS (inp.drop (i+1)) acc (some [])=T)(h2:i=inp.length->acc=T)(hls:ls acc<=10*i)(hal:acc.length<=2*i)
inductive P8b(inp:List (Option Str))(T:List Str)(M:Loc)(Hk:AH):Prop
 | mk(j:JL L st R q inp.length inp.length M)(k:HK H Hk R q T)(hls:ls T<=10*inp.length+10)(hal:T.length<=2*inp.length+2)
variable(Fd:Addr)
inductive J8c(inp:List (Option Str))(T acc:List Str)(i:Nat)(x1:Str)(m:Nat)(M:Loc)(Hk:AH):Prop
 | mk(i2:Nat)(fx:List Str)(hi2:i2<=inp.length)(hm:m=inp.length-i2)(j:JL L st R q inp.length i2 M)(yf:look "fixed" M=some (.ref Fd)) (k:HK H Hk R q acc) (hF:Hk Fd=some (lst (fx.map S))) (hj:jS (inp.drop i2) acc (some fx)=T)
  (hz:fx=[]->inp[i2]?=some (some x1)) (hl:ls fx<=2*fx.length) (hl5:i+1+fx.length=i2)
inductive P8c(inp:List (Option Str))(T acc:List Str)(i:Nat)(M:Loc)(Hk:AH):Prop
 | mk(i2:Nat)(f:Str)(fx:List Str)(hi2:i2<=inp.length)(j:JL L st R q inp.length i2 M)(yf:look "fixed" M=some (.ref Fd)) (k:HK H Hk R q acc) (hF:Hk Fd=some (lst ((f::fx).map S)))
  (h1:i2<inp.length->inp[i2]?=some none/\jS (inp.drop (i2+1)) (acc++[preS++Txt.join emp (f::fx)++parS]) (some [])=T) (h2:i2=inp.length->acc++[dotS]++[Txt.join emp (f::fx)]=T) (hl:ls (f::fx)<=2*(f::fx).length) (hl5:i+1+(f::fx).length=i2)
end
theorem qo6(ok:Ok (KF w.params) glob q7 D (n+1)){L st:Addr}{inp:List (Option Str)}(hL:H L=some (lst (inp.map (pv st))))(hN:inp.length<=1000)(hna:∀ k,inp[k]?=some none->inp[k+1]?≠some none)(hx:∀ x,some x∈inp->x.length<=2)
 (h:Φ (S (qjZ inp)) M H):∀ vs,vs.map norm=[.ref L,.ref st]->WV (model prog w) D (call (.ref 214) vs) M H Φ E:=by
 refine qba ok (by rfl) (by rfl) ["inp", "STAR"] [("inp",.local),("STAR",.local),("res",.local),("add",.local),("i",.local),("n",.local),("fixed",.local),("len",.globalImplicit)] ?hb (by rfl) (by rfl) (by decide) (by decide) (by rfl) ?_
 case hb=>intro vs h;(refine oEE (ex2 h) fun a b e2'=>?_;obtain rfl:=e2');rfl
 intro D' env ok' ke hlo hf
 have big:(1000000:Nat)<=sizeLine:=by decide
 have b63:(1000000:Nat)<2^63:=by decide
 have hml:(inp.map (pv st)).length=inp.length:=length_map ..
 have e0:emp.length=0:=by decide +kernel
 generalize hT:jS inp [] none=T
 refine qI (qae (qi ⟨qJ rfl,fun R hR=>?_⟩))
 walk_at "s"
 refine qI (qgR (l:=R) (xs:=[]) ?_)
 walk_at "n"
 refine(iAA rfl upd_same (fun q hq=>?_))
 walk_at "s"
 refine qdF ok'.hand ke (by rfl) (by rfl) (qaa (qd (qw (qd ?_))))
 walk_at "c"
 refine qbl (xs:=inp.map (pv st)) (by walk_at "h" <;> exact hL) (qnh hN hml) ?_
 refine substr hml ?_
 refine qi ⟨qJ rfl,fun T0 hT0=>⟨T0,_,_,rfl,upd_same,?_⟩⟩
 refine qj ?_;walk_at "s"
 refine qj ?_;walk_at "s"
 refine qN ?_
 have hqR:q≠R:=fun e=>by rw[e,upd_same] at hq;exact o_sn hq
 have item:∀ {M2:Loc} {Hk:AH} {i:Nat} {z:Option Str} {Φ:Value->Loc->AH->Prop} {p1 p2 p3:Pos},JL L st R q inp.length i M2->Hk L=some (lst (inp.map (pv st)))->inp[i]?=some z->Φ (pv st z) M2 Hk->WV (model prog w) D' (eval (.Subscript (.Name (Str.ofString "inp") p1) (.Name (Str.ofString "i") p2) p3) env) M2 Hk Φ NoE:=by
  intro M2 Hk i z Φ p1 p2 p3 j hk hz hΦ
  obtain⟨j1,j2,j3,j4,j5,j6⟩:=j
  have hi:i<inp.length:=(List.getElem?_eq_some_iff.mp hz).1
  refine qW ?_
  walk_at "n"
  walk_at "n"
  exact qb0 hk (qdp) (qnv hN hi) (by simp[hz]) hΦ
 have isNot:∀ {M2:Loc} {Hk:AH} {z:Option Str} {Φ:Value->Loc->AH->Prop},Φ (.bool z.isSome) M2 Hk->∀ v u,norm v=pv st z->norm u=.ref st->WV (model prog w) D' (compareOp .IsNot v u) M2 Hk Φ NoE:=by
  intro M2 Hk z Φ hΦ
  cases z with
  | none=>exact qe5 hΦ
  | some x=>exact qfN hΦ
 have isStar:∀ {M2:Loc} {Hk:AH} {Φ:Value->Loc->AH->Prop},Φ (.bool true) M2 Hk->∀ v u,norm v=pv st none->norm u=.ref st->WV (model prog w) D' (compareOp .Is v u) M2 Hk Φ NoE:=fun hΦ=>qfg hΦ
 have jnext:∀ {M2:Loc} {i:Nat},JL L st R q inp.length i M2->JL L st R q inp.length (i+1) (put "i" (I ((i+1:Nat):Int)) M2):=by
  rintro M2 i ⟨j1,j2,j3,j4,j5,j6⟩
  exact⟨by walk_at "l",by walk_at "l",by walk_at "l",by walk_at "l",by walk_at "l",by walk_at "l"⟩
 have jfix:∀ {M2:Loc} {i:Nat} {p:Value},JL L st R q inp.length i M2->JL L st R q inp.length i (put "fixed" p M2):=by
  rintro M2 i p ⟨j1,j2,j3,j4,j5,j6⟩
  exact⟨by walk_at "l",by walk_at "l",by walk_at "l",by walk_at "l",by walk_at "l",by walk_at "l"⟩
 have more:∀ {M2:Loc} {Hk:AH} {i:Nat} {z:Option Str} {p1 p2 p3 p4 p5 p6 p7 p8 p9:Pos},JL L st R q inp.length i M2->Hk L=some (lst (inp.map (pv st)))->inp[i]?=some z->i<=inp.length->
  Pt prog w D' env (.BoolOp .And [.Compare (.Name (Str.ofString "i") p1) [.Lt] [.Name (Str.ofString "n") p2] p3,.Compare (.Subscript (.Name (Str.ofString "inp") p4) (.Name (Str.ofString "i") p5) p6) [.IsNot] [.Name (Str.ofString "STAR") p7] p8] p9) z.isSome M2 Hk NoE:=by
  intro M2 Hk i z p1 p2 p3 p4 p5 p6 p7 p8 p9 j hk hz hi
  have hlt:i<inp.length:=(List.getElem?_eq_some_iff.mp hz).1
  have:z.isSome=(true&&z.isSome):=by simp
  refine substr this ?_
  refine qhO (Pt.of (qO ?_)) fun _=>Pt.of (qO ?_)
  ·obtain⟨j1,j2,j3,j4,j5,j6⟩:=j
   walk_at "n"
   walk_at "n"
   exact qhA (asB (iAA (by simp;exact qlA hlt) rfl Sub.refl))
  ·refine item j hk hz ?_
   obtain⟨j1,j2,j3,j4,j5,j6⟩:=j
   walk_at "n"
   exact isNot (asB (iAA rfl rfl Sub.refl))
 have noMore:∀ {M2:Loc} {Hk:AH} {i:Nat} {p1 p2 p3 p9:Pos} {e:Expr},JL L st R q inp.length i M2->i=inp.length->
  Pt prog w D' env (.BoolOp .And [.Compare (.Name (Str.ofString "i") p1) [.Lt] [.Name (Str.ofString "n") p2] p3,e] p9) false M2 Hk NoE:=by
  intro M2 Hk i p1 p2 p3 p9 e j hi
  have:false=(false&&true):=rfl
  refine substr this ?_
  refine qhO (Pt.of (qO ?_)) fun h=>by cases h
  obtain⟨j1,j2,j3,j4,j5,j6⟩:=j
  walk_at "n"
  walk_at "n"
  exact qhA (asB (iAA (by simp;exact qna hi) rfl Sub.refl))
 have ipp:∀ i:Nat,I ((i:Int)+1)=I ((i+1:Nat):Int):=fun _=>rfl
 refine qc4 (J8a H L st R q inp T)
  (P8a H L st R q inp T)
  (n:=inp.length) ⟨0,[],Nat.zero_le _,rfl,⟨by walk_at "l",by walk_at "l",by walk_at "l",by walk_at "l",by walk_at "l",by walk_at "l"⟩,⟨by walk_at "b",by walk_at "h",by walk_at "h"⟩,hT,Nat.le_refl _,Nat.le_refl _⟩ ?_ ?_
 ·rintro m M2 Hk ⟨i,acc,hi,rfl,j,k,hjs,hls,hal⟩
  rcases Nat.lt_or_ge i inp.length with hlt | hge
  ·obtain⟨z,hz⟩:∃ z,inp[i]?=some z:=⟨_,getElem?_eq_getElem hlt⟩
   rw[qap hz] at hjs
   refine more j (k.sub _ _ hL) hz hi _ ⟨fun hb=>?_,fun hb=>?_⟩
   ·obtain⟨x,rfl⟩:=Option.isSome_iff_exists.mp hb
    have hxl:=hx x (mem_of_getElem? hz)
    have jj:=j
    obtain⟨j1,j2,j3,j4,j5,j6⟩:=j
    refine qaq (qF ?_) ke
    walk_at "n"
    refine qad (qcf (l:=R) (qd ?_))
    refine item jj (k.sub _ _ hL) hz (qi ⟨k.add,qcE k.add k.res (by refine substr (length_map ..) ?_;exact qlG hN big hal hlt) ⟨rfl,?_⟩⟩)
    refine qbs (by walk_at "d") (qw (qa7 ?_))
    refine substr (ipp ..) ?_
    walk_at "s"
    exact qy ⟨inp.length-(i+1),by exact qfd hlt,i+1,acc++[x],by exact qc0 hlt,rfl,jnext jj,k.app' hqR hR x,hjs,by refine substr (qdI ..) (substr (qdJ ..) ?_);exact qnx hls hxl,by simp;exact qd7 hal⟩
   ·have hzn:z=none:=by cases z with | none=>rfl | some x=>simp at hb
    subst hzn
    exact⟨i,acc,hi,j,k,fun _=>⟨hz,hjs⟩,fun e=>absurd e (Nat.ne_of_lt hlt),by exact qny hls,by exact qnz hal⟩
  ·have he:i=inp.length:=Nat.le_antisymm hi hge
   refine noMore j he _ ⟨fun h=>(by cases h),fun _=>?_⟩
   rw[he,List.drop_length] at hjs
   exact⟨i,acc,hi,j,k,fun h=>absurd he (Nat.ne_of_lt h),fun _=>hjs,by exact qny hls,by exact qnz hal⟩
 ·rintro M2 Hk ⟨i,acc,hi,j,k,hs1,hs2,hls,hal⟩
  refine qc4 (J8b H L st R q inp T)
   (P8b H L st R q inp T)
   (n:=inp.length-i) ⟨i,acc,hi,rfl,j,k,hs1,hs2,hls,hal⟩ ?_ ?_
  ·rintro m M2 Hk ⟨i,acc,hi,rfl,j,k,hs1,hs2,hls,hal⟩
   have jj:=j
   obtain⟨j1,j2,j3,j4,j5,j6⟩:=j
   refine qO ?_
   walk_at "n"
   walk_at "n"
   refine qhA (asB ⟨fun hb=>?_,fun hb=>?_⟩)
   ·have hlt:i<inp.length:=by have:=of_decide_eq_true hb;exact qlD this
    obtain⟨hz,hjs⟩:=hs1 hlt
    refine qdU (qO (item jj (k.sub _ _ hL) hz ?_))
    walk_at "n"
    refine isStar (asB ⟨rfl,?_⟩)
    refine qbs (by walk_at "d") (qw (qa7 ?_))
    refine substr (ipp ..) ?_
    walk_at "s"
    have jn:=jnext jj
    generalize put "i" (I ((i+1:Nat):Int)) M2=M3 at jn
    have jn':=jn
    obtain⟨n1,n2,n3,n4,n5,n6⟩:=jn'
    refine qcR (b:=decide (i+1=inp.length)) (Pt.of (qO ?_)) (fun h1=>?_) fun h1=>qbG ?_
    ·walk_at "n"
     walk_at "n"
     refine qds (asB (iAA ?_ rfl Sub.refl))
     by_cases e:i+1=inp.length
     ·refine substr (decide_eq_true e) (substr e.symm ?_);simp
     ·refine substr (decide_eq_false e) (substr (propext beq_eq_false_iff_ne) ?_);exact qtr e
    ·have he:i+1=inp.length:=of_decide_eq_true h1
     rw[he,List.drop_length] at hjs
     refine qaq (qF ?_) ke
     walk_at "n"
     refine qad (qcf (l:=R) (qd (qQ (qi ⟨k.add,qcE k.add k.res (by refine substr (length_map ..) ?_;exact qts hN big hal he) ⟨rfl,?_⟩⟩))))
     refine qiG ⟨rfl,by rw[he] at jn;exact jn,?_,?_,?_⟩
     ·refine substr hjs.symm ?_;exact k.app hqR hR dotS
     ·refine substr hjs.symm ?_;show ls (acc++[dotS])<=_;refine substr (qdI ..) (substr (qdJ ..) ?_);have:dotS.length=2:=by decide +kernel
      exact qtt hls he this
     ·refine substr hjs.symm ?_;show(acc++[dotS]).length<=_;simp;exact qtu hal he
    ·have hlt1:i+1<inp.length:=by have:=of_decide_eq_false h1;exact qtv hlt this
     obtain⟨z1,hz1⟩:∃ z,inp[i+1]?=some z:=⟨_,getElem?_eq_getElem hlt1⟩
     have hz1n:z1≠none:=fun e=>hna i hz (by refine substr hz1 (substr e rfl))
     obtain⟨x1,rfl⟩:=Option.ne_none_iff_exists'.mp hz1n
     refine qdU (qO (item jn (k.sub _ _ hL) hz1 ?_))
     walk_at "n"
     refine isNot (asB ⟨rfl,?_⟩)
     refine qI (qae (qi ⟨qJ rfl,fun Fd hF=>?_⟩))
     walk_at "s"
     have hFR:Fd≠R:=Ne.symm (qG hF k.res)
     have hFq:Fd≠q:=Ne.symm (qG hF k.add)
     have hFn:H Fd=none:=k.sub.none hF
     refine qc4 (J8c H L st R q Fd inp T acc i x1)
      (P8c H L st R q Fd inp T acc i)
      (n:=inp.length-(i+1)) ⟨i+1,[],by exact qtw hlt1,rfl,jfix jn,by walk_at "l",k.up (Sub.upd hF),by refine substr upd_same ?_;rfl,hjs,fun _=>hz1,by decide,rfl⟩ ?_ ?_
     ·rintro m M4 Hk4 ⟨i2,fx,hi2,rfl,y,yf,k4,hF4,hj4,hz4,hl4,hl5⟩
      have hml4:(fx.map S).length=fx.length:=length_map ..
      rcases Nat.lt_or_ge i2 inp.length with hlt2 | hge2
      ·obtain⟨z2,hz2⟩:∃ z,inp[i2]?=some z:=⟨_,getElem?_eq_getElem hlt2⟩
       rw[qap hz2] at hj4
       refine more y (k4.sub _ _ hL) hz2 hi2 _ ⟨fun hb=>?_,fun hb=>?_⟩
       ·obtain⟨x,rfl⟩:=Option.isSome_iff_exists.mp hb
        have hxl:=hx x (mem_of_getElem? hz2)
        have yy:=y
        obtain⟨y1,y2,y3,y4,y5,y6⟩:=y
        refine qaq (qa2 F.slot_list_append F.type_list_append ?_) ke
        walk_at "n"
        refine⟨Fd,_,rfl,hF4,qp qu (qd ?_)⟩
        refine item yy (k4.sub _ _ hL) hz2 (qi (qbB hF4 (qtx hN big hl5 hml4 hlt2) ⟨rfl,?_⟩))
        refine qbs (by walk_at "d") (qw (qa7 ?_))
        refine substr (ipp ..) ?_
        walk_at "s"
        refine qy ⟨inp.length-(i2+1),by exact qfd hlt2,i2+1,fx++[x],by exact qc0 hlt2,rfl,jnext yy,by walk_at "l",⟨fun b d hb=>(qe fun e=>by rw[e,hFn] at hb;exact o_ns hb).trans (k4.sub b d hb),(qe (Ne.symm hFR)).trans k4.res,(qe (Ne.symm hFq)).trans k4.add⟩,?_,hj4,fun e=>by simp at e,?_,?_⟩
        ·refine substr upd_same (substr map_append ?_);rfl
        ·refine substr (qdI ..) (substr (qdJ ..) ?_);simp;exact qnx hl4 hxl
        ·simp;exact qty hl5
       ·have hzn:z2=none:=by cases z2 with | none=>rfl | some x=>simp at hb
        subst hzn
        cases fx with
        | nil=>rw[hz4 rfl] at hz2;cases hz2
        | cons f fx=>exact⟨i2,f,fx,hi2,y,yf,k4,hF4,fun _=>⟨hz2,hj4⟩,fun e=>absurd e (Nat.ne_of_lt hlt2),hl4,hl5⟩
      ·have he2:i2=inp.length:=Nat.le_antisymm hi2 hge2
       refine noMore y he2 _ ⟨fun h=>(by cases h),fun _=>?_⟩
       rw[he2,List.drop_length] at hj4
       cases fx with
       | nil=>have:=hz4 rfl;rw[he2,List.getElem?_eq_none (Nat.le_refl _)] at this;exact o_ns this
       | cons f fx=>exact⟨i2,f,fx,hi2,y,yf,k4,hF4,fun h=>absurd he2 (Nat.ne_of_lt h),fun _=>hj4,hl4,hl5⟩
     ·rintro M4 Hk4 ⟨i2,f,fx,hi2,y,yf,k4,hF4,hj4,hj5,hl4,hl5⟩
      have yy:=y
      obtain⟨y1,y2,y3,y4,y5,y6⟩:=y
      have hlen:=qhW (f::fx)
      have hfl:(f::fx).length<=1000:=qtz hN hi2 hl5
      refine qI (qcc F.slot_str_join F.type_str_join (qQ ⟨emp,rfl,fun v hv=>qp qu (qd ?_)⟩))
      walk_at "n"
      refine qi (qel (ys:=f::fx) hF4 (by refine substr e0 ?_;show ls (f::fx)+_*0<=_;exact qtA hl4 hfl) ?_ v hv)
      walk_at "s"
      have yn:=jfix (p:=S (Txt.join emp (f::fx))) yy
      have yn':=yn
      obtain⟨v1,v2,v3,v4,v5,v6⟩:=yn'
      have vf:look "fixed" (put "fixed" (S (Txt.join emp (f::fx))) M4)=some (S (Txt.join emp (f::fx))):=by walk_at "l"
      generalize put "fixed" (S (Txt.join emp (f::fx))) M4=M5 at yn v1 v2 v3 v4 v5 v6 vf
      generalize Txt.join emp (f::fx)=J at hj4 hj5 hlen vf
      refine qcR (b:=decide (i2=inp.length)) (Pt.of (qO ?_)) (fun h3=>?_) fun h3=>?_
      ·walk_at "n"
       walk_at "n"
       refine qds (asB (iAA ?_ rfl Sub.refl))
       by_cases e:i2=inp.length
       ·refine substr (decide_eq_true e) (substr e.symm ?_);simp
       ·refine substr (decide_eq_false e) (substr (propext beq_eq_false_iff_ne) ?_);exact qnj e
      ·have he:i2=inp.length:=of_decide_eq_true h3
       have hT5:=hj5 he
       refine qaq (qF ?_) ke
       walk_at "n"
       refine qad (qcf (l:=R) (qd (qQ (qi ⟨k4.add,qcE k4.add k4.res (by refine substr (length_map ..) ?_;exact qnA hN big hal hlt1) ⟨rfl,?_⟩⟩))))
       have k5:=k4.app hqR hR dotS
       refine qaq (qF ?_) ke
       walk_at "n"
       refine qad (qcf (l:=R) (qd ?_))
       walk_at "n"
       refine qi ⟨k5.add,qcE k5.add k5.res (by refine substr (length_map ..) ?_;simp;exact qtB hN big hal hlt1) ⟨rfl,?_⟩⟩
       have k6:=k5.app hqR hR J
       refine qbG (qy ⟨0,by exact qtC hlt1,i2,acc++[dotS]++[J],hi2,by exact qtD he,yn,k6,fun h=>absurd he (Nat.ne_of_lt h),fun _=>hT5,?_,?_⟩)
       ·refine substr (qdI ..) (substr (qdI ..) (substr (qdJ ..) (substr (qdJ ..) ?_)))
        have:dotS.length=2:=by decide +kernel
        exact qtE hls hl4 hl5 hlen this
       ·simp;exact qtF hal hlt1 he
      ·have hlt3:i2<inp.length:=by have:=of_decide_eq_false h3;exact qnB hi2 this
       obtain⟨hz5,hj6⟩:=hj4 hlt3
       have p1:preS.length=6:=by decide +kernel
       have p2:parS.length=1:=by decide +kernel
       refine qaq (qF ?_) ke
       walk_at "n"
       refine qad (qcf (l:=R) (qd (qgS (qQ (qeb preS rfl (by refine substr p1 ?_;exact qtG big) (qqC ?_))))))
       walk_at "n"
       refine(qiz J rfl (qtH big hl4 hfl hlen) J rfl (by refine substr (Str.length_append ..) ?_;exact qtI big hl4 hfl hlen p1) (qQ (qeb parS rfl (by refine substr (Str.length_append ..) (substr (Str.length_append ..) ?_);exact qtJ big hl4 hfl hlen p1 p2) ?_)))
       refine qi ⟨k4.add,qcE k4.add k4.res (by refine substr (length_map ..) ?_;exact qnA hN big hal hlt1) ⟨rfl,?_⟩⟩
       have k6:=k4.app hqR hR (preS++J++parS)
       refine qbG (qy ⟨inp.length-i2,by exact qtK hl5 hlt3,i2,acc++[preS++J++parS],hi2,rfl,yn,k6,fun _=>⟨hz5,hj6⟩,fun e=>absurd e (Nat.ne_of_lt hlt3),?_,?_⟩)
       ·refine substr (qdI ..) (substr (qdJ ..) (substr (Str.length_append ..) (substr (Str.length_append ..) ?_)))
        exact qtL hls hl4 hl5 hlen p1 p2
       ·simp;exact qtM hal hl5
   ·have he:i=inp.length:=by have:=of_decide_eq_false hb;exact qnw hi this
    have hT':=hs2 he
    rw[hT'] at k hls hal
    refine⟨by refine substr he.symm ?_;rw[<- he] at jj;exact jj,k,by exact qtN hls he,by exact qtO hal he⟩
  ·rintro M2 Hk ⟨⟨j1,j2,j3,j4,j5,j6⟩,k,hls,hal⟩
   have hlen:=qhW T
   refine qdU (qO ?_)
   walk_at "n"
   walk_at "n"
   refine qds (asB ⟨by simp,?_⟩)
   refine qI (qcc F.slot_str_join F.type_str_join (qQ ⟨emp,rfl,fun v hv=>qp qu (qd ?_)⟩))
   walk_at "n"
   refine qi (qel (ys:=T) k.res (by refine substr e0 ?_;show ls T+_*0<=_;exact qtP hN hls) ?_ v hv)
   walk_at "s"
   have p1:(Str.ofString "(?s:").length=4:=by decide +kernel
   have p2:(Str.ofString ")\\Z").length=3:=by decide +kernel
   refine qaw (qgS (qQ (qeb _ rfl (by refine substr p1 ?_;exact qtQ big) (qqC ?_))))
   walk_at "n"
   refine(qiz _ rfl (qtR hN big hls hlen) _ rfl (by refine substr (Str.length_append ..) ?_;exact qtS hN big hls hlen p1) (qQ (qp3 _ rfl (by refine substr (Str.length_append ..) (substr (Str.length_append ..) ?_);exact qtT hN big hls hlen p1 p2) H k.sub ?_)))
   unfold qjZ at h
   rw[hT] at h
   exact h
end
end
section
section
variable{K:Frag}{gl bl:List (String×Value)}
noncomputable def qes(cs:List (Str×Addr))(vs:List (Option Value))(H:AH):AH:=(cs.zip vs).foldr (fun p H=>upd H p.1.2 (.cell p.2)) H
theorem qg3{g h:Heap}{L:Addr}{news:List (Addr×Obj)}{cm:Str->Option Value}{H:AH}:∀ {cs:List (Str×Addr)} {cells:List (Addr×Obj)} (zs:List String),CellsAre cm cs cells->cs.map (·.1)=zs.map Str.ofString->News g L h (cells++news)->
 ∀ b d,qes cs (zs.map fun z=>(cm (Str.ofString z)).map norm) H b=some d->H b=some d\/(b≠L/\g.get? b=none/\ORep h b d):=by
 intro cs cells zs CA
 induction CA generalizing zs with
 | nil=>intro _ _ b d e;exact .inl e
 | @cons n c o cs cells ho _ ih=>
  intro hz N b d e
  cases zs with
  | nil=>cases hz
  | cons z zs=>
   injection hz with hz1 hz2
   have hz1:n=Str.ofString z:=hz1
   have hN:=N (c,o) (mem_cons_self ..)
   by_cases hb:b=c
   ·subst hb
    injection upd_same.symm.trans e with e
    exact e▸.inr ⟨hN.2.1,hN.2.2,cm (Str.ofString z),⟨o,hN.1,ho.trans (congrArg (fun x=>Data.cell (cm x)) hz1)⟩,rfl⟩
   ·exact ih zs hz2 (fun p hp=>N p (List.mem_cons_of_mem _ hp)) b d ((qe hb).symm.trans e)
theorem mrep_nil:MRep (fun _=>none) []:=fun _=>rfl
theorem qeR{m m':Str->Option Value}{M:Loc}(e:m=m')(h:MRep m' M):MRep m M:=e▸h
section
variable{k:Str->Option NameKind}{x:String}{v:Value}{r:List (Str×Value)}{m:Str->Option Value}
theorem qor{o:Option NameKind}(h:o=some .cell):¬ o=some .local:=fun e=>nomatch h.symm.trans e
theorem bL1(h:k (Str.ofString x)=some .local):bindL k ((Str.ofString x,v)::r) m=bindL k r fun y=>if y=Str.ofString x then some v else m y:=congrArg (bindL k r) (if_pos h)
theorem bL0(h:k (Str.ofString x)=some .cell):bindL k ((Str.ofString x,v)::r) m=bindL k r m:=congrArg (bindL k r) (if_neg (qor h))
theorem bC1(h:k (Str.ofString x)=some .local):bindC k ((Str.ofString x,v)::r) m=bindC k r m:=congrArg (bindC k r) (if_pos h)
theorem bC0(h:k (Str.ofString x)=some .cell):bindC k ((Str.ofString x,v)::r) m=bindC k r fun y=>if y=Str.ofString x then some v else m y:=congrArg (bindC k r) (if_neg (qor h))
theorem cl1{o z:Option Value}(e:o=z):[o.map norm]=[z.map norm]:=by rw[e]
theorem cl2{o z o' z':Option Value}(e:o=z)(e':o'=z'):[o.map norm,o'.map norm]=[z.map norm,z'.map norm]:=by rw[e,e']
end
theorem qhX(ok:Ok K gl bl D (n+1)){f:Addr}{oc:Value}{od:Option Addr}{osl:Array (Option Value)}{name qual:Str}{params:Arguments}{body:List Stmt}{scope:Scope}{dV kV doc pm cdv ct:Value}{an:Option Addr}
 (ho:K.lookup f=some ⟨oc,od,.func (fnOf name qual params body scope dV kV doc pm an cdv ct),osl⟩) (hcd:codeIn K cdv qual=true)
 (ns:List String) {ps:List Value} (ks:List (String×NameKind)) (zs:List String) (cv:List (Option Value)) (M0:Loc)
 (hbind:∀ vs,vs.length=ns.length->bindArgs (fnOf name qual params body scope dV kV doc pm an cdv ct) ⟨vs,[]⟩=pure ((ns.zip vs).map fun p=>(Str.ofString p.1,p.2)))
 (hlen:ps.length=ns.length) (hks:scope.names=ks.map fun p=>(Str.ofString p.1,p.2)) (hnd:qt "__debug__" ks=none)
 (hkinds:∀ n,∀ x∈ns,qt x ks=some .local\/(qt x ks=some .cell/\((cellsFrom n scope.names []).lookup (Str.ofString x)).isSome=true))
 (hndup:((cellsFrom 0 scope.names []).map (·.1)).Nodup) (hzs:∀ n,(cellsFrom n scope.names []).map (·.1)=zs.map Str.ofString)
 (hC:∀ kindOf:Str->Option NameKind,(∀ x,kindOf (Str.ofString x)=qt x ks)->∀ vs,vs.map norm=ps->zs.map (fun z=>(bindC kindOf ((ns.zip vs).map fun p=>(Str.ofString p.1,p.2)) (fun _=>none) (Str.ofString z)).map norm)=cv)
 (hM:∀ kindOf:Str->Option NameKind,(∀ x,kindOf (Str.ofString x)=qt x ks)->∀ vs,vs.map norm=ps->MRep (bindL kindOf ((ns.zip vs).map fun p=>(Str.ofString p.1,p.2)) fun _=>none) M0)
 (hb:∀(D':Dyn) (env:Env),Ok K gl bl D' n->KE env ks->env.locals=D'.L->env.frame=some D'.L->env.cells=cellsFrom (D'.L+1) scope.names []->(∀ b,D'.L<=b->H b=none)->
  WS (model prog w) D' (execs body env) M0 (qes env.cells cv H) (qqm Φ M) (fun _ _=>False))
 (hco:scope.isCoroutine=false:=by rfl) (hgen:scope.isGenerator=false:=by rfl) (hk:scope.kind=.function:=by rfl):
 ∀ vs,vs.map norm=ps->WV (model prog w) D (call (.ref f) vs) M H Φ E:=by
 intro vs hvs
 refine qfS (Φ:=fun v=>Φ (norm v)) ?_
 intro s hs
 refine qR hs.fr fun g0 m T F Rm=>?_
 refine qcw (ok.stays T) fun A₀ base outer env B hA hf hke Xb Gb Lb=>?_
 refine qbe hs.news fun news N0 hN hN'=>?_
 have N:=N0 g0 T
 have hvl:vs.length=ns.length:=by refine substr hlen.symm (substr hvs.symm (substr (length_map ..) rfl))
 have X:=(ok.X T).keeps F.keep
 obtain⟨FG,BG,st,-⟩:=groundX (R:=fun _ _=>True) B F N hA hf hke
 have kof:∀ x,(envOfC qual scope s.heap.objs.size f cdv).kindOf (Str.ofString x)=qt x ks:=fun x=>by
  show scope.names.lookup _=_
  refine substr hks (substr (qaI ..) rfl)
 refine wpAny_call ?_
 refine codeAny_call_function (Nat.lt_of_le_of_lt (Nat.le_add_right _ _) ok.room) (X _ _ ho) rfl hco hgen rfl (codeRec_of X hcd) (BindsTo.of_eq (hbind vs hvl) _ _ _ _ ?_)
 refine wpAny_newFunctionEnv_cells hk (fun y hy=>?_) fun env' he s' x=>?_
 ·(refine oEA (List.mem_map.mp hy) fun p hp e2'=>?_;obtain rfl:=e2')
  have hpn:p.1∈ns:=(List.of_mem_zip hp).1
  have e:scope.names.lookup (Str.ofString p.1)=qt p.1 ks:=by refine substr hks (substr (qaI ..) rfl)
  show scope.names.lookup _=_\/(scope.names.lookup _=_/\_)
  refine substr e ?_
  exact hkinds _ p.1 hpn
 subst he
 refine⟨(Lb.keeps fun b o e=>F.keep b o (B.stays b o e)).keeps x.toInCall.keep,codeAny_func ?_⟩
 (refine qbu x.done fun h₁ tk e2' _=>?_;obtain rfl:=e2')
 have hk₁:=x.toInCall.keep
 refine oEA (Cl.news (h₀:=s.heap) (Nat.le_refl _) fun n c hm=>⟨x.cell n c (lookup_of_mem_nodup (cellsFrom_names scope.names 0 (s.heap.objs.size+1) [] [] rfl▸hndup) hm),x.above n c hm⟩) fun cells NC CA=>?_
 have NC':News (hideAll s.heap (news.map (·.1))) s.heap.objs.size h₁ cells:=fun p hp=>(iAA ((NC p hp).1) ((NC p hp).2.1) (by
  cases q:(hideAll s.heap (news.map (·.1))).get? p.1 with
  | none=>rfl
  | some o=>have:=of_hideAll _ q;rw[(NC p hp).2.2] at this;exact o_ns this))
 have hfs:Dyn.fs ⟨D.A.deeper (envOfC qual scope s.heap.objs.size f cdv),hideAll s.heap (news.map (·.1)),s.heap.objs.size,D.s₀⟩=D.L::D.fs:=by
  refine substr (Dyn.fs_of (Around.frames_deeper hA)) (substr (Dyn.fs_of hA) (substr List.filterMap_cons (substr hf rfl)))
 have ok':Ok K gl bl ⟨D.A.deeper (envOfC qual scope s.heap.objs.size f cdv),hideAll s.heap (news.map (·.1)),s.heap.objs.size,D.s₀⟩ n:=by
  refine⟨(qe4 D.A base (env::outer) (envOfC qual scope s.heap.objs.size f cdv) BG (Around.frames_deeper hA) rfl hk Xb Gb Lb),ok.hand,?_,?_⟩
  ·have:=ok.room
   show D.A.depth+1+n<_
   exact qpR this
  ·have:=ok.units
   show D.A.units+3+8*n<_
   exact qpS this
 have ke':KE (envOfC qual scope s.heap.objs.size f cdv) ks:=⟨hk,rfl,rfl,hks,hnd⟩
 have gone:∀ b,s.heap.objs.size<=b->H b=none:=fun b hb'=>by
  cases hd:H b with
  | none=>rfl
  | some d=>refine oEA (hN b d hd) fun o hm hq=>?_;exact absurd (Heap.lt_size hq) (Nat.not_lt.mpr hb')
 have hcv:=hC _ kof vs hvs
 have hat:At ⟨D.A.deeper (envOfC qual scope s.heap.objs.size f cdv),hideAll s.heap (news.map (·.1)),s.heap.objs.size,D.s₀⟩ { s with heap:=h₁,toks:=tk } M0 (qes (envOfC qual scope s.heap.objs.size f cdv).cells cv H):=by
  refine⟨(qbJ _ _ KtsTurn.refl ⟨x.toInCall.ns,fun b o e=>hk₁ b o (of_hideAll _ e),Nat.le_of_eq (hideAll_size _ _)⟩ (hM _ kof vs hvs)),fun a d e=>?_,hs.gens,hs.drawn,hs.os⟩
  rw[<- hcv] at e
  rcases qg3 (news:=[]) zs CA (hzs _) (by refine substr (List.append_nil ..) ?_;exact NC') a d e with e | e
  ·refine oEA (hN a d e) fun o hm hq=>?_
   exact iAA (Nat.ne_of_lt (Heap.lt_size hq)) (hideAll_none _ (List.mem_map_of_mem hm)) ((hs.own a d e).2.2.keeps fun o=>hk₁ a o)
  ·exact e
 have hbd:=hb ⟨D.A.deeper (envOfC qual scope s.heap.objs.size f cdv),hideAll s.heap (news.map (·.1)),s.heap.objs.size,D.s₀⟩ (envOfC qual scope s.heap.objs.size f cdv) ok' ke' rfl rfl rfl gone _ hat
 refine wpAny_mono hbd (fun fl s' q'=>Post.el q' fun M' H' hs' h'=>?_) fun _ _ x=>x.elim
 have h2:At D s' M H':=hs'.leave hfs T FG Rm (ok.frames T)
 have h':∃ Hs,Sub Hs H'/\Φ (qhC (qeK fl)) M Hs:=h'
 rw[qgO] at h'
 cases fl<;>exact⟨M,H',h2,h'⟩
end
end
noncomputable def frees(cells:List (Str×Addr)):List (Str×NameKind)->List (Str×Addr)->List (Str×Addr)
 | [],acc=>acc
 | (n,k)::r,acc=>if k==.free then(match cells.lookup n with | some c=>frees cells r ((n,c)::acc) | none=>frees cells r acc) else frees cells r acc
theorem qL{cells acc:List (Str×Addr)}{n:Str}{k:NameKind}{r:List (Str×NameKind)}(h:(k==.free)=false):frees cells ((n,k)::r) acc=frees cells r acc:=by
 exact if_neg (by rw[h];decide)
theorem qZ{cells acc:List (Str×Addr)}{n:Str}{c:Addr}{r:List (Str×NameKind)}(h:cells.lookup n=some c):frees cells ((n,.free)::r) acc=frees cells r ((n,c)::acc):=by
 exact(if_pos rfl).trans (by rw[h])
theorem qdl{cells acc:List (Str×Addr)}:frees cells [] acc=acc:=rfl
theorem qal{scope:Scope}{env:Env}(h:∀ p∈scope.names,p.2=.free->(env.cells.lookup p.1).isSome=true):closureFor scope env=pure (frees env.cells scope.names []):=by
 have key:∀(l:List (Str×NameKind)) (acc:List (Str×Addr)),(∀ p∈l,p.2=.free->(env.cells.lookup p.1).isSome=true)->
  (forIn (m:=Sem) l acc fun(x:Str×NameKind) cs=>if x.2==.free then do let c <- cellOf env x.1;pure (ForInStep.yield ((x.1,c)::cs)) else pure (ForInStep.yield cs))=pure (frees env.cells l acc):=by
  intro l
  induction l with
  | nil=>intro acc _;rfl
  | cons x r ih=>
   intro acc h
   obtain⟨nm,k⟩:=x
   refine substr (List.forIn_cons ..) ?_
   cases hk:(k==NameKind.free) with
   | false=>
    simp only[hk,Bool.false_eq_true,if_false,pure_bind]
    refine substr (ih acc fun p hp=>h p (List.mem_cons_of_mem _ hp)) ?_
    exact congrArg pure (qL hk).symm
   | true=>
    obtain⟨c,hc⟩:=Option.isSome_iff_exists.mp (h (nm,k) (mem_cons_self ..) (beq_iff_eq.mp hk))
    have e:cellOf env nm=pure c:=by
     unfold cellOf
     simp only at hc
     refine substr hc rfl
    simp only[hk,if_true,e,pure_bind]
    refine substr (ih _ fun p hp=>h p (List.mem_cons_of_mem _ hp)) ?_
    cases (beq_iff_eq.mp hk:k=.free)
    exact congrArg pure (qZ hc).symm
 simp only[closureFor]
 exact(congrArg (· >>= fun r=>pure r) (key scope.names [] h)).trans (by refine substr (pure_bind ..) rfl)
section
variable{ks:List (String×NameKind)}
theorem qfW{c:Str}{k:Nat}{pos pos':Pos}{rest:List Stmt}{Φ:Flow->Loc->AH->Prop}(ke:KE env ks)(h:WS (model prog w) D (execs rest env) M H Φ E):WS (model prog w) D (execs (.Expr (.Constant (.str c) k pos) pos'::rest) env) M H Φ E:=by
 refine qam fun s hs=>?_
 refine substr (arm_exec_Expr ..) ?_
 refine wpAny_bind (wpAny_standAt ?_)
 have hi:interactive env=false:=by unfold interactive;refine substr ke.kind ?_;rfl
 refine substr (if_neg (by rw[hi];decide)) ?_
 refine wpAny_bind (wpAny_of_eq (a:=false) (by rfl) ?_)
 refine substr (if_neg (by decide)) ?_
 refine wpAny_bind (Calls.Constant_str ?_)
 exact wpAny_dropValue ⟨_,_,hs.toks _,h⟩
end
noncomputable def qag(pat:Str):Str:=qjZ (trP pat)
noncomputable def qet(pat:Str):Bool:=decide (pat.length<=1000)&&pat.cps.toList.all (fun c=>decide (c<128)&&decide (c≠91))&&decide ((trP pat).length<=1000) &&
 (List.range (trP pat).length).all (fun k=>!((trP pat)[k]?==some none&&(trP pat)[k+1]?==some none))&&(trP pat).all (fun z=>match z with | none=>true | some x=>decide (x.length<=2))
theorem qhY(ok:Ok (KF w.params) glob q7 D (n+3)){pat:Str}(hg:qet pat=true)(h:Φ (S (qag pat)) M H):
 ∀ vs,vs.map norm=[S pat]->WV (model prog w) D (call (.ref 188) vs) M H Φ E:=by
 unfold qet at hg
 simp only[Bool.and_eq_true,decide_eq_true_eq,List.all_eq_true,List.mem_range,Bool.not_eq_true',Bool.and_eq_false_iff] at hg
 obtain⟨⟨⟨⟨g1,g2⟩,g3⟩,g4⟩,g5⟩:=hg
 refine qba ok (by rfl) (by rfl) ["pat"] [("pat",.local),("STAR",.local),("parts",.local),("object",.globalImplicit),("_translate",.globalImplicit),("_join_translated_parts",.globalImplicit)] ?hb (by rfl) (by rfl) (by decide) (by decide) (by rfl) ?_
 case hb=>intro vs h;obtain⟨a,rfl⟩:=ex1 h;rfl
 intro D' env ok' ke hlo hf
 refine qfW ke (qI (qF ?_))
 walk_at "n"
 refine v_type (qdt qaJ (qhH (fun st hst=>?_) [] rfl))
 walk_at "s"
 refine qI (qF ?_)
 walk_at "n"
 refine qad (qp (qan ok' (by rfl)) (qd ?_))
 walk_at "n"
 refine qd ?_
 walk_at "n"
 refine qd (qQ (qi (qqG ok' g1 (fun c hc=>g2 c hc) fun R Hs hS hRn hR=>?_)))
 walk_at "s"
 refine qaw (qF ?_)
 walk_at "n"
 refine qad (qp (qan ok' (by rfl)) (qd ?_))
 walk_at "n"
 refine qd ?_
 walk_at "n"
 refine qi (qo6 (n:=n+1) ok' hR g3 ?_ ?_ (iEA H ((Sub.upd hst).trans hS) h))
 ·intro k hk hk2
  have hlt:=(List.getElem?_eq_some_iff.mp hk).1
  rcases g4 k hlt with e | e
  ·rw[hk] at e;simp at e
  ·rw[hk2] at e;simp at e
 ·intro x hx
  have:=g5 _ hx
  simpa using this
noncomputable def qfX(pat:Str)(names:List Str):List Str:=names.filter (qbb (qak (qag pat)))
noncomputable def qbH(pat:Str):Bool:=qet pat&&decide ((qag pat).length<=1000)&&decide (0<(qak (qag pat)).length)&&decide ((qak (qag pat)).length<=1000)&&(qak (qag pat)).all (fun p=>decide (p.length<=1000)&&p.all PyData.strOk)
theorem ql2(ok:Ok (KF w.params) glob q7 D (n+4))(hn:8<=n){pat:Str}{L:Addr}{names:List Str}(hg:qbH pat=true)(hL:H L=some (lst (names.map S)))(hnl:names.length<=1000)(hnm:∀ x∈names,x.length<=1000)
 (h:∀ R,H R=none->Φ (.ref R) M (upd H R (lst ((qfX pat names).map S)))):
 ∀ vs,vs.map norm=[S pat,.ref L]->WV (model prog w) D (call (.ref 243) vs) M H Φ E:=by
 unfold qbH at hg
 simp only[Bool.and_eq_true,decide_eq_true_eq,List.all_eq_true] at hg
 obtain⟨⟨⟨⟨g1,g2⟩,g3⟩,g4⟩,g5⟩:=hg
 refine qhX ok (by rfl) (by rfl) ["pattern", "names"] [("pattern",.local),("names",.local),("pieces",.cell),("_law_pieces",.globalImplicit),("translate",.globalImplicit)] ["pieces"] [none] [("pattern",S pat),("names",.ref L)] ?hb (by rfl) (by rfl) (by rfl) ?hk (by decide +kernel) (fun _=>rfl) ?hC ?hM ?_
 case hb=>intro vs h;(refine oEE (ex2 h) fun a b e2'=>?_;obtain rfl:=e2');rfl
 case hk=>intro n x hx;simp at hx;rcases hx with rfl | rfl<;>exact .inl (by rfl)
 case hC=>
  intro kof hk vs hvs
  (refine qR (nm2 hvs) fun v u e2' hv hu=>?_;obtain rfl:=e2')
  have e:=(bC1 (v:=v) (r:=[(Str.ofString "names",u)]) (m:=fun _=>none) (hk "pattern")).trans (bC1 (hk "names"))
  exact cl1 (congrFun e _)
 case hM=>
  intro kof hk vs hvs
  (refine qR (nm2 hvs) fun v u e2' hv hu=>?_;obtain rfl:=e2')
  exact qeR ((bL1 (hk "pattern")).trans (bL1 (hk "names"))) (hu▸hv▸(mrep_nil.put (x := "pattern") (v:=v)).put (x := "names") (v:=u))
 intro D' env ok' ke hlo hf hcells gone
 have hc0:env.cells=[(Str.ofString "pieces",D'.L+1)]:=hcells
 refine substr hc0 ?_
 have hc1:env.cells.lookup (Str.ofString "pieces")=some (D'.L+1):=by refine substr hc0 ?_;exact lookup_cons_self
 have hcn:H (D'.L+1)=none:=gone _ (Nat.le_succ _)
 show WS (model prog w) D' _ _ (upd H (D'.L+1) (.cell none)) _ _
 generalize D'.L+1=c at hcn hc1
 refine qI (qF ?_)
 walk_at "n"
 refine qad (qp (qan ok' (by rfl)) (qd (qF ?_)))
 walk_at "n"
 refine qad (qp (qan ok' (by rfl)) (qd ?_))
 walk_at "n"
 refine qi (qhY ok' g1 (qi (qkZ (n:=n+2) ok' g2 fun P Hs hS hPn hP=>?_)))
 have hcs:Hs c=some (.cell none):=hS _ _ upd_same
 walk_at "s"
 have hLc:L≠c:=qG hcn hL
 have hSc:Sub H (upd Hs c (.cell (some (.ref P)))):=fun b d hb=>(qe (qG hcn hb)).trans (hS b d (qx hcn hb))
 have hP':PAt (upd Hs c (.cell (some (.ref P)))) P (qak (qag pat)):=by
  refine qbe hP fun as q1 q2 q3=>?_
  refine⟨as,(qe fun e=>by rw[e,hcs] at q1;cases q1).trans q1,q2,fun k a p r1 r2=>?_⟩
  have:=q3 k a p r1 r2
  exact(qe fun e=>by rw[e,hcs] at this;cases this).trans this
 refine qaw (qa4 (n:=(names.map S).length) (fr:=fun a=>a=L) (fun k=>((names.take k).filter (qbb (qak (qag pat)))).map S) [(".0",.local),("name",.local),("_law_takes",.globalImplicit),("pieces",.free)] ke (qal ?_) (by rfl) (by decide) (by decide) (by rfl)
  (qce ok'.hand (by walk_at "n";exact(qci rfl Sub.refl L rfl (hSc _ _ hL) (.inr rfl)))) (by refine substr (length_map ..) ?_;exact qtU hnl) (by rfl) ?_ ?_)
 ·intro p hp hfr
  simp at hp
  rcases hp with rfl | rfl | rfl | rfl<;>first | (cases hfr;done) | (refine substr hc1 ?_;rfl)
 ·rintro k Hc Lc Mc v hk hS2 hLc hnL cenv cke hcl hcc hv
  refine oEA (qai hv) fun x hx hxv=>?_
  have hcc':cenv.cells.lookup (Str.ofString "pieces")=some c:=by
   refine substr hcc (substr (qL rfl) (substr (qL rfl) (substr (qL rfl) (substr (qZ hc1) ?_))))
   exact lookup_cons_self
  refine qar hxv.symm ?_
  walk_at "s"
  have hxm:=hnm x (mem_of_getElem? hx)
  refine qcP (qao (qF ?_))
  walk_at "n"
  refine qad (qp (qan ok' (by rfl)) (qd ?_))
  walk_at "n"
  refine qd ?_
  walk_at "n"
  have hPc:PAt (upd Hc Lc (.ns (put "name" (S x) Mc))) P (qak (qag pat)):=by
   refine qbe (hP'.sub hS2) fun as q1 q2 q3=>?_
   refine⟨as,(qe fun e=>by rw[e,hLc] at q1;cases q1).trans q1,q2,fun k a p r1 r2=>?_⟩
   have:=q3 k a p r1 r2
   exact(qe fun e=>by rw[e,hLc] at this;cases this).trans this
  refine qi (ql1 (n:=n+1) ok' (qnf hn) hPc g3 (fun p hp=>?_) g4 hxm (qcA ⟨fun hb=>?_,fun hb=>?_⟩))
  ·exact g5 p hp
  ·walk_at "n"
   exact⟨rfl,by walk_at "k",⟨_,by walk_at "h"⟩,qc5 hx hb⟩
  ·exact⟨rfl,by walk_at "k",⟨_,by walk_at "h"⟩,qcI hx hb⟩
 ·intro acc hacc
  refine(iEA (upd H acc (lst ((qfX pat names).map S))) (fun b d hb=>?_) (h acc ?_))
  ·unfold upd at hb
   split at hb
   ·rename_i e
    cases hb
    refine substr e (substr (length_map ..) ?_)
    refine upd_same.trans ?_
    refine substr List.take_length ?_
    rfl
   ·exact qx hacc (hSc b d hb)
  ·exact hSc.none hacc
noncomputable def tabS:Str:=Str.ofString "ab.+(|\\^$\n~& ]!-{#"
noncomputable def qhZ(i:Nat):Nat:=(tabS.cps[i]?).getD 0
noncomputable def qX(a amt:Nat):Str:=Txt.join emp ((List.range amt).map fun k=>qC (qhZ ((a+k)%18)))
theorem ones(f:Nat->Nat):∀ l:List Nat,((l.map fun k=>qC (f k)).map (·.length)).sum=l.length
 | []=>rfl
 | a::r=>by
  have:=ones f r
  simp only[map_cons,List.sum_cons,length_cons]
  refine substr this ?_
  show 1+r.length=_
  exact qy1
theorem ql3(ok:Ok (KF w.params) glob q7 D (n+1)){a amt:Nat}(ham:amt<=1000)(h:Φ (S (qX a amt)) M H):
 ∀ vs,vs.map norm=[I a,I amt]->WV (model prog w) D (call (.ref 219) vs) M H Φ E:=by
 refine qhX ok (by rfl) (by rfl) ["at", "amount"] [("at",.cell),("amount",.local),("range",.globalImplicit)] ["at"] [some (I a)] [("amount",I amt)] ?hb (by rfl) (by rfl) (by rfl) ?hk (by decide +kernel) (fun _=>rfl) ?hC ?hM ?_
 case hb=>intro vs h;(refine oEE (ex2 h) fun a b e2'=>?_;obtain rfl:=e2');rfl
 case hk=>
  intro n x hx
  simp at hx
  rcases hx with rfl | rfl
  ·exact .inr ⟨by rfl,by rfl⟩
  ·exact .inl (by rfl)
 case hC=>
  intro kof hk vs hvs
  (refine qR (nm2 hvs) fun v u e2' hv hu=>?_;obtain rfl:=e2')
  have e:=(bC0 (v:=v) (r:=[(Str.ofString "amount",u)]) (m:=fun _=>none) (hk "at")).trans (bC1 (hk "amount"))
  exact(cl1 ((congrFun e _).trans (if_pos rfl))).trans (congrArg (fun o=>[some o]) hv)
 case hM=>
  intro kof hk vs hvs
  (refine qR (nm2 hvs) fun v u e2' hv hu=>?_;obtain rfl:=e2')
  exact qeR ((bL0 (hk "at")).trans (bL1 (hk "amount"))) (hu▸mrep_nil.put (x := "amount") (v:=u))
 intro D' env ok' ke hlo hf hcells gone
 have hc0:env.cells=[(Str.ofString "at",D'.L+1)]:=hcells
 refine substr hc0 ?_
 have hc1:env.cells.lookup (Str.ofString "at")=some (D'.L+1):=by refine substr hc0 ?_;exact lookup_cons_self
 have hcn:H (D'.L+1)=none:=gone _ (Nat.le_succ _)
 show WS (model prog w) D' _ _ (upd H (D'.L+1) (.cell (some (I a)))) _ _
 generalize D'.L+1=c at hcn hc1
 have big:(100000:Nat)<=sizeLine:=by decide
 refine qaw (qcc F.slot_str_join F.type_str_join (qQ ⟨emp,rfl,fun v hv=>qp qu (qd ?_)⟩))
 refine qa4 (n:=(amt:Int).toNat) (fr:=fun _=>False) (fun k=>((List.range k).map fun j=>S (qC (qhZ ((a+j)%18))))) [(".0",.local),("step",.local),("at",.free)] ke (qal ?_) (by rfl) (by decide) (by decide) (by rfl)
  (qcD ok'.hand (N:=(amt:Int)) (by walk_at "n";refine⟨rfl,?_⟩;walk_at "n";exact⟨rfl,rfl,Sub.refl⟩) (qhr) (qlF ham) rfl) (qy2 ham) (by rfl) ?_ ?_
 ·intro p hp hfr
  simp at hp
  rcases hp with rfl | rfl | rfl<;>first | (cases hfr;done) | (refine substr hc1 ?_;rfl)
 ·rintro k Hc Lc Mc v hk hS2 hLc hnL cenv cke hcl hcc hv
  have hcc':cenv.cells.lookup (Str.ofString "at")=some c:=by
   refine substr hcc (substr (qL rfl) (substr (qL rfl) (substr (qZ hc1) ?_)))
   exact lookup_cons_self
  have hcv:Hc c=some (.cell (some (I a))):=hS2 _ _ upd_same
  have hcL:c≠Lc:=fun e=>by rw[<- e,upd_same] at hnL;exact o_sn hnL
  refine qar hv ?_
  walk_at "s"
  refine qco ⟨fun _=>?_,fun h=>by cases h⟩
  refine qW (qQ (qK (qK ?_)))
  walk_at "n"
  walk_at "n"
  refine qcO (qw (qdf (by decide) ?_))
  have e1:((a:Int)+(k:Int)).fmod 18=(((a+k)%18:Nat):Int):=by refine substr (Int.fmod_eq_emod_of_nonneg _ (by decide)) ?_;omega
  refine substr e1 ?_
  have hlt:(a+k)%18<18:=Nat.mod_lt _ (by decide)
  have hl:tabS.length=18:=by decide +kernel
  refine qdP (c:=qhZ ((a+k)%18)) (qy3) (qy4) ?_ ⟨rfl,by walk_at "k",⟨_,by walk_at "h"⟩,?_⟩
  ·show(seqIndex? _ tabS.length).bind _=_
   refine substr hl (substr (qbT hlt) ?_)
   unfold qhZ
   have:(a+k)%18<tabS.cps.size:=by show _<tabS.length;exact qy5 hl
   show tabS.cps[(a+k)%18]?=_
   simp[this]
  ·refine substr List.range_succ (substr map_append ?_);rfl
 ·intro acc hacc
  have hN:(amt:Int).toNat=amt:=qy6
  refine qi (qel (ys:=(List.range amt).map fun k=>qC (qhZ ((a+k)%18))) (by refine substr upd_same (substr hN (substr map_map ?_));rfl) ?_ ⟨H,(Sub.upd hcn).trans (Sub.upd hacc),h⟩ v hv)
  have e0:emp.length=0:=by decide +kernel
  refine substr (ones ..) (substr e0 (substr (length_map ..) (substr List.length_range ?_)))
  exact qy7 ham
noncomputable def Fm(D:Dyn):Prop:=∃ A₀ base outer env,Below A₀ base outer D.h₀/\D.A.frames=some (env::outer)/\env.frame=some D.L/\env.scope.kind=.function
theorem Ok.fm{K:Frag}{gl bl:List (String×Value)}{D:Dyn}{n:Nat}(ok:Ok K gl bl D n):Fm D:=by
 refine qky ok.base fun A₀ base outer env B hA hf hk _=>?_
 exact⟨A₀,base,outer,env,B,hA,hf,hk⟩
noncomputable def Dyn.mk'(D:Dyn)(e:Addr):Dyn:={ D with A:=D.A.mark (some (.ref e)) }
theorem Fm.mk'{D:Dyn}{e:Addr}(f:Fm D):Fm (D.mk' e):=f
theorem At.mk'{D:Dyn}{s:Shared}{M:Loc}{H:AH}{e:Addr}(a:At D s M H):At (D.mk' e) s M H:=⟨a.fr,a.own,a.gens,a.drawn,a.os⟩
theorem At.of_mk'{D:Dyn}{s:Shared}{M:Loc}{H:AH}{e:Addr}(a:At (D.mk' e) s M H):At D s M H:=⟨a.fr,a.own,a.gens,a.drawn,a.os⟩
theorem At.slots{D:Dyn}{s:Shared}{M:Loc}{H:AH}(a:At D s M H)(hff:∀ b∈D.fs,∃ o,D.h₀.get? b=some o){h':Heap}(hS:Heap.SlotsOnly (D.L::D.fs) s.heap h'):At D { s with heap:=h' } M H:=by
 refine qR a.fr fun g m T F R=>?_
 obtain⟨T2,S2⟩:=kts_turn_at (h:=h') (fs:=D.fs) (g:=g) (fun b hb=>by
  obtain⟨o,ho⟩:=hff b hb
  obtain⟨sl,hs⟩:=T.up ho
  exact⟨_,hs⟩)
  (fun b o e nm=>(hS.2.1 b (by
   refine substr (propext List.mem_cons) ?_
   rintro(q | q)
   ·exact absurd (Nat.lt_of_lt_of_le (Heap.lt_size e) F.above) (by refine substr q ?_;exact Nat.lt_irrefl _)
   ·exact nm q)).trans (F.keep b o e))
  (fun b o e hb=>hS.2.2 b o (F.keep b o e))
 refine⟨(qbJ _ m (T.trans T2) ⟨?_,S2,by refine substr T2.size ?_;exact F.above⟩ R),fun b d e=>?_,a.gens,a.drawn,a.os⟩
 ·refine qkx F.ns fun o es ep ho hd r=>?_
  obtain⟨sl,hs⟩:=hS.2.2 _ _ ho
  exact⟨_,es,ep,hs,hd,r⟩
 ·refine oAA (a.own b d e) fun k1 k2 k3=>?_
  refine(iAA k1 k2 (k3.keeps fun o ho=>(hS.2.1 b ?_).trans ho))
  refine substr (propext List.mem_cons) ?_
  rintro(q | q)
  ·exact k1 q
  ·obtain⟨o,ho⟩:=hff b q
   rw[k2] at ho;exact o_ns ho
noncomputable def Exc(H:AH)(e:Addr)(cls:String)(tb cx:Value):Prop:=∃ o vs,H e=some (.raw o)/\o.cls=.type cls/\o.data=.fields vs/\vs[1]?=some tb/\vs[2]?=some cx
noncomputable def Tb(H:AH)(t:Addr)(fl:Value):Prop:=∃ o ts,H t=some (.raw o)/\o.data=.fields ts/\ts[3]?=some fl
theorem Exc.at{H H':AH}{e:Addr}{cls:String}{tb cx:Value}(x:Exc H e cls tb cx)(h:H' e=H e):Exc H' e cls tb cx:=by
 refine qbu x fun o vs h1 r=>?_
 exact⟨o,vs,h.trans h1,r⟩
theorem Tb.at{H H':AH}{t:Addr}{fl:Value}(x:Tb H t fl)(h:H' t=H t):Tb H' t fl:=by
 refine qbu x fun o vs h1 r=>?_
 exact⟨o,vs,h.trans h1,r⟩
theorem Exc.some{H:AH}{e:Addr}{cls:String}{tb cx:Value}(x:Exc H e cls tb cx):∃ d,H e=some d:=by
 refine qbu x fun o vs h1 r=>?_
 exact⟨_,h1⟩
section
variable{Φ:Unit->Loc->AH->Prop}{e t:Addr}{cls:String}{tb cx fl:Value}
theorem qe6{a:Addr}{o:Obj}{vs:Array Value}{i:Nat}{x:Value}(ha:H a=some (.raw o))(hd:o.data=.fields vs)(hi:i<vs.size)
 (h:Φ () M (upd H a (.raw (o.mapFields (·.setIfInBounds i x))))):WX (model prog w) D (setField (.ref a) i x) M H Φ E:=by
 intro s hs
 have hR:s.heap.get? a=some o:=(hs.own _ _ ha).2.2
 refine wpAny_setField hR hd hi ⟨M,_,hs.change (d':=.raw (o.mapFields (·.setIfInBounds i x))) ha (Heap.SameBut.update ..) (Heap.get?_update_self _ hR (Obj.isFreed_of_fields (Obj.data_mapFields hd _))),h⟩
theorem qdV{Ψ:Value->Loc->AH->Prop}{a:Addr}{o:Obj}{vs:Array Value}{i:Nat}{x:Value}(ha:H a=some (.raw o))(hd:o.data=.fields vs)(hi:vs[i]?=some x)
 (h:Ψ x M H):WX (model prog w) D (field (.ref a) i) M H Ψ E:=by
 intro s hs
 have hR:s.heap.get? a=some o:=(hs.own _ _ ha).2.2
 exact wpAny_field hR hd hi ⟨M,_,hs,h⟩
theorem qh0{f:Option Addr}(x:Exc H e cls (.ref t) cx)(y:Tb H t fl)(hte:t≠e)
 (h:∀ H2,(∀ a,a≠t->H2 a=H a)->Tb H2 t (f.elim .none fun f=>rawInt f)->Φ () M H2):WX (model prog w) D (setFlight (.ref e) f) M H Φ E:=by
 refine qbi x fun o vs h1 hc hd ht _=>?_
 refine qR y fun ot ts k1 kd k3=>?_
 have hsz:3<ts.size:=(Array.getElem?_eq_some_iff.mp k3).1
 unfold setFlight
 refine qaO (qdV h1 hd ht ?_)
 refine substr (if_pos (show(Value.ref t != Value.none)=true from by simp)) ?_
 refine qe6 k1 kd hsz (h _ (fun a ha=>qe ha) ⟨_,_,upd_same,Obj.data_mapFields kd _,by simp[hsz]⟩)
theorem qj0{Ψ:Value->Loc->AH->Prop}(fm:Fm D)(hf:env.frame=some D.L)(h:Ψ (.ref D.L) M H):WX (model prog w) D (PySem.frameOf env) M H Ψ E:=by
 intro s hs
 refine qlH fm fun A₀ base outer env' B hA hf' hk=>?_
 refine qR hs.fr fun g m T F R=>?_
 have B1:=qfH B (by refine substr (Dyn.fs_of hA).symm ?_;exact T)
 have B2:=pushX B1 F hf' hk
 unfold PySem.frameOf
 refine wpAny_bind (wpAny_frameEnvs hA ?_)
 have hdw:((env'::outer).dropWhile fun x=>x.frame != env.frame)=env'::outer:=by simp[List.dropWhile,hf,hf']
 refine substr hdw ?_
 unfold frameObject
 refine wpAny_bind (wpAny_bind (wpAny_readyFrames_fun B2.frames fun h₁ hs₁=>wpAny_pure ?_))
 refine substr hf' ?_
 refine wpAny_pure ⟨M,H,hs.slots (fun b hb=>?_) ?_,h⟩
 ·rw[Dyn.fs_of hA] at hb
  refine oEA ((B.frames.mem hb).2) fun o ho _=>?_
  exact⟨o,ho⟩
 ·rw[List.filterMap_cons,hf'] at hs₁
  refine substr (Dyn.fs_of hA) ?_
  exact hs₁
theorem qk1{Ψ:Value->Loc->AH->Prop}{ty:String}{d:Data}{k:String->Prop}(hsz:sizeOk d)(hfr:({ cls:=.type ty,data:=d }:Obj).isFreed=false)
 (h:∀ a,H a=none->Ψ (.ref a) M (upd H a (.raw { cls:=.type ty,data:=d }))):WX (model prog w) D (newObj (.type ty) d) M H Ψ E:=by
 intro s hs
 exact wpAny_newObj_type ⟨M,_,hs.alloc (d:=.raw { cls:=.type ty,data:=d }) hfr fun h e=>e,h _ hs.fresh⟩ hsz
theorem entry_at{head:Value}{b:Bool}(fm:Fm D)(hf:env.frame=some D.L)(x:Exc H e cls tb cx)
 (h:∀ t H2,t≠e->H t=none->(∀ a,a≠e->a≠t->H2 a=H a)->Exc H2 e cls (.ref t) cx->Tb H2 t (rawInt D.L)->Φ () M H2):
 WX (model prog w) D (do let a <- PySem.frameOf env;let pl <- entryPlaceOf D.L b;let n <- EntryCells.newEntry head a .none (rawInt D.L) .none pl;setField (.ref e) 1 n) M H Φ E:=by
 refine qbi x fun o vs h1 hc hd ht hx=>?_
 have hsz:1<vs.size:=(Array.getElem?_eq_some_iff.mp ht).1
 refine qaO (qj0 fm hf ?_)
 intro s hs
 refine wpAny_bind (wpAny_entryPlaceOf fun pl hpl=>?_)
 unfold EntryCells.newEntry newFields
 refine(qaO (qk1 (k:=fun _=>True) (hpl.sizeOk5 _ _ _ _ _) rfl fun t ht0=>?_):WX (model prog w) D _ M H Φ E) s hs
 have hte:t≠e:=Ne.symm (qG ht0 h1)
 refine qe6 (o:=o) (vs:=vs) ((qe (Ne.symm hte)).trans h1) hd hsz (h t _ hte ht0 (fun a ha hat=>(qe ha).trans (qe hat)) ⟨_,_,upd_same,(Obj.cls_mapFields _ _).trans hc,Obj.data_mapFields hd _,by simp[hsz],?_⟩ ⟨_,_,(qe hte).trans upd_same,rfl,?_⟩)
 ·refine substr (Array.getElem?_setIfInBounds_ne (by decide)) ?_;exact hx
 ·rcases hpl with rfl | ⟨_,_,_,_,_,_,_,rfl⟩<;>simp
theorem ql4(fm:Fm D)(hf:env.frame=some D.L)(x:Exc H e cls .none cx)
 (h:∀ t H2,t≠e->H t=none->(∀ a,a≠e->a≠t->H2 a=H a)->Exc H2 e cls (.ref t) cx->Tb H2 t (rawInt D.L)->Φ () M H2):
 WX (model prog w) D (noteFrame (.ref e) env) M H Φ E:=by
 have x':=x
 refine qbi x' fun o vs h1 hc hd ht hx=>?_
 unfold noteFrame
 simp only[hf]
 refine qaO (qdV h1 hd ht ?_)
 refine substr (if_neg (by decide)) ?_
 exact entry_at fm hf x h
theorem qk2(hf:env.frame=some D.L)(x:Exc H e cls (.ref t) cx)(y:Tb H t (rawInt D.L))(h:Φ () M H):WX (model prog w) D (noteFrame (.ref e) env) M H Φ E:=by
 refine qbi x fun o vs h1 hc hd ht _=>?_
 refine qR y fun ot ts k1 kd k3=>?_
 unfold noteFrame
 simp only[hf]
 refine qaO (qdV h1 hd ht ?_)
 refine substr (if_pos (show(Value.ref t != Value.none)=true from by simp)) ?_
 refine qaO (qdV k1 kd k3 ?_)
 refine substr (if_pos (show(rawInt D.L==rawInt D.L)=true from by first | (simp;done) | exact beq_self_eq_true _)) ?_
 exact qck h
end
noncomputable def RaisT(D:Dyn)(fl:Value)(cls:String)(C:Value->Prop)(Ψ:Loc->AH->Prop)(x:Value)(s:Shared):Prop:=
 ∃ e t cx M H Hs,x=.ref e/\At D s M H/\Sub Hs H/\Hs e=none/\Hs t=none/\t≠e/\Exc H e cls (.ref t) cx/\Tb H t fl/\C cx/\Ψ M Hs
noncomputable def RaisN(D:Dyn)(cls:String)(C:Value->Prop)(Ψ:Loc->AH->Prop)(x:Value)(s:Shared):Prop:=
 ∃ e cx M H Hs,x=.ref e/\At D s M H/\Sub Hs H/\Hs e=none/\Exc H e cls .none cx/\C cx/\Ψ M Hs
noncomputable def Rais(D:Dyn)(cls:String)(C:Value->Prop)(Ψ:Loc->AH->Prop)(x:Value)(s:Shared):Prop:=
 RaisN D cls C Ψ x s\/RaisT D (rawInt D.L) cls C Ψ x s
section
variable{E E':Value->Shared->Prop}{cls:String}{C C':Value->Prop}{Ψ Ψ':Loc->AH->Prop}{x fl:Value}{s:Shared}
theorem RaisT.mono(r:RaisT D fl cls C Ψ x s)(hc:∀ c,C c->C' c)(h:∀ M H,Ψ M H->Ψ' M H):RaisT D fl cls C' Ψ' x s:=by
 refine qaD r fun e t cx M H Hs h1 h2 h3 h4 h5 h6 h7 h8 h9 h10=>?_
 exact⟨e,t,cx,M,H,Hs,h1,h2,h3,h4,h5,h6,h7,h8,hc _ h9,h _ _ h10⟩
theorem Rais.mono(r:Rais D cls C Ψ x s)(hc:∀ c,C c->C' c)(h:∀ M H,Ψ M H->Ψ' M H):Rais D cls C' Ψ' x s:=by
 rcases r with⟨e,cx,M,H,Hs,h1,h2,h3,h4,h5,h6,h7⟩ | r
 ·exact .inl ⟨e,cx,M,H,Hs,h1,h2,h3,h4,h5,hc _ h6,h _ _ h7⟩
 ·exact .inr (r.mono hc h)
theorem RaisT.of_mk'{e:Addr}(r:RaisT (D.mk' e) fl cls C Ψ x s):RaisT D fl cls C Ψ x s:=by
 refine qkz r fun e t cx M H Hs h1 h2 h3=>?_
 exact⟨e,t,cx,M,H,Hs,h1,h2.of_mk',h3⟩
theorem qeu(fm:Fm D)(hf:env.frame=some D.L)(r:Rais D cls C Ψ x s):wpAny (model prog w) D.A (noteFrame x env) (fun _ s'=>RaisT D (rawInt D.L) cls C Ψ x s') E s:=by
 rcases r with⟨e,cx,M,H,Hs,rfl,hs,hsub,hse,hx,hC,hΨ⟩ | ⟨e,t,cx,M,H,Hs,rfl,hs,hsub,hse,hst,hte,hx,ht,hC,hΨ⟩
 ·refine wpAny_mono (ql4 (Φ:=fun _ M' H'=>∃ t,M'=M/\Sub Hs H'/\Hs t=none/\t≠e/\Exc H' e cls (.ref t) cx/\Tb H' t (rawInt D.L)) (E:=E) fm hf hx (fun t H2 hte ht0 hk hx2 ht2=>?_) s hs) (fun _ s' q'=>Post.el q' fun M' H' hs' z'=>qoI z' fun t hM h1 h2 h3 h4 h5=>?_) fun _ _ x=>x
  ·refine(qoE t rfl (fun a d q=>?_) ?_ hte hx2 ht2)
   ·have qa:a≠e:=fun z=>by rw[z,hse] at q;exact o_ns q
    have qb:a≠t:=fun z=>by have:=hsub a d q;rw[z,ht0] at this;exact o_ns this
    refine substr (hk a qa qb) ?_
    exact hsub a d q
   ·cases q:Hs t with
    | none=>rfl
    | some d=>have:=hsub t d q;rw[ht0] at this;exact o_ns this
  ·subst hM
   exact⟨e,t,cx,_,H',Hs,rfl,hs',h1,hse,h2,h3,h4,h5,hC,hΨ⟩
 ·refine wpAny_mono (qk2 (Φ:=fun _ M' H'=>M'=M/\H'=H) (E:=E) hf hx ht ⟨rfl,rfl⟩ s hs) (fun _ s' q'=>Post.el q' fun M' H' hs' z'=>oA z' fun hM hH=>?_) fun _ _ x=>x
  subst hM hH
  exact⟨e,t,cx,_,_,Hs,rfl,hs',hsub,hse,hst,hte,hx,ht,hC,hΨ⟩
theorem qc6{f:Option Addr}(r:RaisT D fl cls C Ψ x s):wpAny (model prog w) D.A (setFlight x f) (fun _ s'=>RaisT D (f.elim .none fun f=>rawInt f) cls C Ψ x s') E s:=by
 (refine qaD r fun e t cx M H Hs e6' hs hsub hse hst hte hx ht hC hΨ=>?_;obtain rfl:=e6')
 refine wpAny_mono (qh0 (f:=f) (Φ:=fun _ M' H'=>M'=M/\(∀ a,a≠t->H' a=H a)/\Tb H' t (f.elim .none fun f=>rawInt f)) (E:=E) hx ht hte (fun H2 hk ht2=>(iAA rfl hk ht2)) s hs)
  (fun _ s' q'=>Post.el q' fun M' H' hs' z'=>oAA z' fun hM hk h2=>?_) fun _ _ x=>x
 subst hM
 exact⟨e,t,cx,_,H',Hs,rfl,hs',fun a d q=>(hk a (fun z=>by rw[z,hst] at q;exact o_ns q)).trans (hsub a d q),hse,hst,hte,hx.at (hk e (Ne.symm hte)),h2,hC,hΨ⟩
theorem qk3(hf:env.frame=some D.L)(r:RaisT D fl cls C Ψ x s)(hE:∀ s',RaisT D (rawInt D.L) cls C Ψ x s'->E x s'):cameBackBy (model prog w) D.A env E x s:=by
 (refine qaD r fun e t cx M H Hs e6' hs hsub hse hst hte hx ht hC hΨ=>?_;obtain rfl:=e6')
 unfold cameBackBy
 have hx':=hx
 refine qbi hx' fun o vs h1 hc hd h1t _=>?_
 have hR:s.heap.get? e=some o:=(hs.own _ _ h1).2.2
 refine wpAny_bind (wpAny_field hR hd h1t ?_)
 refine substr (if_neg (by simp)) ?_
 refine substr hf ?_
 exact wpAny_mono (qc6 (E:=E) (f:=some D.L) ⟨e,t,cx,M,H,Hs,rfl,hs,hsub,hse,hst,hte,hx,ht,hC,hΨ⟩) (fun _ s' r=>hE s' r) fun _ _ x=>x
theorem qgw(fm:Fm D)(hf:env.frame=some D.L)(r:Rais D cls C Ψ x s)(hE:∀ s',RaisT D (rawInt D.L) cls C Ψ x s'->E x s'):notedBy (model prog w) D.A env (cameBackBy (model prog w) D.A env E) x s:=
 wpAny_mono (qeu fm hf r) (fun _ s' r=>qk3 hf r hE) fun _ _ x=>x
theorem ql5{e:Addr}(fm:Fm D)(hf:env.frame=some D.L)(r:Rais (D.mk' e) cls C Ψ x s)(hE:∀ s',RaisT D (rawInt D.L) cls C Ψ x s'->E x s'):notedBy (model prog w) (D.A.mark (some (.ref e))) env (cameBackBy (model prog w) D.A env E) x s:=
 wpAny_mono (qeu (D:=D.mk' e) fm.mk' hf r) (fun _ s' r=>qk3 hf r.of_mk' hE) fun _ _ x=>x
theorem ql6{test:Expr}{body:List Stmt}{rest:List Stmt}{pos:Pos}{Φ:Flow->Loc->AH->Prop}(fm:Fm D)(hf:env.frame=some D.L)(hE:∀ x s',RaisT D (rawInt D.L) cls C Ψ x s'->E x s')(J:Nat->Loc->AH->Prop){n:Nat}(h0:J n M H)
 (step:∀ n M H,J n M H->WX (model prog w) D (isTrue test env (eval test env)) M H (fun b M1 H1=>
  (b=true->WS (model prog w) D (execs body env) M1 H1 (TurnEnd (Seq (model prog w) D rest env Φ E) (fun M2 H2=>∃ m,m<n/\J m M2 H2)) (Rais D cls C Ψ))/\(b=false->WS (model prog w) D (execs rest env) M1 H1 Φ E)) (Rais D cls C Ψ)):
 WS (model prog w) D (execs (.While test body [] pos::rest) env) M H Φ E:=by
 refine qam fun s hs=>wpAny_While ?_
 refine codeAny_whileLoop (fun n s=>∃ M H,At D s M H/\J n M H) ?_ n (qjC M H hs h0)
 intro n s r2';refine qbu r2' fun M H hs hj=>?_
 refine wpAny_mono (step n M H hj s hs) (fun b s1 q'=>Post.el q' fun M1 H1 hs1 k=>?_) fun x s' r=>qgw fm hf r (hE x)
 cases b with
 | true=>
  refine wpAny_mono (k.1 rfl s1 hs1) (fun f s2 q'=>Post.el q' fun M2 H2 hs2 h2=>?_) fun x s' r=>qgw fm hf r (hE x)
  cases f with
  | next=>refine oEA h2 fun m hm hj=>?_;exact qkB m hm M2 H2 hs2 hj
  | cont=>refine oEA h2 fun m hm hj=>?_;exact qkB m hm M2 H2 hs2 hj
  | brk=>exact⟨M2,H2,hs2,h2⟩
  | ret p=>exact⟨M2,H2,hs2,h2⟩
 | false=>exact wpAny_execs_nil ⟨M1,H1,hs1,k.2 rfl⟩
theorem qk4{gl bl:List (String×Value)}{ks:List (String×NameKind)}{body suite rest:List Stmt}{b₀:Stmt}{xn X T:String}{np pos pos2:Pos}{Φ:Flow->Loc->AH->Prop}
 (fm:Fm D) (ke:KE env ks) (hf:env.frame=some D.L) (gs:GLs gl bl D) (hk:qt xn ks=some .globalImplicit) (hv:qt xn bl=some (.type T))
 (hexc:isSubtype (.type T) (.type "BaseException")=pure true) (hnt:isSubtype (.type ((Manifest.find? T).elim "type" fun x=>x.metatype)) (.type "tuple")=pure false) (hsub:isSubtype (.type X) (.type T)=pure true)
 (h:WS (model prog w) D (execs body env) M H (Seq (model prog w) D rest env Φ E) (Rais D X C Ψ))
 (hh:∀ e M1 Hs,Ψ M1 Hs->WS (model prog w) (D.mk' e) (execs (b₀::suite) env) M1 Hs (Seq (model prog w) D rest env Φ E) (fun _ _=>False)):
 WS (model prog w) D (execs (.Try body [.ExceptHandler (some (.Name (Str.ofString xn) np)) none (b₀::suite) pos2] [] [] pos::rest) env) M H Φ E:=by
 refine qam fun s hs=>wpAny_Try_except (wpAny_mono (h s hs) (fun f s1 q'=>Post.el q' fun M1 H1 hs1 h1=>?_) fun x s1 r=>?_)
 ·cases f with
  | next=>exact wpAny_execs_nil ⟨M1,H1,hs1,h1⟩
  | _=>exact⟨M1,H1,hs1,h1⟩
 ·refine wpAny_mono (qeu fm hf r) (fun _ s2 r2=>?_) fun _ _ x=>x
  refine wpAny_mono (qc6 (f:=none) r2) (fun _ s3 r3=>?_) fun _ _ x=>x
  (refine qaD r3 fun e t cx M1 H1 Hs e6' hs3 hsub3 hse hst hte hx ht hC hΨ=>?_;obtain rfl:=e6')
  refine wpAny_handleBy_builtin (X:=X) (T:=T) (b:=true) hexc hnt hsub ?_
  refine wpAny_Name (qkG (D:=D.mk' e) ke gs hk hv s3 hs3.mk' _ _ fun v hv'=>?_) (ke.nd hk)
  refine qbi hx fun o vs h1 hc hd h1t _=>?_
  have hR:s3.heap.get? e=some o:=(hs3.own _ _ h1).2.2
  refine(iAA (qdc hv') ⟨_,hR,hc⟩ ?_)
  refine substr (if_pos rfl) ?_
  refine wpAny_mono (qc6 (D:=D.mk' e) (f:=none) ⟨e,t,cx,M1,H1,Hs,rfl,hs3.mk',hsub3,hse,hst,hte,⟨o,vs,h1,hc,hd,h1t,‹_›⟩,ht,hC,hΨ⟩) (fun _ s4 r4=>?_) fun _ _ x=>x
  refine qaD r4 fun e' t cx M1 H1 Hs he' hs4 hsub4 hse hst hte hx ht hC hΨ=>?_
  refine wpAny_mono (hh e M1 Hs hΨ s4 (hs4.sub hsub4)) (fun f s5 q'=>Post.el q' fun M5 H5 hs5 h5=>?_) fun _ _ x=>x.elim
  exact⟨M5,H5,hs5.of_mk',h5⟩
end
theorem qg4:entryFor table "proto.unchain"=some Builtin.«proto.unchain»:=entryFor_of_fast (by kernel_rfl)
section
variable{cls:String}{Ψ:Loc->AH->Prop}{s:Shared}
theorem At.exc{h':Heap}{e:Addr}{ob:Obj}(hs:At D s M H)(hk:∀ b o,s.heap.get? b=some o->h'.get? b=some o)(hn:s.heap.get? e=none)(he:h'.get? e=some ob):
 At D { s with heap:=h' } M (upd H e (.raw ob))/\H e=none:=by
 refine⟨(hs.grow (s':={ s with heap:=h' }) hk).add (d:=.raw ob) (fun q=>?_) (hs.newNone hn) he,?_⟩
 ·refine qR hs.fr fun g m T F R=>?_
  refine qhl F.ns fun o _ _ ho _=>?_
  rw[q,ho] at hn;exact o_sn hn
 ·cases q:H e with
  | none=>rfl
  | some d=>obtain⟨o,ho⟩:=(hs.own _ _ q).2.2.some;rw[hn] at ho;exact o_ns ho
theorem qj1{α:Type}{A':Around}{Q:α->Shared->Prop}{msg:String}(hp:PlainExc cls)(hh:A'.handled=none)(hs:At D s M H)(hΨ:Ψ M H)(hE:∀ x s',RaisN D cls (·=.none) Ψ x s'->E x s'):
 wpAny (model prog w) A' (raiseErrorWords cls msg:Sem α) Q E s:=by
 refine wpAny_raiseErrorWords hp hh fun h' tk e hx=>hE _ _ ?_
 refine qR hx.there fun ob t he hc hd=>?_
 obtain⟨h1,h2⟩:=hs.exc hx.keeps hx.new he
 exact⟨e,.none,M,_,H,rfl,h1.toks tk,Sub.upd h2,h2,⟨ob,_,upd_same,hc,hd,rfl,rfl⟩,rfl,hΨ⟩
theorem qj2{α:Type}{A':Around}{Q:α->Shared->Prop}{msg:String}{e0:Addr}{cls0:String}{tb0:Value}(hp:PlainExc cls)(hh:A'.handled=some (.ref e0))(hx0:Exc H e0 cls0 tb0 .none)(hs:At D s M H)(hΨ:Ψ M H)
 (hE:∀ x s',RaisN D cls (fun _=>True) Ψ x s'->E x s'):wpAny (model prog w) A' (raiseErrorWords cls msg:Sem α) Q E s:=by
 unfold raiseErrorWords
 refine wpAny_bind (wpAny_mkText (wpAny_bind ?_))
 refine wpAny_newExc_plain hp (fun h' e hm=>?_)
 refine qbe hm.there fun t he _ _=>?_
 obtain⟨h1,h2⟩:=hs.exc hm.keeps hm.new he
 refine qbi hx0 fun o0 vs0 g1 gc gd gt gx=>?_
 have hne:e0≠e:=qG h2 g1
 have g2:h'.get? e0=some o0:=hm.keeps _ _ (hs.own _ _ g1).2.2
 unfold raiseNew
 refine wpAny_bind (wpAny_handled ?_)
 refine substr hh ?_
 dsimp only
 refine substr (if_pos (show(Value.ref e0 != Value.ref e)=true from by simp[hne])) ?_
 refine wpAny_bind (wpAny_holding (wpAny_runValue (codeAny_builtin qg4 ?_)))
 unfold Builtin.«proto.unchain»
 dsimp only
 refine wpAny_bind (wpAny_field g2 gd gx ?_)
 refine substr (if_pos (by rfl)) ?_
 refine wpAny_bind (wpAny_pure (wpAny_pure ?_))
 dsimp only
 unfold updateField
 refine wpAny_bind (wpAny_bind (wpAny_load he ?_))
 dsimp only
 refine substr (if_pos (show 2<(#[Value.ref t,Value.none,Value.none,Value.none,Value.bool false,Value.none]:Array Value).size from Nat.lt_of_sub_eq_succ rfl)) ?_
 refine wpAny_update he (wpAny_throw (hE _ _ ?_))
 have h3:=h1.change (d':=.raw (Obj.mapFields (·.setIfInBounds 2 (.ref e0)) { cls:=.type cls,data:=.fields #[.ref t,.none,.none,.none,.bool false,.none] })) upd_same (Heap.SameBut.update _ _ _) (Heap.get?_update_self _ he rfl)
 refine⟨e,.ref e0,M,_,H,rfl,h3.toks _,fun a d q=>?_,h2,⟨_,_,upd_same,rfl,rfl,rfl,rfl⟩,trivial,hΨ⟩
 have hae:a≠e:=qG h2 q
 refine substr (qe hae) (substr (qe hae) ?_);exact q
end
noncomputable def Hand(A:Around)(H:AH)(C:Value->Prop):Prop:=(A.handled=none/\C .none)\/(∃ e0 cls0 tb0,A.handled=some (.ref e0)/\Exc H e0 cls0 tb0 .none/\∀ c,C c)
section
variable{cls:String}{C:Value->Prop}{Ψ:Loc->AH->Prop}{s:Shared}
theorem RaisN.mono{x:Value}{C':Value->Prop}(r:RaisN D cls C Ψ x s)(h:∀ c,C c->C' c):RaisN D cls C' Ψ x s:=by
 refine qhw r fun e cx M H Hs h1 h2 h3 h4 h5 h6 h7=>?_
 exact⟨e,cx,M,H,Hs,h1,h2,h3,h4,h5,h _ h6,h7⟩
theorem qdW{α:Type}{A':Around}{Q:α->Shared->Prop}{msg:String}(hp:PlainExc cls)(hh:Hand A' H C)(hs:At D s M H)(hΨ:Ψ M H)(hE:∀ x s',RaisN D cls C Ψ x s'->E x s'):
 wpAny (model prog w) A' (raiseErrorWords cls msg:Sem α) Q E s:=by
 rcases hh with⟨h0,hc⟩ | ⟨e0,cls0,tb0,h0,hx,hc⟩
 ·exact qj1 hp h0 hs hΨ fun x s' r=>hE x s' (r.mono fun c e=>by refine substr e ?_;exact hc)
 ·exact qj2 hp h0 hx hs hΨ fun x s' r=>hE x s' (r.mono fun c _=>hc c)
theorem qit{l:Addr}{items:Array Value}{k:Int}{t:Tok}{Q:Value->Shared->Prop}(hh:Hand D.A H C)(hs:At D s M H)(hΨ:Ψ M H)(hE:∀ x s',RaisN D "IndexError" C Ψ x s'->E x s') (hl:s.heap.IsList l items)
 (hout:(items.size:Int)<=k) (hhi:k<2^63):wpAny (model prog w) D.A (getItem (.ref l) (.int k t)) Q E s:=by
 refine qw9 (id hl) fun o ho hc ne hd=>?_
 unfold getItem
 try with_reducible refine wpAny_holding ?_
 first | refine wpAny_bind (wpAny_pure ?_) | skip
 refine wpAny_bind (wpAny_sequenceKey hl.typeIs (by decide) ?_)
 refine wpAny_bind (wpAny_callSpecial?_slot (name:=Str.ofString "__getitem__") hl.typeIs slot_list_getitem
  (wpAny_call_entry slot_list_getitem hl.typeIs entry_list_getitem ?_ (args_list_getitem _ _)))
 show wpAny _ _ (Builtin.List.listSubscript? (.int k t) >>= _) _ _ s
 refine wpAny_bind (wpAny_listSubscript_int (fitsIndex_both (qyW hout) hhi) ?_)
 clear hhi
 cases k with
 | negSucc j=>exact absurd hout (by have:=Int.negSucc_lt_zero j;omega)
 | ofNat j=>
  have hx:items[j]?=none:=Array.getElem?_eq_none (by have:(items.size:Int)<=(j:Int):=hout;exact qpT this)
  show wpAny _ _ ((seqItemAt l j >>= fun r=>pure (r.map (j,·))) >>= _) _ _ s
  refine wpAny_bind (wpAny_bind (wpAny_seqItemAt ho hd (wpAny_pure ?_)))
  refine substr hx ?_
  first
   | exact wpAny_bind (wpAny_rule (qdW plainExc_IndexError hh hs hΨ hE))
   | exact wpAny_bind (wpAny_rule (wpAny_bind (qdW plainExc_IndexError hh hs hΨ hE)))
   | exact wpAny_bind (wpAny_bind (wpAny_rule (qdW plainExc_IndexError hh hs hΨ hE)))
   | exact wpAny_rule (qdW plainExc_IndexError hh hs hΨ hE)
theorem qgx{value slice:Expr}{l:Addr}{xs:List Value}{k:Nat}{Φ:Value->Loc->AH->Prop}(hh:Hand D.A H C)(hl:H l=some (lst xs))(h1:(k:Int)<2^63)(hx:∀ p,xs[k]?=some p->Φ p M H)(hΨ:xs.length<=k->Ψ M H)
 (hE:∀ x s',RaisN D "IndexError" C Ψ x s'->E x s'):
 ∀ v u,norm v=.ref l->norm u=I k->WV (model prog w) D (subscriptTail value slice v u) M H Φ E:=by
 intro v u hv hu
 rcases Nat.lt_or_ge k xs.length with h | h
 ·exact qb0 hl (qdp) h1 (by show xs[k]?=_;exact getElem?_eq_getElem h) (hx _ (getElem?_eq_getElem h)) v u hv hu
 ·intro s hs
  refine substr (qz hv) ?_;obtain⟨t',rfl⟩:=qD hu
  refine oEA (hs.list hl) fun vs hL hm=>?_
  exact qcC hL.typeIs slot_list_getitem.lookup (qit hh hs (hΨ h) hE hL (by rw[<- hm,length_map] at h;simpa using h) h1)
end
section
variable{X:String}{Ψ Ψ2:Loc->AH->Prop}
theorem RaisT.any{fl:Value}{cls:String}{C:Value->Prop}{x:Value}{s:Shared}(r:RaisT D fl cls C Ψ x s):RaisT D fl cls (fun _=>True) Ψ x s:=r.mono (fun _ _=>trivial) fun _ _ h=>h
theorem qqH{body fs rest:List Stmt}{f₀:Stmt}{pos:Pos}{Φ:Flow->Loc->AH->Prop}(fm:Fm D)(hf:env.frame=some D.L)(hE:∀ x s',RaisT D (rawInt D.L) X (fun _=>True) Ψ2 x s'->E x s')
 (h:WS (model prog w) D (execs body env) M H (fun f M1 H1=>f=.next/\WS (model prog w) D (execs (f₀::fs) env) M1 H1 (fun f M2 H2=>f=.next/\WS (model prog w) D (execs rest env) M2 H2 Φ E) (Rais D X (fun _=>True) Ψ2)) (Rais D X (·=.none) Ψ))
 (hr:∀ e1 M1 Hs H2,Ψ M1 Hs->Sub Hs H2->Hand (D.mk' e1).A H2 (fun _=>True)->
  WS (model prog w) (D.mk' e1) (execs (f₀::fs) env) M1 H2 (fun f M3 H3=>f=.next/\H3=H2/\Ψ2 M3 Hs) (Rais (D.mk' e1) X (fun _=>True) Ψ2)):
 WS (model prog w) D (execs (.Try body [] [] (f₀::fs) pos::rest) env) M H Φ E:=by
 refine qam fun s hs=>wpAny_Try_finally (wpAny_mono (h s hs) (fun f s1 q'=>Post.el q' fun M1 H1 hs1 z'=>oA z' fun hn h1=>?_) fun x s1 r=>?_)
 ·cases f with
  | next=>
   refine wpAny_execs_nil (wpAny_mono (h1 s1 hs1) (fun g s2 q'=>Post.el q' fun M2 H2 hs2 z'=>oA z' fun hn2 h2=>?_) fun x s2 r=>qgw fm hf r (hE x))
   cases g with
   | next=>exact⟨M2,H2,hs2,h2⟩
   | _=>cases hn2
  | _=>cases hn
 ·refine wpAny_mono (qeu fm hf r) (fun _ s2 r2=>?_) fun x s' r'=>r'
  refine⟨?_,?_⟩
  ·(refine qlI r2 fun e t cx M1 H1 Hs e6' _=>?_;obtain rfl:=e6')
   exact ref_ne_byPass e
  refine wpAny_mono (qeu fm hf (.inr r2)) (fun _ s3 r3=>?_) fun _ _ x=>x
  refine wpAny_mono (qc6 (f:=none) r3) (fun _ s4 r4=>?_) fun _ _ x=>x
  (refine qaD r4 fun e t cx M1 H1 Hs e6' hs4 hsub4 hse hst hte hx ht hC hΨ=>?_;obtain rfl:=e6')
  subst hC
  refine wpAny_mono (hr e M1 Hs H1 hΨ hsub4 (.inr (qp5 e X _ rfl hx (fun _=>trivial))) s4 hs4.mk') (fun g s5 q'=>Post.el q' fun M5 H5 hs5 z'=>oAA z' fun hn5 hH5 h5=>?_) fun x s' r'=>ql5 fm hf r' (hE x)
  cases g with
  | next=>
   subst hH5
   have hx':=hx
   refine qbi hx' fun o vs k1 hc hd k1t _=>?_
   have hR:s5.heap.get? e=some o:=(hs5.own _ _ k1).2.2
   show wpAny _ _ (PySem.passOn "try.finally" (.ref e) env) _ _ _
   unfold PySem.passOn
   refine wpAny_bind (wpAny_field hR hd k1t ?_)
   refine substr (if_neg (by simp)) ?_
   refine substr hf ?_
   refine wpAny_bind (wpAny_mono (qc6 (D:=D) (f:=some D.L) ⟨e,t,_,M5,H5,Hs,rfl,hs5.of_mk',hsub4,hse,hst,hte,hx,ht,rfl,h5⟩) (fun _ s6 r6=>?_) fun _ _ x=>x)
   exact wpAny_throw (hE _ _ (RaisT.any r6))
  | _=>cases hn5
end
theorem qiO(x:String)(v u:Value):∀ M:Loc,put x v (put x u M)=put x v M
 | []=>by simp[qxb,qfC]
 | (y,w)::r=>by
  by_cases h:x=y
  ·subst h;simp[qfC]
  ·simp[qfC,h,qiO x v u r]
theorem qh1{x:String}{v:Value}:∀ {M:Loc},look x M=some v->put x v M=M
 | [],h=>by exact o_ns h
 | (y,w)::r,h=>by
  rw[look_c] at h
  refine substr qfC ?_
  by_cases e:x=y
  ·subst e;simp at h;simp[h]
  ·simp only[e,if_false] at h ⊢;refine substr (qh1 h) rfl
section
variable{ks:List (String×NameKind)}{C:Value->Prop}{Ψ:Loc->AH->Prop}
theorem qfY{xn jn vn:String}{X:Addr}{xs:List Str}{v:Str}{i:Nat}{rest:List Stmt}{Φ:Flow->Loc->AH->Prop}{p1 p2 p3 p4 p5 p6 p7 p8 p9:Pos}
 (fm:Fm D) (ke:KE env ks) (hlo:env.locals=D.L) (hf:env.frame=some D.L) (hh:Hand D.A H C) (hE:∀ x s',RaisT D (rawInt D.L) "IndexError" C Ψ x s'->E x s')
 (kx:qt xn ks=some .local) (kj:qt jn ks=some .local) (kv:qt vn ks=some .local) (n1:xn≠jn) (n2:vn≠jn)
 (hX:look xn M=some (.ref X)) (hi:look jn M=some (I i)) (hv:look vn M=some (S v)) (hH:H X=some (lst (xs.map S))) (hl:xs.length<1000000) (hle:i<=xs.length)
 (hΨ:(xs.drop i).dropWhile (·==v)=[]->Ψ (put jn (I xs.length) M) H)
 (fin:∀ i',i'<xs.length->xs.drop i'=(xs.drop i).dropWhile (·==v)->WS (model prog w) D (execs rest env) (put jn (I i') M) H Φ E):
 WS (model prog w) D (execs (.While (.Compare (.Subscript (.Name (Str.ofString xn) p1) (.Name (Str.ofString jn) p2) p3) [.Eq] [.Name (Str.ofString vn) p4] p5)
  [.AugAssign (.Name (Str.ofString jn) p6) .Add (.Constant (.int 1) 0 p7) p8] [] p9::rest) env) M H Φ E:=by
 refine ql6 fm hf hE (fun m M2 H2=>∃ i2:Nat,M2=put jn (I i2) M/\H2=H/\i2<=xs.length/\m=xs.length-i2/\(xs.drop i2).dropWhile (·==v)=(xs.drop i).dropWhile (·==v)) (n:=xs.length-i)
  (qp2 i ((qh1 hi).symm) rfl hle rfl rfl) ?_
 intro m M2 H2 r3';(refine qp7 r3' fun i2 e1' e2' h2 e4' hd=>?_;obtain rfl:=e1';obtain rfl:=e2';obtain rfl:=e4')
 have l1:look xn (put jn (I i2) M)=some (.ref X):=by refine substr (qb8 ..) (substr (if_neg n1) ?_);exact hX
 have l2:look jn (put jn (I i2) M)=some (I i2):=by refine substr (qb8 ..) (substr (if_pos rfl) rfl)
 have l3:look vn (put jn (I i2) M)=some (S v):=by refine substr (qb8 ..) (substr (if_neg n2) ?_);exact hv
 refine qO (qW (qbQ ke hlo kx l1 (qbQ ke hlo kj l2 (qgx hh hH (qyX hl h2) (fun p hp=>?_) (fun hge=>?_) fun x s' r=>.inl r))))
 ·rw[getElem?_map] at hp
  (refine oEA (Option.map_eq_some_iff.mp hp) fun y hy e2'=>?_;obtain rfl:=e2')
  obtain⟨hlt,hy'⟩:=List.getElem?_eq_some_iff.mp hy
  have hdrop:xs.drop i2=y::xs.drop (i2+1):=by refine substr hy'.symm ?_;exact List.drop_eq_getElem_cons hlt
  refine qbQ ke hlo kv l3 (qb5 (asB ⟨fun hb=>?_,fun hb=>?_⟩))
  ·refine qbs (qfe ke hlo kj l2) (qw (qa7 ?_))
   refine substr (show I ((i2:Int)+1)=I ((i2+1:Nat):Int) from rfl) ?_
   refine st1 ke hlo kj (qy ⟨xs.length-(i2+1),by exact qfd hlt,i2+1,qiO _ _ _ _,rfl,hlt,rfl,?_⟩)
   rw[hdrop,List.dropWhile_cons,if_pos hb] at hd
   exact hd
  ·refine fin i2 hlt ?_
   refine substr hd.symm (substr hdrop (substr List.dropWhile_cons (substr (if_neg (by simpa using hb)) rfl)))
 ·have he:i2=xs.length:=by rw[length_map] at hge;exact qje h2 hge
  subst he
  refine hΨ ?_
  refine substr hd.symm (substr List.drop_length ?_);rfl
end
noncomputable def ltS(x y:Str):Bool:=decide (x.cps.toList<y.cps.toList)
noncomputable def qaA:Nat->List Str->List Str->List Str×List Str
 | k+1,e::xs,a::ys=>
  if ltS e a then(e::(qaA k (xs.dropWhile (·==e)) (a::ys)).1,(qaA k (xs.dropWhile (·==e)) (a::ys)).2)
  else if ltS a e then((qaA k (e::xs) (ys.dropWhile (·==a))).1,a::(qaA k (e::xs) (ys.dropWhile (·==a))).2)
  else qaA k (xs.dropWhile (·==e)) (ys.dropWhile (·==a))
 | _,xs,ys=>(xs,ys)
theorem qcr{k:Nat}{e a:Str}{xs ys:List Str}:qaA (k+1) (e::xs) (a::ys)=if ltS e a then(e::(qaA k (xs.dropWhile (·==e)) (a::ys)).1,(qaA k (xs.dropWhile (·==e)) (a::ys)).2)
 else if ltS a e then((qaA k (e::xs) (ys.dropWhile (·==a))).1,a::(qaA k (e::xs) (ys.dropWhile (·==a))).2)
 else qaA k (xs.dropWhile (·==e)) (ys.dropWhile (·==a)):=rfl
theorem qcg(k:Nat)(ys:List Str):qaA k [] ys=([],ys):=by cases k<;>rfl
theorem qdm(k:Nat)(xs:List Str):qaA k xs []=(xs,[]):=by cases k<;>cases xs<;>rfl
structure SJ(X Y ms us:Addr)(i j:Nat)(M:Loc):Prop where
 ex:look "expected" M=some (.ref X)
 ac:look "actual" M=some (.ref Y)
 i_:look "i" M=some (I i)
 j_:look "j" M=some (I j)
 mi:look "missing" M=some (.ref ms)
 un:look "unexpected" M=some (.ref us)
structure SH(H Hk:AH)(ms us:Addr)(mm uu:List Str):Prop where
 sub:Sub H Hk
 ms:Hk ms=some (lst (mm.map S))
 us:Hk us=some (lst (uu.map S))
theorem SH.up{H Hk Hx:AH}{ms us:Addr}{mm uu:List Str}(h:SH H Hk ms us mm uu)(s:Sub Hk Hx):SH H Hx ms us mm uu:=⟨h.sub.trans s,s _ _ h.ms,s _ _ h.us⟩
theorem SH.setM{H Hk:AH}{ms us:Addr}{mm uu:List Str}(h:SH H Hk ms us mm uu)(hm:H ms=none)(hne:us≠ms)(vs:List Str):SH H (upd Hk ms (lst (vs.map S))) ms us vs uu:=
 ⟨fun b d hb=>(qe fun e=>by rw[e,hm] at hb;exact o_ns hb).trans (h.sub b d hb),upd_same,(qe hne).trans h.us⟩
theorem SH.setU{H Hk:AH}{ms us:Addr}{mm uu:List Str}(h:SH H Hk ms us mm uu)(hm:H us=none)(hne:us≠ms)(vs:List Str):SH H (upd Hk us (lst (vs.map S))) ms us mm vs:=
 ⟨fun b d hb=>(qe fun e=>by rw[e,hm] at hb;exact o_ns hb).trans (h.sub b d hb),(qe (Ne.symm hne)).trans h.ms,upd_same⟩
theorem qo7:isSubtype (.type "IndexError") (.type "BaseException")=pure true:=by rfl
theorem qo8:isSubtype (.type ((Manifest.find? "IndexError").elim "type" fun x=>x.metatype)) (.type "tuple")=pure false:=by rfl
theorem qo9:isSubtype (.type "IndexError") (.type "IndexError")=pure true:=by rfl
inductive SdJ(H:AH)(X Y ms us:Addr)(xs ys:List Str)(tgt:List Str×List Str)(m:Nat)(M:Loc)(Hk:AH):Prop
 | mk(i j:Nat)(mm uu:List Str)(hi:i<=xs.length)(hj:j<=ys.length)(jj:SJ X Y ms us i j M)(k:SH H Hk ms us mm uu)(hlen:(xs.drop i).length+(ys.drop j).length<=m)(hml:mm.length<=i)(hul:uu.length<=j)
  (htg:(mm++(qaA m (xs.drop i) (ys.drop j)).1,uu++(qaA m (xs.drop i) (ys.drop j)).2)=tgt)
inductive SdP(H:AH)(ms us:Addr)(tgt:List Str×List Str)(M:Loc)(Hk:AH):Prop
 | mk(k1:look "missing" M=some (.ref ms)) (k2:look "unexpected" M=some (.ref us)) (k:SH H Hk ms us tgt.1 tgt.2)
inductive SdE(H:AH)(X Y ms us:Addr)(xs ys:List Str)(tgt:List Str×List Str)(M:Loc)(Hk:AH):Prop
 | mk(i j:Nat)(mm uu:List Str)(hi:i<=xs.length)(hj:j<=ys.length)(jj:SJ X Y ms us i j M)(k:SH H Hk ms us mm uu)(hml:mm.length<=i)(hul:uu.length<=j)(htg:(mm++xs.drop i,uu++ys.drop j)=tgt)
inductive SdF(H:AH)(X Y ms us:Addr)(i j:Nat)(a:Str)(mm uu:List Str)(p:Prop)(M:Loc)(Hk:AH):Prop
 | mk(jj:SJ X Y ms us i j M)(ka:look "a" M=some (S a)) (k:SH H Hk ms us mm uu) (h:p)
theorem qh2(ok:Ok (KF w.params) glob q7 D (n+1)){X Y:Addr}{xs ys:List Str}(hX:H X=some (lst (xs.map S)))(hY:H Y=some (lst (ys.map S)))(lx:xs.length<=1000)(ly:ys.length<=1000)
 (h:∀ T ms us Hs,Sub H Hs->H T=none->H ms=none->H us=none->Hs T=some (tup [.ref ms,.ref us])->Hs ms=some (lst ((qaA (xs.length+ys.length) xs ys).1.map S))->Hs us=some (lst ((qaA (xs.length+ys.length) xs ys).2.map S))->Φ (.ref T) M Hs):
 ∀ vs,vs.map norm=[.ref X,.ref Y]->WV (model prog w) D (call (.ref 88) vs) M H Φ E:=by
 refine qba ok (by rfl) (by rfl) ["expected", "actual"] [("expected",.local),("actual",.local),("i",.local),("j",.local),("missing",.local),("unexpected",.local),("e",.local),("a",.local),("IndexError",.globalImplicit)] ?hb (by rfl) (by rfl) (by decide) (by decide) (by rfl) ?_
 case hb=>intro vs h;(refine oEE (ex2 h) fun a b e2'=>?_;obtain rfl:=e2');rfl
 intro D' env ok' ke hlo hf
 have big:(1000000:Nat)<=sizeLine:=by decide
 have fm:=ok'.fm
 have hmx:(xs.map S).length=xs.length:=length_map ..
 have hmy:(ys.map S).length=ys.length:=length_map ..
 generalize hT:qaA (xs.length+ys.length) xs ys=tgt at h
 refine qfW ke ?_
 refine qgP (qw ?_)
 refine qj ?_;walk_at "s"
 refine qj ?_;walk_at "s"
 refine qN ?_
 refine qI (qae (qi ⟨qJ rfl,fun ms hms=>?_⟩))
 walk_at "s"
 refine qI (qae (qi ⟨qJ rfl,fun us hus=>?_⟩))
 walk_at "s"
 have hne:us≠ms:=fun e=>by rw[e,upd_same] at hus;exact o_sn hus
 have hus0:H us=none:=by rw[qe hne] at hus;exact hus
 have jset:∀ {M2:Loc} {i j i2:Nat},SJ X Y ms us i j M2->SJ X Y ms us i2 j (put "i" (I (i2:Nat)) M2):=by
  rintro M2 i j i2 ⟨j1,j2,j3,j4,j5,j6⟩
  exact⟨by walk_at "l",by walk_at "l",by walk_at "l",by walk_at "l",by walk_at "l",by walk_at "l"⟩
 have jset2:∀ {M2:Loc} {i j j2:Nat},SJ X Y ms us i j M2->SJ X Y ms us i j2 (put "j" (I (j2:Nat)) M2):=by
  rintro M2 i j i2 ⟨j1,j2,j3,j4,j5,j6⟩
  exact⟨by walk_at "l",by walk_at "l",by walk_at "l",by walk_at "l",by walk_at "l",by walk_at "l"⟩
 have jsetE:∀ {M2:Loc} {i j:Nat} {p:Value},SJ X Y ms us i j M2->SJ X Y ms us i j (put "e" p M2):=by
  rintro M2 i j p ⟨j1,j2,j3,j4,j5,j6⟩
  exact⟨by walk_at "l",by walk_at "l",by walk_at "l",by walk_at "l",by walk_at "l",by walk_at "l"⟩
 have jsetA:∀ {M2:Loc} {i j:Nat} {p:Value},SJ X Y ms us i j M2->SJ X Y ms us i j (put "a" p M2):=by
  rintro M2 i j p ⟨j1,j2,j3,j4,j5,j6⟩
  exact⟨by walk_at "l",by walk_at "l",by walk_at "l",by walk_at "l",by walk_at "l",by walk_at "l"⟩
 have ipp:∀ i:Nat,I ((i:Int)+1)=I ((i+1:Nat):Int):=fun _=>rfl
 refine qc4 (SdJ H X Y ms us xs ys tgt)
  (SdP H ms us tgt)
  (n:=xs.length+ys.length) ⟨0,0,[],[],Nat.zero_le _,Nat.zero_le _,⟨by walk_at "l",by walk_at "l",by walk_at "l",by walk_at "l",by walk_at "l",by walk_at "l"⟩,⟨by walk_at "b",by walk_at "h",by walk_at "h"⟩,Nat.le_refl _,Nat.le_refl _,Nat.le_refl _,hT⟩ ?_ ?_
 ·rintro m M2 Hk ⟨i,j,mm,uu,hi,hj,jj,k,hlen,hml,hul,htg⟩
  refine qao (qcb (qcA ⟨fun _=>?_,fun hb=>by cases hb⟩))
  have hXk:=k.sub _ _ hX
  have hYk:=k.sub _ _ hY
  have jj0:=jj
  obtain⟨j1,j2,j3,j4,j5,j6⟩:=jj0
  refine qk4 (X := "IndexError") (C:=fun _=>True) (Ψ:=SdE H X Y ms us xs ys tgt)
   fm ke hf ok'.glob (by rfl) (by rfl) qo7 qo8 qo9 ?_ ?_
  ·refine qI (qW ?_)
   walk_at "n"
   walk_at "n"
   refine qgx (C:=fun _=>True) (.inl ⟨ok'.hand,trivial⟩) hXk (qpX lx hi) (fun p hp=>?_) (fun hge=>?_) (fun x s' r=>.inl r)
   rotate_left
   ·have he:i=xs.length:=by rw[hmx] at hge;exact qje hi hge
    refine⟨i,j,mm,uu,hi,hj,jj,k,hml,hul,?_⟩
    refine substr htg.symm (substr he (substr List.drop_length (substr (qcg ..) rfl)))
   (refine oEA (qai hp) fun e he e2'=>?_;obtain rfl:=e2')
   walk_at "s"
   have jE:=jsetE (p:=S e) jj
   have eE:look "e" (put "e" (S e) M2)=some (S e):=by walk_at "l"
   generalize put "e" (S e) M2=M3 at jE eE
   have jE0:=jE
   obtain⟨j1,j2,j3,j4,j5,j6⟩:=jE0
   refine qI (qW ?_)
   walk_at "n"
   walk_at "n"
   refine qgx (C:=fun _=>True) (.inl ⟨ok'.hand,trivial⟩) hYk (qpX ly hj) (fun p hp=>?_) (fun hge=>?_) (fun x s' r=>.inl r)
   rotate_left
   ·have he:j=ys.length:=by rw[hmy] at hge;exact qje hj hge
    refine⟨i,j,mm,uu,hi,hj,jE,k,hml,hul,?_⟩
    refine substr htg.symm (substr he (substr List.drop_length (substr (qdm ..) rfl)))
   (refine oEA (qai hp) fun a ha e2'=>?_;obtain rfl:=e2')
   walk_at "s"
   have jA:=jsetA (p:=S a) jE
   have eA:look "e" (put "a" (S a) M3)=some (S e):=by walk_at "l"
   have aA:look "a" (put "a" (S a) M3)=some (S a):=by walk_at "l"
   generalize put "a" (S a) M3=M4 at jA eA aA
   have jA0:=jA
   obtain⟨j1,j2,j3,j4,j5,j6⟩:=jA0
   rw[qap he,qap ha] at htg hlen
   obtain⟨m',rfl⟩:∃ m',m=m'+1:=⟨m-1,by simp at hlen;exact qy8 hlen⟩
   have hil:i<xs.length:=(List.getElem?_eq_some_iff.mp he).1
   have hjl:j<ys.length:=(List.getElem?_eq_some_iff.mp ha).1
   rw[qcr] at htg
   simp only[length_cons,length_drop] at hlen
   refine qbp (qO ?_)
   walk_at "n"
   walk_at "n"
   refine qxj (asB ⟨fun hb=>?_,fun hb=>?_⟩)
   ·rw[if_pos (show ltS e a=true from hb)] at htg
    refine qaq (qa2 F.slot_list_append F.type_list_append ?_) ke
    walk_at "n"
    refine⟨ms,mm.map S,rfl,k.ms,qp qu (qd ?_)⟩
    walk_at "n"
    refine qi (qbB k.ms (by refine substr (length_map ..) ?_;exact qlG lx big hml hil) ⟨rfl,?_⟩)
    have k2:=k.setM hms hne (mm++[e])
    rw[map_append] at k2
    refine qbs (by walk_at "d") (qw (qa7 ?_))
    refine substr (ipp ..) ?_
    walk_at "s"
    have jI:=jset (i2:=i+1) jA
    have eI:look "e" (put "i" (I ((i+1:Nat):Int)) M4)=some (S e):=by walk_at "l"
    generalize put "i" (I ((i+1:Nat):Int)) M4=M5 at jI eI
    refine qfY (C:=fun _=>True) fm ke hlo hf (.inl ⟨ok'.hand,trivial⟩) (fun x s' r=>.inr r) (by rfl) (by rfl) (by rfl) (by decide) (by decide) jI.ex jI.i_ eI (k2.sub _ _ hX) (qhs lx) (qc0 hil) (fun h0=>?_) (fun i' hi' hd=>?_)
    ·refine⟨xs.length,j,mm++[e],uu,Nat.le_refl _,hj,jset jI,k2,by simp;exact qpY hml hil,hul,?_⟩
     rw[h0,qcg] at htg
     refine substr List.drop_length (substr htg.symm (substr (qap ha) ?_));simp
    ·have hl2:=congrArg List.length hd
     have hl3:=(List.dropWhile_sublist (p:=(·==e)) (l:=xs.drop (i+1))).length_le
     simp only[length_drop] at hl2 hl3
     refine qy (qy (qy ⟨m',Nat.lt_succ_self _,i',j,mm++[e],uu,by exact qd8 hi',hj,jset jI,k2,by simp only[length_drop];exact qy9 hlen hl2 hl3,by simp;exact qpZ hml hi' hl2 hl3,hul,?_⟩))
     refine substr hd (substr htg.symm (substr (qap ha) ?_));simp
   ·rw[if_neg (show ¬ ltS e a=true by refine substr (show ltS e a=false from hb) ?_;decide)] at htg
    refine qbp (qO ?_)
    walk_at "n"
    walk_at "n"
    refine qxk (asB ⟨fun hb2=>?_,fun hb2=>?_⟩)
    ·rw[if_pos (show ltS a e=true from hb2)] at htg
     refine qaq (qa2 F.slot_list_append F.type_list_append ?_) ke
     walk_at "n"
     refine⟨us,uu.map S,rfl,k.us,qp qu (qd ?_)⟩
     walk_at "n"
     refine qi (qbB k.us (by refine substr (length_map ..) ?_;exact qlG ly big hul hjl) ⟨rfl,?_⟩)
     have k2:=k.setU hus0 hne (uu++[a])
     rw[map_append] at k2
     refine qbs (by walk_at "d") (qw (qa7 ?_))
     refine substr (ipp ..) ?_
     walk_at "s"
     have jI:=jset2 (j2:=j+1) jA
     have aI:look "a" (put "j" (I ((j+1:Nat):Int)) M4)=some (S a):=by walk_at "l"
     generalize put "j" (I ((j+1:Nat):Int)) M4=M5 at jI aI
     refine qfY (C:=fun _=>True) fm ke hlo hf (.inl ⟨ok'.hand,trivial⟩) (fun x s' r=>.inr r) (by rfl) (by rfl) (by rfl) (by decide) (by decide) jI.ac jI.j_ aI (k2.sub _ _ hY) (qhs ly) (qc0 hjl) (fun h0=>?_) (fun j' hj' hd=>?_)
     ·refine⟨i,ys.length,mm,uu++[a],hi,Nat.le_refl _,jset2 jI,k2,hml,by simp;exact qpY hul hjl,?_⟩
      rw[h0,qdm] at htg
      refine substr List.drop_length (substr htg.symm (substr (qap he) ?_));simp
     ·have hl2:=congrArg List.length hd
      have hl3:=(List.dropWhile_sublist (p:=(·==a)) (l:=ys.drop (j+1))).length_le
      simp only[length_drop] at hl2 hl3
      refine qy (qy (qy (qy ⟨m',Nat.lt_succ_self _,i,j',mm,uu++[a],hi,by exact qd8 hj',jset2 jI,k2,by simp only[length_drop];exact qza hlen hl2 hl3,hml,by simp;exact qpZ hul hj' hl2 hl3,?_⟩)))
      refine substr hd (substr htg.symm (substr (qap he) ?_));simp
    ·rw[if_neg (show ¬ ltS a e=true by refine substr (show ltS a e=false from hb2) ?_;decide)] at htg
     refine qbs (by walk_at "d") (qw (qa7 ?_))
     refine substr (ipp ..) ?_
     walk_at "s"
     have jI:=jset (i2:=i+1) jA
     have eI:look "e" (put "i" (I ((i+1:Nat):Int)) M4)=some (S e):=by walk_at "l"
     have aI:look "a" (put "i" (I ((i+1:Nat):Int)) M4)=some (S a):=by walk_at "l"
     generalize put "i" (I ((i+1:Nat):Int)) M4=M5 at jI eI aI
     refine qqH (X := "IndexError") (Ψ:=SdF H X Y ms us xs.length j a mm uu ((xs.drop (i+1)).dropWhile (·==e)=[]))
      (Ψ2:=SdE H X Y ms us xs ys tgt)
      fm hf (fun x s' r=>.inr r) ?_ ?_
     ·refine qfY (C:=(·=.none)) fm ke hlo hf (.inl ⟨ok'.hand,rfl⟩) (fun x s' r=>.inr r) (by rfl) (by rfl) (by rfl) (by decide) (by decide) jI.ex jI.i_ eI (k.sub _ _ hX) (qhs lx) (qc0 hil) (fun h0=>?_) (fun i' hi' hd=>?_)
      ·exact⟨jset jI,by walk_at "l",k,h0⟩
      ·have jW:=jset (i2:=i') jI
       have aW:look "a" (put "i" (I (i':Nat)) M5)=some (S a):=by walk_at "l"
       generalize put "i" (I (i':Nat)) M5=M6 at jW aW
       refine qy ⟨rfl,?_⟩
       have jW0:=jW
       obtain⟨j1,j2,j3,j4,j5,j6⟩:=jW0
       refine qbs (by walk_at "d") (qw (qa7 ?_))
       refine substr (ipp ..) ?_
       walk_at "s"
       have jV:=jset2 (j2:=j+1) jW
       have aV:look "a" (put "j" (I ((j+1:Nat):Int)) M6)=some (S a):=by walk_at "l"
       generalize put "j" (I ((j+1:Nat):Int)) M6=M7 at jV aV
       have hl2:=congrArg List.length hd
       have hl3:=(List.dropWhile_sublist (p:=(·==e)) (l:=xs.drop (i+1))).length_le
       simp only[length_drop] at hl2 hl3
       refine qfY (C:=fun _=>True) fm ke hlo hf (.inl ⟨ok'.hand,trivial⟩) (fun x s' r=>.inr r) (by rfl) (by rfl) (by rfl) (by decide) (by decide) jV.ac jV.j_ aV (k.sub _ _ hY) (qhs ly) (qc0 hjl) (fun h0=>?_) (fun j' hj' hd2=>?_)
       ·refine⟨i',ys.length,mm,uu,by exact qd8 hi',Nat.le_refl _,jset2 jV,k,by exact qjf hml hi' hl2 hl3,by exact qjg hul hjl,?_⟩
        rw[h0,qdm] at htg
        refine substr List.drop_length (substr htg.symm (substr hd rfl))
       ·have hl4:=congrArg List.length hd2
        have hl5:=(List.dropWhile_sublist (p:=(·==a)) (l:=ys.drop (j+1))).length_le
        simp only[length_drop] at hl4 hl5
        refine qy ⟨rfl,qy (qy (qy (qy ⟨m',Nat.lt_succ_self _,i',j',mm,uu,by exact qd8 hi',by exact qd8 hj',jset2 jV,k,by simp only[length_drop];exact qrI hlen hl2 hl3 hl4 hl5,by exact qjf hml hi' hl2 hl3,by exact qjf hul hj' hl4 hl5,?_⟩)))⟩
        refine substr hd (substr hd2 ?_);exact htg
     ·rintro e1 M6 Hs H2 ⟨jW,aW,kS,h0⟩ hsub hhand
      have hlo':env.locals=(D'.mk' e1).L:=hlo
      have hf':env.frame=some (D'.mk' e1).L:=hf
      have jW0:=jW
      obtain⟨j1,j2,j3,j4,j5,j6⟩:=jW0
      refine qbs (by walk_at "d") (qw (qa7 ?_))
      refine substr (ipp ..) ?_
      walk_at "s"
      have jV:=jset2 (j2:=j+1) jW
      have aV:look "a" (put "j" (I ((j+1:Nat):Int)) M6)=some (S a):=by walk_at "l"
      generalize put "j" (I ((j+1:Nat):Int)) M6=M7 at jV aV
      rw[h0,qcg] at htg
      refine qfY (C:=fun _=>True) fm.mk' ke hlo' hf' hhand (fun x s' r=>.inr r) (by rfl) (by rfl) (by rfl) (by decide) (by decide) jV.ac jV.j_ aV (hsub _ _ (kS.sub _ _ hY)) (qhs ly) (qc0 hjl) (fun h0=>?_) (fun j' hj' hd2=>?_)
      ·refine⟨xs.length,ys.length,mm,uu,Nat.le_refl _,Nat.le_refl _,jset2 jV,kS.up hsub,by exact qjg hml hil,by exact qjg hul hjl,?_⟩
       refine substr List.drop_length (substr List.drop_length (substr htg.symm (substr h0 rfl)))
      ·have hl4:=congrArg List.length hd2
       have hl5:=(List.dropWhile_sublist (p:=(·==a)) (l:=ys.drop (j+1))).length_le
       simp only[length_drop] at hl4 hl5
       refine qy ⟨rfl,rfl,xs.length,j',mm,uu,Nat.le_refl _,by exact qd8 hj',jset2 jV,kS,by exact qjg hml hil,by exact qjf hul hj' hl4 hl5,?_⟩
       refine substr List.drop_length (substr hd2 ?_);exact htg
  ·rintro e1 M6 Hs ⟨i,j,mm,uu,hi,hj,jW,kS,hml,hul,htg⟩
   have hlo':env.locals=(D'.mk' e1).L:=hlo
   obtain⟨j1,j2,j3,j4,j5,j6⟩:=jW
   have pk:∀(zs:List Str) (i:Nat),i<=zs.length->pick (zs.map S) (some (i:Int)) none=(zs.drop i).map S:=by
    intro zs i hi
    refine substr (qgn ..) (substr (length_map ..) ?_)
    have e1:kms_lo (some (i:Int)) zs.length=i:=by unfold kms_lo;dsimp only;refine substr (if_neg (qjh)) ?_;simp;exact qrJ hi
    have e2:kms_hi none zs.length=zs.length:=rfl
    refine substr e1 (substr e2 (substr List.map_drop (substr (List.take_of_length_le (by simp)) rfl)))
   refine qaq (qa2 F.slot_list_extend F.type_list_extend ?_) ke
   walk_at "n"
   refine⟨ms,mm.map S,rfl,kS.ms,qp qu (qd (qW ?_))⟩
   walk_at "n"
   refine qaN (qaj ?_)
   walk_at "n"
   refine qcd (fun r hr v u hv hu=>qdQ (lo:=some (i:Int)) (hi:=none) (kS.sub _ _ hX) (by refine substr (length_map ..) ?_;exact qg7 lx big) (fun r2 hr2=>qi ?_) r hr v u hv hu)
   refine substr (pk xs i hi) ?_
   refine qhI (xs:=mm.map S) (ys:=(xs.drop i).map S) (qx hr2 kS.ms) upd_same (by simp;exact qmQ lx big hi hml) ⟨rfl,?_⟩
   have k2:=(kS.up (Sub.upd (d:=lst ((xs.drop i).map S)) hr2)).setM hms hne (mm++xs.drop i)
   rw[map_append] at k2
   generalize upd (upd Hs r2 (lst ((xs.drop i).map S))) ms (lst (mm.map S++(xs.drop i).map S))=H3 at k2
   refine qaq (qa2 F.slot_list_extend F.type_list_extend ?_) ke
   walk_at "n"
   refine⟨us,uu.map S,rfl,k2.us,qp qu (qd (qW ?_))⟩
   walk_at "n"
   refine qaN (qaj ?_)
   walk_at "n"
   refine qcd (fun r hr v u hv hu=>qdQ (lo:=some (j:Int)) (hi:=none) (k2.sub _ _ hY) (by refine substr (length_map ..) ?_;exact qg7 ly big) (fun r3 hr3=>qi ?_) r hr v u hv hu)
   refine substr (pk ys j hj) ?_
   refine qhI (xs:=uu.map S) (ys:=(ys.drop j).map S) (qx hr3 k2.us) upd_same (by simp;exact qmQ ly big hj hul) ⟨rfl,?_⟩
   have k3:=(k2.up (Sub.upd (d:=lst ((ys.drop j).map S)) hr3)).setU hus0 hne (uu++ys.drop j)
   rw[map_append] at k3
   refine qiG ⟨rfl,j5,j6,?_⟩
   refine substr htg.symm ?_
   exact k3
 ·rintro M2 Hk ⟨j1,j2,k⟩
  refine qaw (qaa (qd ?_))
  walk_at "n"
  refine qd ?_
  walk_at "n"
  refine qi ⟨qJ rfl,fun T hT0=>(iEA _ Sub.refl ?_)⟩
  have hTm:ms≠T:=qG hT0 k.ms
  have hTu:us≠T:=qG hT0 k.us
  exact h T ms us _ (k.sub.trans (Sub.upd hT0)) (k.sub.none hT0) hms hus0 upd_same ((qe hTm).trans k.ms) ((qe hTu).trans k.us)
section
variable{Ψ:Loc->AH->Prop}
theorem qcJ{α β:Type}(f:α->β):∀(l:List α) (k:Nat),(l.eraseIdx k).map f=(l.map f).eraseIdx k
 | [],k=>by simp
 | a::l,0=>by simp
 | a::l,k+1=>by simp[qcJ f l k]
noncomputable def isS(x:Str):Value->Bool
 | .str y _=>y==x
 | _=>false
theorem ql7(x:Str)(v:Value):isS x (norm v)=isS x v:=by cases v<;>rfl
theorem qgT{us:List Value}{ys:List Str}(h:us.map norm=ys.map S){x:Str}{t:Tok}:∀ y,y∈us->MeetsSeq.EqGives y (.str x t) (isS x y):=by
 intro y hy
 have:norm y∈ys.map S:=h▸List.mem_map_of_mem hy
 refine oEA (List.mem_map.mp this) fun z _ hz=>?_
 obtain⟨t',rfl⟩:=qH hz.symm
 have:=SeqRoads2.EqGives.str z x t' t
 rw[str_beq] at this
 exact this
theorem qh3{us:List Value}{ys:List Str}(h:us.map norm=ys.map S)(x:Str)(m:Nat)(hm:m<us.length)(hm2:m<ys.length):isS x us[m]=(ys[m]==x):=by
 have e:norm us[m]=S ys[m]:=by
  have:=congrArg (fun l=>l[m]?) h
  simpa [hm,hm2] using this
 refine substr (ql7 ..).symm (substr e ?_);rfl
theorem ql8{l:Addr}{ys:List Str}{x:Str}(hh:D.A.handled=none)(hl:H l=some (lst (ys.map S)))(hz:ys.length<=1000)(h:x∈ys->Φ .none M (upd H l (lst ((ys.erase x).map S))))(hΨ:x ∉ ys->Ψ M H)
 (hE:∀ y s',RaisN D "ValueError" (fun _=>True) Ψ y s'->E y s'):∀ vs,vs.map norm=[S x]->WV (model prog w) D (call (.builtin "list.remove") ([.ref l]++vs)) M H Φ E:=by
 have big:(1000000:Nat)<=sizeLine:=by decide
 intro vs hvs s hs
 (refine oEA (nm1 hvs) fun u e1' hu=>?_;obtain rfl:=e1')
 obtain⟨t,rfl⟩:=qH hu
 refine qau (hs.own _ _ hl) fun _ _ us n e r=>?_
 have hlen:us.toList.length=ys.length:=by refine substr (length_map (f:=norm)).symm (substr r (substr (length_map ..) rfl))
 have hsz:us.size=ys.length:=by refine substr hlen.symm (substr Array.length_toList rfl)
 by_cases hx:x∈ys
 ·have hj:ys.idxOf x<ys.length:=List.idxOf_lt_length_iff.mpr hx
  refine call_meets F.slot_list_remove ⟨_,e,rfl⟩ F.entry_list_remove (F.args_list_remove_2 _ _)
   (MeetsSeq.list_remove l us n (.str x t) (isS x) (fun y hy=>qgT r y (by simpa using hy)) (ys.idxOf x) (qpU hsz hj) ?_ (fun m hm hlt=>?_) (qyY hz big hsz)) ⟨e,?_⟩
  ·have:=qh3 r x (ys.idxOf x) (qpU hlen hj) hj
   rw[Array.getElem_toList] at this
   refine substr this ?_;simp
  ·have:=qh3 r x m (qpV hlen hsz hm) (qlE hsz hm)
   rw[Array.getElem_toList] at this
   refine substr this ?_
   exact List.not_of_lt_findIdx hlt
  ·refine⟨M,_,hs.seqSet (ys:=(ys.erase x).map S) hl e (fun xs=>xs.eraseIdxIfInBounds (ys.idxOf x)) ?_,h hx⟩
   refine substr Array.toList_eraseIdxIfInBounds (substr (qcJ ..) (substr r (substr (qcJ ..).symm (substr (List.erase_eq_eraseIdx_of_idxOf rfl) rfl))))
 ·refine call_meets F.slot_list_remove ⟨_,e,rfl⟩ F.entry_list_remove (F.args_list_remove_2 _ _)
   (MeetsSeq.list_remove_none l us n (.str x t) (isS x) (fun y hy=>qgT r y (by simpa using hy)) (fun m hm=>?_)) ⟨e,hh,fun h' tk ex hne=>hE _ _ ?_⟩
  ·have:=qh3 r x m (qpV hlen hsz hm) (qlE hsz hm)
   rw[Array.getElem_toList] at this
   refine substr this ?_
   exact beq_eq_false_iff_ne.mpr fun q=>hx (q▸List.getElem_mem _)
  ·refine qR hne.there fun ob t' he hc hd=>?_
   obtain⟨h1,h2⟩:=hs.exc hne.keeps hne.new he
   exact⟨ex,.none,M,_,H,rfl,h1.toks tk,Sub.upd h2,h2,⟨ob,_,upd_same,hc,hd,rfl,rfl⟩,trivial,hΨ hx⟩
end
noncomputable def qaK:List Str->List Str->List Str->List Str×List Str
 | [],acc,ys=>(acc,ys)
 | x::r,acc,ys=>if x∈ys then qaK r acc (ys.erase x) else qaK r (acc++[x]) ys
theorem qk5{x:Str}{r acc ys:List Str}:qaK (x::r) acc ys=if x∈ys then qaK r acc (ys.erase x) else qaK r (acc++[x]) ys:=rfl
structure UK(H Hk:AH)(X Y ms:Addr)(xs ys acc:List Str):Prop where
 keep:∀ a d,a≠X->a≠Y->H a=some d->Hk a=some d
 X:Hk X=some (lst (xs.map S))
 Y:Hk Y=some (lst (ys.map S))
 ms:Hk ms=some (lst (acc.map S))
structure UJ(X Y ms:Addr)(M:Loc):Prop where
 ex:look "expected" M=some (.ref X)
 ac:look "actual" M=some (.ref Y)
 mi:look "missing" M=some (.ref ms)
theorem qpa:isSubtype (.type "ValueError") (.type "BaseException")=pure true:=by rfl
theorem qpb:isSubtype (.type ((Manifest.find? "ValueError").elim "type" fun x=>x.metatype)) (.type "tuple")=pure false:=by rfl
theorem qpc:isSubtype (.type "ValueError") (.type "ValueError")=pure true:=by rfl
inductive UdJ(H:AH)(X Y ms:Addr)(tgt:List Str×List Str)(m:Nat)(M:Loc)(Hk:AH):Prop
 | mk(xr yr acc:List Str)(hm:m=xr.length)(l1:xr.length<=1000)(l2:yr.length<=1000)(l3:acc.length+xr.length<=1000)(jj:UJ X Y ms M)(k:UK H Hk X Y ms xr yr acc)(htg:qaK xr.reverse acc yr=tgt)
inductive UdP(H:AH)(X Y ms:Addr)(tgt:List Str×List Str)(M:Loc)(Hk:AH):Prop
 | mk(jj:UJ X Y ms M)(k:UK H Hk X Y ms [] tgt.2 tgt.1)
theorem qqI(ok:Ok (KF w.params) glob q7 D (n+1)){X Y:Addr}{xs ys:List Str}(hXY:X≠Y)(hX:H X=some (lst (xs.map S)))(hY:H Y=some (lst (ys.map S)))(lx:xs.length<=1000)(ly:ys.length<=1000)
 (h:∀ T ms Hs,Hs T=some (tup [.ref ms,.ref Y])->Hs ms=some (lst ((qaK xs.reverse [] ys).1.map S))->Hs Y=some (lst ((qaK xs.reverse [] ys).2.map S))->(∀ a d,a≠X->a≠Y->H a=some d->Hs a=some d)->Φ (.ref T) M Hs):
 ∀ vs,vs.map norm=[.ref X,.ref Y]->WV (model prog w) D (call (.ref 95) vs) M H Φ E:=by
 refine qba ok (by rfl) (by rfl) ["expected", "actual"] [("expected",.local),("actual",.local),("missing",.local),("item",.local),("ValueError",.globalImplicit)] ?hb (by rfl) (by rfl) (by decide) (by decide) (by rfl) ?_
 case hb=>intro vs h;(refine oEE (ex2 h) fun a b e2'=>?_;obtain rfl:=e2');rfl
 intro D' env ok' ke hlo hf
 have big:(1000000:Nat)<=sizeLine:=by decide
 have fm:=ok'.fm
 generalize hT:qaK xs.reverse [] ys=tgt at h
 refine qfW ke ?_
 refine qI (qae (qi ⟨qJ rfl,fun ms hms=>?_⟩))
 walk_at "s"
 have nX:X≠ms:=qG hms hX
 have nY:Y≠ms:=qG hms hY
 refine qc4 (UdJ H X Y ms tgt)
  (UdP H X Y ms tgt) (n:=xs.length)
  ⟨xs,ys,[],rfl,lx,ly,by simpa using lx,⟨by walk_at "l",by walk_at "l",by walk_at "l"⟩,⟨fun a d _ _ q=>qx hms q,qx hms hX,qx hms hY,upd_same⟩,hT⟩ ?_ ?_
 ·intro m M2 Hk r3';obtain⟨xr,yr,acc,rfl,l1,l2,l3,jj,k,htg⟩:=r3'
  have jj0:=jj
  obtain⟨j1,j2,j3⟩:=jj0
  refine qao ?_
  walk_at "n"
  refine qfO k.X (by refine substr (length_map ..) ?_;exact qbr l1) ⟨fun hb=>?_,fun hb=>?_⟩
  ·rcases List.eq_nil_or_concat xr with h0 | ⟨xq,x,h0⟩
   ·rw[h0] at hb;cases hb
   rw[List.concat_eq_append] at h0
   subst h0
   rw[List.reverse_append,List.reverse_singleton,List.singleton_append] at htg
   rw[qk5] at htg
   simp only[length_append,List.length_singleton] at l1 l3 ⊢
   have kX:=k.X
   rw[map_append,List.map_singleton] at kX
   refine qI (qa2 F.slot_list_pop F.type_list_pop ?_)
   walk_at "n"
   refine⟨X,_,rfl,kX,qdt qu (qxp kX (by refine substr (length_map ..) ?_;exact qrK big l1) ?_ _ rfl)⟩
   walk_at "s"
   have jP:UJ X Y ms (put "item" (S x) M2):=⟨by walk_at "l",by walk_at "l",by walk_at "l"⟩
   have iP:look "item" (put "item" (S x) M2)=some (S x):=by walk_at "l"
   generalize put "item" (S x) M2=M3 at jP iP
   have kP:UK H (upd Hk X (lst (xq.map S))) X Y ms xq yr acc:=⟨fun a d q1 q2 q=>(qe q1).trans (k.keep a d q1 q2 q),upd_same,(qe (Ne.symm hXY)).trans k.Y,(qe (Ne.symm nX)).trans k.ms⟩
   generalize upd Hk X (lst (xq.map S))=H3 at kP
   refine qk4 (X := "ValueError") (C:=fun _=>True) (Ψ:=fun M4 H4=>M4=M3/\H4=H3/\x ∉ yr) fm ke hf ok'.glob (by rfl) (by rfl) qpa qpb qpc ?_ ?_
   ·obtain⟨j1,j2,j3⟩:=jP
    refine qaq (qa2 F.slot_list_remove F.type_list_remove ?_) ke
    walk_at "n"
    refine⟨Y,_,rfl,kP.Y,qp qu (qd ?_)⟩
    walk_at "n"
    refine qi (ql8 ok'.hand kP.Y l2 (fun hx=>⟨rfl,?_⟩) (fun hx=>(iAA rfl rfl hx)) fun y s' r=>.inl r)
    rw[if_pos hx] at htg
    refine qy (qy ⟨xq.length,by exact qhq,xq,yr.erase x,acc,rfl,by exact qmR l1,Nat.le_trans (List.erase_sublist.length_le) l2,by exact qrL l3,⟨j1,j2,j3⟩,⟨fun a d q1 q2 q=>(qe q2).trans (kP.keep a d q1 q2 q),(qe hXY).trans kP.X,upd_same,(qe (Ne.symm nY)).trans kP.ms⟩,htg⟩)
   ·intro e1 M4 Hs r3';(refine oAA r3' fun e0' e1' hx=>?_;obtain rfl:=e0';obtain rfl:=e1')
    have hlo':env.locals=(D'.mk' e1).L:=hlo
    have jP0:=jP
    obtain⟨j1,j2,j3⟩:=jP0
    rw[if_neg hx] at htg
    refine qaq (qa2 F.slot_list_append F.type_list_append ?_) ke
    walk_at "n"
    refine⟨ms,acc.map S,rfl,kP.ms,qp qu (qd ?_)⟩
    walk_at "n"
    refine qi (qbB kP.ms (by refine substr (length_map ..) ?_;exact qrM big l3) ⟨rfl,qy (qy ⟨xq.length,by exact qhq,xq,yr,acc++[x],rfl,by exact qmR l1,l2,by simp;exact qrN l3,jP,?_,htg⟩)⟩)
    refine⟨fun a d q1 q2 q=>?_,(qe nX).trans kP.X,(qe nY).trans kP.Y,by refine substr upd_same (substr map_append ?_);rfl⟩
    refine(qe fun e=>?_).trans (kP.keep a d q1 q2 q)
    rw[e,hms] at q;exact o_ns q
  ·have h0:xr=[]:=by cases xr with | nil=>rfl | cons a r=>simp at hb
   subst h0
   refine substr htg.symm ?_
   exact⟨jj,k⟩
 ·rintro M2 Hk ⟨⟨j1,j2,j3⟩,k⟩
  refine qaw (qaa (qd ?_))
  walk_at "n"
  refine qd ?_
  walk_at "n"
  refine qi ⟨qJ rfl,fun T hT0=>(iEA _ Sub.refl ?_)⟩
  exact h T ms _ upd_same ((qe (qG hT0 k.ms)).trans k.ms) ((qe (qG hT0 k.Y)).trans k.Y) fun a d q1 q2 q=>qx hT0 (k.keep a d q1 q2 q)
theorem qev:∀ {vs:List Value} {ss:List Str},StrsAre vs ss->vs.map norm=ss.map S
 | _,_,.nil=>rfl
 | _,_,.cons x t h=>by refine substr map_cons (substr map_cons (substr (qev h) ?_));rfl
theorem qew{l:Addr}{ys:List Str}(hl:H l=some (lst (ys.map S)))(hz:ys.length<64)(h:∀ r zs,H r=none->zs.Perm ys->sortedS zs=true->Φ (.ref r) M (upd H r (lst (zs.map S)))):
 ∀ vs,vs.map norm=[.ref l]->WV (model prog w) D (call (.builtin "sorted") ([]++vs)) M H Φ E:=by
 intro vs hvs s hs
 (refine oEA (nm1 hvs) fun v e1' hv=>?_;obtain rfl:=e1')
 refine substr (qz hv) ?_
 refine oEA (hs.list hl) fun us hL hm=>?_
 have hlen:us.length=ys.length:=by refine substr (length_map (f:=norm)).symm (substr hm (substr (length_map ..) rfl))
 refine sorted_strs hL (qcm hm) (qyZ hz hlen) fun out zs h1 h2 h3=>?_
 obtain⟨e,he⟩:=sortedAll_at s.heap us out
 have gone:∀ b,s.heap.objs.size<=b->H b=none/\D.h₀.get? b=none/\b≠D.L:=fun b hb=>(iAA (by
  cases hd:H b with
  | none=>rfl
  | some d=>obtain⟨o,ho⟩:=(hs.own _ _ hd).2.2.some;exact absurd (Heap.lt_size ho) (Nat.not_lt.mpr hb)) (hs.newNone (Heap.get?_none_of_le hb)) (Nat.ne_of_gt (Nat.lt_of_lt_of_le hs.ltL hb)))
 have g:=gone (s.heap.objs.size+1) (Nat.le_succ _)
 refine⟨M,_,(hs.grow (s':={ s with heap:=sortedAll s.heap us out }) fun _ _=>sortedAll_old).add (d:=lst (zs.map S)) g.2.2 g.2.1 ⟨_,_,he,qev h1⟩,h _ zs g.1 h2 h3⟩
theorem dropWhile_len{α:Type}(p:α->Bool)(l:List α):(l.dropWhile p).length<=l.length:=(List.dropWhile_sublist p).length_le
theorem qdX:∀(k:Nat) (xs ys:List Str),(qaA k xs ys).1.length<=xs.length/\(qaA k xs ys).2.length<=ys.length
 | 0,xs,ys=>⟨Nat.le_refl _,Nat.le_refl _⟩
 | k+1,[],ys=>⟨Nat.le_refl _,Nat.le_refl _⟩
 | k+1,e::xs,[]=>⟨Nat.le_refl _,Nat.le_refl _⟩
 | k+1,e::xs,a::ys=>by
  refine substr qcr ?_
  have h1:=qdX k (xs.dropWhile (·==e)) (a::ys)
  have h2:=qdX k (e::xs) (ys.dropWhile (·==a))
  have h3:=qdX k (xs.dropWhile (·==e)) (ys.dropWhile (·==a))
  have d1:=dropWhile_len (·==e) xs
  have d2:=dropWhile_len (·==a) ys
  split
  ·simp only[length_cons] at h1 ⊢;exact qrO h1.1 h1.2 d1
  ·split
   ·simp only[length_cons] at h2 ⊢;exact qrP h2.1 h2.2 d2
   ·simp only[length_cons];exact qrQ h3.1 h3.2 d1 d2
noncomputable def sld(xs ys:List Str):List Str×List Str:=qaA (xs.length+ys.length) xs ys
theorem qgU(ok:Ok (KF w.params) glob q7 D (n+2)){X Y:Addr}{xs ys:List Str}(hX:H X=some (lst (xs.map S)))(hY:H Y=some (lst (ys.map S)))(lx:xs.length<=30)(ly:ys.length<=30)
 (h:∀ r zs Hs,Sub H Hs->H r=none->Hs r=some (lst (zs.map S))->zs.Perm ((sld xs ys).1++(sld xs ys).2)->sortedS zs=true->Φ (.ref r) M Hs):
 ∀ vs,vs.map norm=[.ref X,.ref Y]->WV (model prog w) D (call (.ref 264) vs) M H Φ E:=by
 refine qba ok (by rfl) (by rfl) ["first", "second"] [("first",.local),("second",.local),("gone",.local),("fresh",.local),("sorted_list_difference",.globalImplicit),("sorted",.globalImplicit)] ?hb (by rfl) (by rfl) (by decide) (by decide) (by rfl) ?_
 case hb=>intro vs h;(refine oEE (ex2 h) fun a b e2'=>?_;obtain rfl:=e2');rfl
 intro D' env ok' ke hlo hf
 have big:(1000000:Nat)<=sizeLine:=by decide
 have hl:=qdX (xs.length+ys.length) xs ys
 refine qjN ok'.hand (qF ?_)
 walk_at "n"
 refine qad (qp (qan ok' (by rfl)) (qd ?_))
 walk_at "n"
 refine qd ?_
 walk_at "n"
 refine qi (qh2 ok' hX hY (qmS lx) (qmS ly) fun T ms us Hs hsub hT hms hus h1 h2 h3=>⟨T,_,rfl,h1,?_⟩)
 refine qj ?_;walk_at "s"
 refine qj ?_;walk_at "s"
 refine qN ?_
 refine qaw (qF ?_)
 walk_at "n"
 refine qY (qp qu (qd (qK ?_)))
 walk_at "n"
 walk_at "n"
 refine qc2 h2 h3 (by simp;exact qrR lx ly big hl.1 hl.2) fun r hr=>qi ?_
 refine substr map_append.symm ?_
 refine qew (ys:=(sld xs ys).1++(sld xs ys).2) upd_same (by unfold sld;simp;exact qrS lx ly hl.1 hl.2) fun q zs hq hp hs=>(iEA _ Sub.refl ?_)
 have hq0:Hs q=none:=by
  cases e:Hs q with
  | none=>rfl
  | some d=>have:=qx (e:=d) (d:=lst (((qaA (xs.length+ys.length) xs ys).1++(qaA (xs.length+ys.length) xs ys).2).map S)) hr e;rw[hq] at this;exact o_ns this
 exact h q zs _ ((hsub.trans (Sub.upd hr)).trans (Sub.upd hq)) (hsub.none hq0) upd_same hp hs
section
open PySem.Calls Builtin
set_option linter.unusedSimpArgs false
noncomputable abbrev KF0(w:World):=KF w.params
theorem mc_cls:findCls (KF0 w) (.ref 166) (.type "type") "__new__"=some (.get (.builtin "staticmethod.__get__") (.ref 167) .none (.ref 166)):=by rfl
theorem qqJ:recIn (KF0 w) 167 "staticmethod"=some [.ref 113]:=by rfl
theorem ql9:readsIn (KF0 w) 166 (.type "type")=true:=by rfl
theorem qpd:specialIn (KF0 w) (.ref 166) "__call__"=some (some (.builtin "type.__call__")):=by rfl
theorem qpe:instIn (KF0 w) (.ref 166) (.type "type")=some true:=by rfl
theorem qgy:findIn (KF0 w) (.ref 166) "__init__"=some (some (.builtin "object.__init__")):=by rfl
theorem qpf:mroIn (KF0 w) 166 (.ref 166)=some true:=by rfl
theorem qk6:mroIn (KF0 w) 166 (.type "tuple")=some true:=by rfl
theorem qqK:mroIn (KF0 w) 166 (.type "object")=some true:=by rfl
section
variable{M:Model}{h:Heap}
noncomputable def mcd(w:World):ClassData:=(clsIn (KF0 w) 166).getD default
theorem qos:clsIn (KF0 w) 166=some (mcd w):=by rfl
theorem qqL:(mcd w).mro=[.ref 166,.type "tuple",.type "object"]:=by rfl
theorem qma:(mcd w).bases=[.type "tuple"]:=by rfl
theorem qqM:(mcd w).hasDel=false:=by rfl
theorem qeS:∃ o sl,(KF0 w).lookup 166=some ⟨o,none,.cls (mcd w),sl⟩/\sl[4]?=some (some .none):=(qjC _ _ rfl rfl)
theorem qfZ(X:(KF0 w).In h):Looks M h (mroOf (.ref 166)) [.ref 166,.type "tuple",.type "object"]:=(looks_clsIn X qos).andThen (by rw[qqL];exact .now)
theorem qgz(X:(KF0 w).In h):Looks M h (Bind.madeBy (.ref 166)) none:=by
 refine qbu (qeS (w:=w)) fun o sl ho h4=>?_
 intro A Q E s k q
 unfold Bind.madeBy
 refine wpAny_bind (qfZ X A _ E s k ?_)
 rw[List.forIn_cons]
 refine wpAny_bind (wpAny_bind (wpAny_bind (wpAny_bind (wpAny_loadPart (k _ _ (X _ _ ho)) (wpAny_pure ?_)))))
 dsimp only
 rw[h4]
 exact wpAny_pure (wpAny_pure (wpAny_pure q))
theorem qj3:Slots.bestBase [.type "tuple"]=pure (.type "tuple"):=by rfl
theorem qiP(X:(KF0 w).In h):Looks M h (Bind.staticBase (.ref 166)) (.type "tuple"):=by
 intro A Q E s k q
 unfold Bind.staticBase
 refine wpAny_bind (qfZ X A _ E s k ?_)
 rw[List.forIn_cons]
 refine wpAny_bind (wpAny_bind (wpAny_bind (qgz X A _ E s k ?_)))
 refine wpAny_bind (looks_clsIn X qos A _ E s k ?_)
 rw[qma,qj3]
 refine wpAny_bind (wpAny_pure (wpAny_pure ?_))
 dsimp only
 rw[List.forIn_cons]
 refine wpAny_bind (wpAny_bind ?_)
 dsimp only
 rw[F.called_tuple.made]
 exact wpAny_pure (wpAny_pure (wpAny_pure (wpAny_pure q)))
theorem qmb:splitId "tuple.__new__"=some ("tuple", "__new__"):=by decide +kernel
theorem qpg:builtinKind "tuple.__new__"=some .builtinFn:=by decide +kernel
theorem qh4:plainId "tuple.__new__"=true:=by decide +kernel
noncomputable def sgT:Manifest.Signature:={ machinery:=.constructor,full := "tuple",short := "tuple",receiver:=.cls,params:=[{ name := "iterable",kind:=.posOnly,required:=false }] }
theorem qqN:Manifest.signature? "tuple.__new__"=some sgT:=by kernel_rfl
theorem qph(T:Addr):Bind.checkArgs "tuple.__new__" sgT ⟨[.ref 166,.ref T],[]⟩=pure ():=by kernel_rfl
theorem qpi(X:(KF0 w).In h):Looks M h (Bind.madeHere "tuple.__new__" (.ref 166)) ():=by
 unfold Bind.madeHere
 refine(qiP X).andThen ?_
 rw[F.called_tuple.made]
 exact Looks.of_pure (by rfl)
theorem qk7(X:(KF0 w).In h):Looks M h (isType (.ref 166)) true:=by
 refine qbu (qeS (w:=w)) fun o sl ho h4=>?_
 exact(Looks.ld (X _ _ ho)).andThen .now
theorem qqO{A:Around}{R:Result->Shared->Prop}{g:Array GenState}{d:Drawn}{t:Nat}{os:OsState}{T:Addr}{a b c:Value}{n:Nat}(X:(KF0 w).In h)(hT:h.get? T=some { cls:=.type "tuple",data:=.seq #[a,b,c] n })
 (hq:∀ h':Heap,(∀ b o',h.get? b=some o'->h'.get? b=some o')->R (.ok (.ret (.ref (h'.objs.size+1)))) ⟨(h'.push emptyDict).push { cls:=.ref 166,dict:=some h'.objs.size,data:=.seq #[a,b,c] },g,d,t,os⟩):
 codeAny (model prog w) A (.call (.builtin "tuple.__new__") ⟨[.ref 166,.ref T],[]⟩) R ⟨h,g,d,t,os⟩:=by
 have L1:=qk7 (M:=model prog w) X
 have L2:=looks_mroIn (M:=model prog w) X (qk6 (w:=w))
 have L3:=qiP (M:=model prog w) X
 have L4:=qpi (M:=model prog w) X
 have L5:=looks_findIn (M:=model prog w) X (qgy (w:=w))
 have L6:=qfZ (M:=model prog w) X
 refine qbu (qeS (w:=w)) fun o1 sl ho h4=>?_
 have hC:=X _ _ ho
 refine codeAny_call_builtin_code (plainId_quiet qh4 _) ?_
 simp only[checkBuiltinCall,qpg,qmb,qqN]
 rw[qph]
 repeat (first | rw[F.called_tuple.made] | simp only[bne_self_eq_false,Bool.false_eq_true,if_false] | lk)
 refine codeAny_builtin F.entry_tuple_new ?_
 rw[Around.under_plainId qh4 _]
 unfold Builtin.«tuple.__new__»
 have L7:Looks (model prog w) h (Bind.madeHere "tuple.__new__" (.ref 166)) ():=L4
 have hsz:(#[a,b,c]:Array Value).size<=sizeLine:=by show 3<=sizeLine;decide
 iterate 12 (first | (with_reducible refine wpAny_collect_seq (hsz:=hsz) T (.inr rfl) hT rfl rfl ?_) | simp only[Bool.not_true,bne_self_eq_false,Bool.false_eq_true,if_false] | lk)
 refine wpAny_bind (m:=noKeywords _ _) (wpAny_pure (wpAny_bind (m:=checkCount _ _ _ _) (wpAny_pure ?_)))
 rw[if_neg (by simp)]
 refine wpAny_bind (wpAny_collect_seq (hsz:=hsz) T (.inr rfl) hT rfl rfl fun h' hk=>?_)
 have hC':=hk _ _ hC
 refine wpAny_bind (wpAny_pure (wpAny_bind (wpAny_alloc (wpAny_bind ?_))))
 show wpAny _ _ (newObjAsIs _ _ _) _ _ _
 unfold newObjAsIs classHasDel
 refine wpAny_bind (wpAny_alloc (wpAny_bind (wpAny_bind (wpAny_load (Heap.get?_push_of_some _ (Heap.get?_push_of_some _ hC')) (wpAny_pure ?_)))))
 rw[qqM]
 refine wpAny_pure (wpAny_pure ?_)
 show R _ _
 rw[Heap.size_push]
 exact hq h' hk
end
end
noncomputable def Mis(H:AH)(r:Addr)(a b:Int)(x:Str):Prop:=∃ dx t1 t2 t3,H r=some (.raw { cls:=.ref 166,dict:=some dx,data:=.seq #[.int a t1,.int b t2,.str x t3] })
theorem qmc(ok:Ok (KF w.params) glob q7 D n){T:Addr}{a b:Int}{x:Str}(hT:H T=some (tup [I a,I b,S x]))
 (h:∀ r Hs,Sub H Hs->H r=none->Mis Hs r a b x->Φ (.ref r) M Hs):
 ∀ vs,vs.map norm=[.ref 166,.ref T]->WV (model prog w) D (call (.builtin "tuple.__new__") ([]++vs)) M H Φ E:=by
 intro vs hvs s hs
 (refine qR (nm2 hvs) fun v u e2' hv hu=>?_;obtain rfl:=e2')
 refine substr (qz hv) (substr (qz hu) ?_)
 refine qR hs.fr fun g m T0 F R=>?_
 have X:(KF w.params).In s.heap:=(ok.X T0).keeps F.keep
 refine qau (hs.own _ _ hT) fun _ _ us k e hm=>?_
 refine qaC (qeg hm) fun v1 v2 v3 hvs3 h1 h2 h3=>?_
 obtain⟨t1,rfl⟩:=qD h1
 obtain⟨t2,rfl⟩:=qD h2
 obtain⟨t3,rfl⟩:=qH h3
 have hu3:us=#[.int a t1,.int b t2,.str x t3]:=by refine substr hvs3.symm rfl
 subst hu3
 refine wpAny_call ?_
 obtain⟨hh,gg,dd,tt,oo⟩:=s
 refine qqO X e fun h' hk=>?_
 have hs1:At D ⟨h',gg,dd,tt,oo⟩ M H:=hs.grow hk
 have hs2:=hs1.alloc (o:=emptyDict) (d:=.raw emptyDict) rfl fun _ e=>e
 have hs3:=hs2.alloc (o:={ cls:=.ref 166,dict:=some h'.objs.size,data:=.seq #[.int a t1,.int b t2,.str x t3] }) (d:=.raw { cls:=.ref 166,dict:=some h'.objs.size,data:=.seq #[.int a t1,.int b t2,.str x t3] }) rfl fun _ e=>e
 have f1:=hs1.fresh
 have f2:=hs2.fresh
 refine⟨M,_,hs3,?_⟩
 have e1:(h'.push emptyDict).objs.size=h'.objs.size+1:=by refine substr (Heap.size_push ..) rfl
 show Φ (.ref (h'.objs.size+1)) M _
 refine substr e1.symm ?_
 exact h _ _ ((Sub.upd f1).trans (Sub.upd f2)) ((Sub.upd f1).none f2) ⟨_,t1,t2,t3,upd_same⟩
theorem qpj{o:Expr}{name:Str}{T id:String}{e:Expr}{rest:List Expr}{apos pos:Pos}{pl:Sem Bool}(ok:Ok (KF w.params) glob q7 D n)
 (ht:typeOf (.type T)=pure (.type "type")) (hst:Manifest.isStub T=false) (hf:findCls (KF w.params) (.type T) (.type "type") name=some (.val (.builtin id))) (hh:handedIn (.builtin id)=true)
 (h:WV (model prog w) D (eval o env) M H (fun p M1 H1=>p=.type T/\WSp (model prog w) D pos (e::rest) env M1 H1 (fun ps M2 H2=>∀ vs,vs.map norm=ps->WV (model prog w) D (call (.builtin id) ([]++vs)) M2 H2 Φ E) E) E)
 (hev:eval (.Call (.Attribute o name apos) (e::rest) [] pos) env=(do
  let ov <- eval o env
  standAt apos.atName
  let (f,first) <- holding [ov] (getMethod ov name pl)
  callWith pos f first (backTo pos (starEach (e::rest) env)) (backToKw pos (keywordEach [] env))):=by rfl)
 (he:starEach (e::rest) env=(false,eval e env)::starEach rest env:=by rfl) (hplain:(backTo pos (starEach rest env)).any (·.1)=false:=by rfl):
 WV (model prog w) D (eval (.Call (.Attribute o name apos) (e::rest) [] pos) env) M H Φ E:=by
 intro s hs
 refine methodCall_KW (wpAny_mono (h s hs) (fun v s1 q'=>Post.el q' fun M1 H1 hs1 z'=>oA z' fun hp k=>?_) fun _ _ x=>x) hev
 refine substr (qdc hp) ?_
 refine qR hs1.fr fun g m T0 F R=>?_
 refine method_type F (ok.X T0) ht hst hf hh ?_
 exact qp (first:=[]) qu k he hplain { s1 with toks:=s1.toks+1 } (hs1.toks _)
theorem ty_tuple:typeOf (.type "tuple")=pure (.type "type"):=by rfl
theorem qmd:Manifest.isStub "tuple"=false:=by decide +kernel
theorem qme:findCls (KF w.params) (.type "tuple") (.type "type") "__new__"=some (.val (.builtin "tuple.__new__")):=by rfl
theorem qpk(ok:Ok (KF w.params) glob q7 D (n+1)){a b:Int}{x:Str}(h:∀ r Hs,Sub H Hs->H r=none->Mis Hs r a b x->Φ (.ref r) M Hs):
 ∀ vs,vs.map norm=[.ref 166,I a,I b,S x]->WV (model prog w) D (call (.ref 113) vs) M H Φ E:=by
 refine qba ok (by rfl) (by rfl) ["_cls", "actual", "expected", "value"] [("_cls",.local),("actual",.local),("expected",.local),("value",.local),("tuple",.globalImplicit)] ?hb (by rfl) (by rfl) (by decide) (by decide) (by rfl) ?_
 case hb=>intro vs h;(refine qch (ex4 h) fun a b c d e4'=>?_;obtain rfl:=e4');rfl
 intro D' env ok' ke hlo hf
 refine qfW ke (qaw (qpj ok' ty_tuple qmd qme (by rfl) ?_))
 walk_at "n"
 refine⟨rfl,qd ?_⟩
 walk_at "n"
 refine qd (qaa (qd ?_))
 walk_at "n"
 refine qd ?_
 walk_at "n"
 refine qd ?_
 walk_at "n"
 refine qi ⟨qJ rfl,fun T hT=>qi (qmc ok' upd_same fun r Hs hS hr hm=>(iEA Hs Sub.refl ?_))⟩
 exact h r Hs ((Sub.upd hT).trans hS) ((Sub.upd hT).none hr) hm
section
open PySem.Calls Builtin
noncomputable def Dyn.wA(D:Dyn)(A:Around):Dyn:={ D with A:=A }
theorem Dyn.wA_fs{D:Dyn}{A:Around}(h:A.frames=D.A.frames):(D.wA A).fs=D.fs:=by unfold Dyn.fs Dyn.wA;refine substr h rfl
theorem At.wA{D:Dyn}{A:Around}{s:Shared}{M:Loc}{H:AH}(h:A.frames=D.A.frames)(a:At D s M H):At (D.wA A) s M H:=by
 obtain⟨⟨g,m,T,F,R⟩,o,p,q,r⟩:=a
 exact⟨(qbJ g m (by unfold Turn;refine substr (Dyn.wA_fs h) ?_;exact T) F R),o,p,q,r⟩
theorem At.of_wA{D:Dyn}{A:Around}{s:Shared}{M:Loc}{H:AH}(h:A.frames=D.A.frames)(a:At (D.wA A) s M H):At D s M H:=by
 obtain⟨⟨g,m,T,F,R⟩,o,p,q,r⟩:=a
 exact⟨(qbJ g m (by unfold Turn at T;rw[Dyn.wA_fs h] at T;exact T) F R),o,p,q,r⟩
theorem Ok.wA{K:Frag}{gl bl:List (String×Value)}{D:Dyn}{A:Around}(ok:Ok K gl bl D (n+1))(h:A.frames=D.A.frames)(hh:A.handled=D.A.handled)(hd:A.depth<=D.A.depth+1)(hu:A.units<=D.A.units+8):Ok K gl bl (D.wA A) n:=by
 refine qge ok.base fun A₀ base outer env B hA r=>?_
 refine⟨(qoG A₀ base outer env B (h.trans hA) r),hh.trans ok.hand,?_,?_⟩
 ·have:=ok.room;show A.depth+n<_;exact qyP hd this
 ·have:=ok.units;show A.units+8*n<_;exact qyQ hu this
theorem qk8(ok:Ok (KF w.params) glob q7 D (n+2)){a b:Int}{x:Str}(h:∀ r Hs,Sub H Hs->H r=none->Mis Hs r a b x->Φ (.ref r) M Hs):
 ∀ vs,vs.map norm=[I a,I b,S x]->WV (model prog w) D (call (.ref 166) vs) M H Φ E:=by
 intro vs hvs
 obtain⟨v1,v2,v3,rfl,-⟩:=qeg hvs
 intro s hs
 refine qR hs.fr fun g m T0 F R=>?_
 have X:(KF w.params).In s.heap:=(ok.X T0).keeps F.keep
 obtain⟨hh,gg,dd,tt,oo⟩:=s
 have L1:=looks_specialIn (M:=model prog w) X (qpd (w:=w))
 have L2:=looks_instIn (M:=model prog w) X (qpe (w:=w))
 have L3:=qfZ (M:=model prog w) X
 have L4:=qgz (M:=model prog w) X
 refine qbu (qeS (w:=w)) fun o1 sl ho h4=>?_
 have hC:=X _ _ ho
 refine wpAny_call (codeAny_of_tree ?_)
 show wpAny _ _ (callAny (.ref 166) _) _ _ _
 refine nd_load hC ?_
 show wpAny _ _ (callAny.viaDunder (.ref 166) _) _ _ _
 unfold callAny.viaDunder
 refine wpAny_bind (L1.at ?_)
 dsimp only
 refine substr (tc_bind ..) ?_
 refine wpAny_bind (wpAny_pure (wpAny_bind (wpAny_pure ?_)))
 refine wpAny_pure (a:=Fin.again (.call (.builtin "type.__call__") ⟨.ref 166::[v1,v2,v3],[]⟩)) (And.intro rfl ?_)
 refine codeAny_call_builtin_at (Code.quiet_builtin _ (by decide +kernel)) entry_typeCall (check_slot tc_kind tc_split L2 (tc_args _ _ _) ?_)
 unfold Builtin.«type.__call__»
 iterate 8 (first | simp only[if_false] | lk)
 refine wpAny_bind (cls_bind X ql9 mc_cls (wpAny_call (sm_get (s:={ heap:=hh,gens:=gg,drawn:=dd,toks:=tt+1,os:=oo }) X qqJ (handed_on rfl ?_))))
 have e1:(D.A.under (Code.builtin "type.__call__" { pos:=Value.ref 166::[v1,v2,v3] })).frames=D.A.frames:=by
  unfold Around.under
  dsimp only
  refine substr (show(Code.builtin "type.__call__" { pos:=Value.ref 166::[v1,v2,v3] }).envs=[] from rfl) ?_
  cases D.A.frames<;>rfl
 have ok':=ok.wA (A:=D.A.under (Code.builtin "type.__call__" { pos:=Value.ref 166::[v1,v2,v3] })) e1 rfl (Nat.le_refl _) (Nat.le_trans (Nat.add_le_add_left (show(Code.builtin "type.__call__" { pos:=Value.ref 166::[v1,v2,v3] }).cUnits<=8 from Nat.le_of_ble_eq_true rfl) _) (Nat.le_refl _))
 have hnew:=qpk (prog:=prog) (D:=D.wA (D.A.under (Code.builtin "type.__call__" { pos:=Value.ref 166::[v1,v2,v3] }))) (M:=M) (H:=H) (E:=fun e s'=>E e s') ok' (a:=a) (b:=b) (x:=x)
  (Φ:=fun v M' H'=>M'=M/\∃ r,v=.ref r/\Sub H H'/\H r=none/\Mis H' r a b x) (fun r Hs h1 h2 h3=>(qp1 rfl r rfl h1 h2 h3)) (.ref 166::[v1,v2,v3]) (by refine substr map_cons (substr hvs ?_);rfl) _ ((hs.toks (tt+1)).wA e1)
 refine wpAny_bind (wpAny_holding (wpAny_mono hnew (fun v s1 q'=>Post.el q' fun M1 H1 hs1 z'=>qp8 z' fun hM r hv hS hr hmis=>?_) fun _ _ z=>z))
 have hs0:=hM▸hs1
 refine substr (qz hv) ?_
 have hs1:=hs0.of_wA e1
 refine qR hs1.fr fun g1 m1 T1 F1 R1=>?_
 have X1:(KF w.params).In s1.heap:=(ok.X T1).keeps F1.keep
 have hmis':=hmis
 refine qch hmis' fun dx t1 t2 t3 hr1=>?_
 have hg:s1.heap.get? r=some { cls:=.ref 166,dict:=some dx,data:=.seq #[.int a t1,.int b t2,.str x t3] }:=(hs1.own _ _ hr1).2.2
 obtain⟨h1,gg1,dd1,tt1,oo1⟩:=s1
 have K1:Looks (model prog w) h1 (typeOf (.ref r)) (.ref 166):=(Looks.ld hg).andThen .now
 have K2:Looks (model prog w) h1 (isSubtype (.ref 166) (.ref 166)) true:=looks_mroIn X1 qpf
 have K3:Looks (model prog w) h1 (isSubtype (.ref 166) (.type "object")) true:=looks_mroIn X1 qqK
 have K4:Looks (model prog w) h1 (isInstance (.ref r) (.ref 166)) true:=K1.andThen K2
 have K5:Looks (model prog w) h1 (isInstance (.ref r) (.type "object")) true:=K1.andThen K3
 have K6:Looks (model prog w) h1 (specialOf (.ref r) "__init__") (some (.builtin "object.__init__")):=K1.andThen (looks_findIn X1 qgy)
 have K7:=looks_findIn (M:=model prog w) X1 (qgy (w:=w))
 have K8:=qgz (M:=model prog w) X1
 refine wpAny_bind (K4.at ?_)
 refine substr (if_neg (by decide)) ?_
 refine wpAny_bind (wpAny_holding ?_)
 unfold callSpecial?
 refine wpAny_bind (K6.at ?_)
 dsimp only
 refine wpAny_holding ?_
 refine substr (oi_bind ..) ?_
 refine wpAny_bind (wpAny_pure (wpAny_bind (wpAny_call (codeAny_call_builtin oi_plain entry_oi (@check_slot (model prog w) _ _ _ "object.__init__" "object" "__init__" (.ref r) [v1,v2,v3] [] _ oi_kind oi_split K5 ?_ ?_)))))
 ·unfold argsOk;kernel_rfl
 unfold Builtin.«object.__init__»
 have ne1:(some (Value.builtin "object.__init__") != some (Value.builtin "object.__init__"))=false:=by simp
 have ne2:((none:Option String) != some "object.__new__")=true:=by rfl
 dsimp only[List.cons_append,List.nil_append]
 iterate 14 (first | simp only[ne1,ne2,Bool.false_eq_true,if_false,Bool.or_true,Bool.not_true] | lk)
 refine wpAny_pure (a:=some Value.none) ?_
 dsimp only
 refine substr (if_neg (by simp)) ?_
 refine wpAny_pure ?_
 exact⟨_,H1,hs0.of_wA e1,h r H1 hS hr hmis⟩
theorem qh5(ok:Ok (KF w.params) glob q7 D n):qeh (model prog w) D (.ref 166):=fun s M H hs=>by
 refine qR hs.fr fun g m T0 F R=>?_
 refine oEA (looks_keep (M:=model prog w) (f:=.ref 166) (K:=KF w.params) (by rfl) ((ok.X T0).keeps F.keep)) fun k hk L=>?_
 exact iEA k (hk.elim .inl fun h=>.inr (.inl h)) L
end
section
variable{ks:List (String×NameKind)}
theorem qf0{Mo:Model}{rest:List Stmt}{pos:Pos}{Φ:Flow->Loc->AH->Prop}(h:Φ .cont M H):WS Mo D (execs (.Continue pos::rest) env) M H Φ E:=by
 refine qam ?_
 show WX Mo D (do standAt pos;pure Flow.cont) M H _ E
 exact qaO (qef (qck h))
theorem qiu{A:Around}{s:Shared}{l:Addr}{items:Array Value}{n:Nat}{k:Int}{t:Tok}{v:Value}{Q:Unit->Shared->Prop}(ho:s.heap.get? l=some { cls:=.type "list",data:=.seq items n }) (h0:0<=k) (hj:k<items.size) (hf:k<2^63)
 (h:Q () { s with heap:=s.heap.update l (Obj.mapSeq (·.setIfInBounds k.toNat v)) }):wpAny (model prog w) A (setItem (.ref l) (.int k t) v) Q E s:=by
 have hl:s.heap.IsList l items:=⟨_,ho,rfl,n,rfl⟩
 unfold setItem
 try with_reducible refine wpAny_holding ?_
 first | refine wpAny_bind (wpAny_pure ?_) | skip
 refine wpAny_bind (wpAny_sequenceKey hl.typeIs (by decide) ?_)
 refine wpAny_bind (wpAny_callSpecial?_slot (name:=Str.ofString "__setitem__") hl.typeIs slot_list_setitem
  (wpAny_call_entry slot_list_setitem hl.typeIs entry_list_setitem ?_ (args_list_setitem _ _ _)))
 show wpAny _ _ (Builtin.List.listSubscript? (.int k t) >>= _) _ _ s
 refine wpAny_bind (wpAny_listSubscript_int (fitsIndex_of h0 hf) ?_)
 clear hf
 obtain⟨j,rfl⟩:=Int.eq_ofNat_of_zero_le h0
 have hj':j<items.size:=qlD hj
 have hx':items[j]?=some items[j]:=Array.getElem?_eq_getElem hj'
 show wpAny _ _ ((seqItemAt l j >>= fun r=>pure (r.map (j,·))) >>= _) _ _ s
 refine wpAny_bind (wpAny_bind (wpAny_seqItemAt ho rfl (wpAny_pure ?_)))
 refine substr hx' ?_
 show wpAny _ _ (setSeqItemAt l j v >>= _) _ _ s
 refine wpAny_bind (wpAny_setSeqItemAt ho rfl ?_)
 first
  | exact wpAny_bind (wpAny_pure (wpAny_pure (iEA .none rfl (wpAny_pure h))))
  | exact wpAny_pure ⟨.none,rfl,wpAny_pure h⟩
theorem qh6{o i value:Expr}{pos' pos:Pos}{rest:List Stmt}{Φ:Flow->Loc->AH->Prop}
 (h:WV (model prog w) D (eval value env) M H (fun p M1 H1=>WV (model prog w) D (eval o env) M1 H1 (fun q M2 H2=>WV (model prog w) D (eval i env) M2 H2 (fun r M3 H3=>
  ∃(l:Addr) (xs:List Value) (k:Nat),q=.ref l/\r=I k/\H3 l=some (lst xs)/\k<xs.length/\k<2^62/\WS (model prog w) D (execs rest env) M3 (upd H3 l (lst (xs.set k p))) Φ E) E) E) E)
 (hs:swapsWith value (some (.Subscript o i pos')) pos.line env=pure false:=by rfl):
 WS (model prog w) D (execs (.Assign [.Subscript o i pos'] value pos::rest) env) M H Φ E:=by
 refine qam fun s hs'=>wpAny_Assign_Subscript (wpAny_mono (h s hs') (fun v s1 q'=>Post.el q' fun _ _ hs1 k1=>wpAny_mono (k1 s1 hs1) (fun ov s2 q'=>Post.el q' fun _ _ hs2 k2=>wpAny_mono (k2 s2 hs2) (fun iv s3 q'=>Post.el q' fun M3 H3 hs3 z'=>qkD z' fun l xs k hq hr hl hk hk' k3=>?_) fun _ _ x=>x) fun _ _ x=>x) fun _ _ x=>x) hs
 refine substr (qz hq) ?_
 obtain⟨t,rfl⟩:=qD hr
 refine qau (hs3.own _ _ hl) fun _ _ us n e hm=>?_
 have hlen:us.size=xs.length:=by refine substr hm.symm (substr (length_map ..) (substr Array.length_toList rfl))
 exact qiu e (qdp) (qyR hk hlen) (qyS hk') ⟨M3,_,hs3.seqSet hl e (·.setIfInBounds k v) (by refine substr hm.symm ?_;simp[List.map_set]),k3⟩
noncomputable def nv(NL:Addr):Option Str->Value
 | none=>.ref NL
 | some x=>S x
theorem qj4{NL:Addr}{z:Option Str}{x:Str}{Φ:Value->Loc->AH->Prop}(hN:H NL=some (.plain "object")) (hu:D.A.units<cLine) (h:Φ (.bool (z==some x)) M H):
 ∀ v u,norm v=nv NL z->norm u=S x->WV (model prog w) D (compareOp .Eq v u) M H Φ E:=by
 cases z with
 | none=>exact qoP hN hu (by simpa using h)
 | some y=>exact qb5 (by simpa using h)
noncomputable def rst(P:Addr->Prop)(H:AH):AH:=open Classical in fun a=>if P a then H a else none
theorem qas{P:Addr->Prop}{H:AH}{a:Addr}(h:P a):rst P H a=H a:=by unfold rst;exact if_pos h
theorem qgA{P:Addr->Prop}{H:AH}:Sub (rst P H) H:=fun a d e=>by unfold rst at e;split at e;exact e;exact o_ns e
theorem qgB{P:Addr->Prop}{H:AH}{a:Addr}{d:HO}(e:rst P H a=some d):P a:=by unfold rst at e;split at e;assumption;exact o_ns e
inductive EnY(l:Addr)(k:Nat)(Hc Hk:AH)(v:Value):Prop
 | mk(T:Addr)(p:Value)(hv:v=.ref T)(hT:Hc T=some (tup [I k,p]))(ys:List Value)(hl:Hk l=some (lst ys))(hy:ys[k]?=some p)
theorem qh7(hh:D.A.handled=none){elts:List Expr}{kk:Nat}{tp:Pos}{e f:Expr}{cpos:Pos}{l:Addr}{xs:List Value}{body rest:List Stmt}{pos:Pos}{Φ:Flow->Loc->AH->Prop}(X:Addr->Prop)(J:Nat->Loc->AH->Prop)
 (h:WV (model prog w) D (eval f env) M H (fun q M0 H0=>q=.type "enumerate"/\WV (model prog w) D (eval e env) M0 H0 (fun q M1 H1=>q=.ref l/\M1=M/\H1=H) E) E) (hl:H l=some (lst xs)) {fn:Str} {fp:Pos} (hf:f=.Name fn fp)
 (hX:∀ a,X a->∃ d,H a=some d) (h0:J 0 M H)
 (hJ:∀ k M' Hk,J k M' Hk->∃ ys,Hk l=some (lst ys)/\ys.length=xs.length)
 (step:∀ k M' Hk Hc v,k<xs.length->J k M' Hk->Sub Hk Hc->EnY l k Hc Hk (norm v)->
  WX (model prog w) D (assign (.Tuple elts kk tp) env v) M' Hc (fun _ M3 H3=>WS (model prog w) D (execs body env) M3 H3 (TurnEnd (Seq (model prog w) D rest env Φ E) (TE (Kp X Hc) Hc Hk (J (k+1)))) NoE) NoE)
 (fin:∀ M' Hk,J xs.length M' Hk->WS (model prog w) D (execs rest env) M' Hk Φ E)
 (he:starEach [e] env=[(false,eval e env)]:=by rfl)
 (hs:∀ x,foldedSetIterable (.Call f [e] [] cpos) env x=pure x:=by intro _;rfl):
 WS (model prog w) D (execs (.For (.Tuple elts kk tp) (.Call f [e] [] cpos) body [] pos::rest) env) M H Φ E:=by
 subst hf
 refine qok (qF (qM h fun q M0 H0 h0'=>?_)) hs
 obtain⟨h1,h2⟩:=h0'
 refine substr h1 ?_
 refine v_type (qp qaJ (qd (qM h2 fun q M1 H1 h3=>?_) he) he)
 refine oAA h3 fun h5 h6 h7=>?_
 subst h6 h7
 refine substr h5 ?_
 refine qi (qkJ hl fun en it hen hit hei=>?_)
 have hle:=qG hen hl
 have hli:=qG hit hl
 have I:=qiI (prog:=prog) (w:=w) (e:=en) (n:=xs.length) (l:=l) (it:=it) (elts:=elts) (kk:=kk) (pos:=tp) hh hei hle hli
 have hS:Sub H1 (upd (upd H1 it (qax l 0)) en (qek it 0 .none)):=(Sub.upd hit).trans (Sub.upd ((qe hei).trans hen))
 have g1:(upd (upd H1 it (qax l 0)) en (qek it 0 .none)) it=some (qax l 0):=(qe (Ne.symm hei)).trans upd_same
 refine qdh rfl I (qjA ⟨_,upd_same⟩ g1 xs (hS _ _ hl) rfl) (qkN I (qjA ⟨_,upd_same⟩ g1 xs (hS _ _ hl) rfl) J hS (fun a ha=>?_) h0 ?_ fin)
 ·rcases ha with rfl | rfl
  ·exact hen
  ·exact hit
 ·rintro k M' Hk Hc v hk hJk hS' ⟨T,p,hT,hTc,ys,hys,hyk⟩ _ ⟨⟨old,s1⟩,s2,zs,s3,s4⟩ hp
  refine oEA (hJ _ _ _ hJk) fun ys' q1 q2=>?_
  have q3:=hS' _ _ q1
  have:ys'=ys:=by rw[hys] at q3;injection q3 with q3;injection q3 with _ q3;exact q3.symm
  subst this
  refine qM (step k M' Hk Hc v hk hJk hS' ⟨T,p,hT,hTc,ys',q1,hyk⟩) fun _ M3 H3 h3=>qM h3 fun f M4 H4 h4=>qa9 (fun _ _ _ x=>x) (fun M5 H5 h5=>?_) h4
  obtain⟨kp,Hk',b1,b2,b3⟩:=h5
  refine oEA (hJ _ _ _ b3) fun ws w1 w2=>?_
  refine⟨(qjA ⟨old,kp _ _ (fun hx=>?_) s1⟩ (kp _ _ (fun hx=>?_) s2) ws (b1 _ _ w1) w2),Hk',b1,b2,b3⟩
  ·obtain⟨d,hd⟩:=hX _ hx;rw[hen] at hd;exact o_ns hd
  ·obtain⟨d,hd⟩:=hX _ hx;rw[hit] at hd;exact o_ns hd
end
section
variable{M M2:Loc}{H H2:AH}{ks ks0:List (String×NameKind)}{Yl:Nat->Value->AH->Prop}{St:Nat->AH->Prop}{pr fp fr:Addr->Prop}{it:Value}{acc Lc:Addr}
theorem qxv{Mo:Model}{t:Expr}{body orelse rest:List Stmt}{pos:Pos}{Φ:Flow->Loc->AH->Prop}(P:Loc->AH->Prop)
 (h:WX Mo D (isTrue t env (eval t env)) M H (fun c M1 H1=>(c=true->WS Mo D (execs body env) M1 H1 (qjG P) E)/\(c=false->WS Mo D (execs orelse env) M1 H1 (qjG P) E)) E)
 (hr:∀ M2 H2,P M2 H2->WS Mo D (execs rest env) M2 H2 Φ E):WS Mo D (execs (.If t body orelse pos::rest) env) M H Φ E:=
 qbp (qM h fun c M1 H1 k=>⟨fun hc=>qM (k.1 hc) fun f M2 H2 q=>by obtain⟨hf,hp⟩:=q;refine substr hf ?_;exact hr M2 H2 hp,fun hc=>qM (k.2 hc) fun f M2 H2 q=>by obtain⟨hf,hp⟩:=q;refine substr hf ?_;exact hr M2 H2 hp⟩)
end
noncomputable def wo(x:Str)(l:List Str):List Str:=l.filter (fun z=>!(z==x))
theorem qdK(x:Str)(l:List Str):(wo x l).length<=l.length:=List.length_filter_le _ _
noncomputable def bl(x:Str)(l:List (Option Str)):List (Option Str):=l.map fun z=>if z=some x then none else z
theorem qf1(x:Str)(l:List (Option Str)):(bl x l).length=l.length:=by simp[bl]
theorem qqP(x:Str)(l r:List (Option Str)):bl x (l++r)=bl x l++bl x r:=by simp[bl]
theorem qhm(x:Str):∀ l:List (Option Str),(bl x l).filterMap id=wo x (l.filterMap id)
 | []=>rfl
 | none::r=>by simpa [bl] using qhm x r
 | some y::r=>by
  have ih:=qhm x r
  unfold bl wo at ih ⊢
  by_cases h:y=x
  ·subst h;simpa using ih
  ·simp[h,ih]
theorem qc7(x:Str):∀ l:List (Option Str),(l.filterMap id).count x=l.count (some x)
 | []=>rfl
 | none::r=>by simpa using qc7 x r
 | some y::r=>by
  have ih:=qc7 x r
  simp[List.count_cons,ih]
noncomputable def lkk(x:Str)(so:List (Option Str))(i k:Nat):List (Option Str):=so.take i++bl x ((so.drop i).take k)++so.drop (i+k)
theorem qiQ{α:Type}(z v:α)(R:List α):∀ A:List α,(A++z::R).set A.length v=A++v::R
 | []=>rfl
 | a::A=>by simp[qiQ z v R A]
theorem qot(x:Str)(so:List (Option Str))(i:Nat):lkk x so i 0=so:=by simp[lkk,bl]
theorem qou(x:Str)(so:List (Option Str))(i:Nat)(h:i<=so.length):lkk x so i (so.length-i)=so.take i++bl x (so.drop i):=by
 unfold lkk
 refine substr (List.take_of_length_le (l:=so.drop i) (by refine substr length_drop ?_;exact Nat.le_refl _)) (substr (List.drop_of_length_le (l:=so) (i:=i+(so.length-i)) (qrT)) (substr (List.append_nil ..) rfl))
theorem qgC(x:Str)(so:List (Option Str))(i k:Nat)(h:i+k<=so.length):(lkk x so i k).length=so.length:=by
 unfold lkk
 simp only[length_append,qf1,length_take,length_drop];exact qrU
theorem qfl(x:Str){so:List (Option Str)}{i k:Nat}{z:Option Str}(h:so[i+k]?=some z):
 (lkk x so i k)[i+k]?=some z/\lkk x so i (k+1)=(if z=some x then(lkk x so i k).set (i+k) none else lkk x so i k) /\
 ((so.drop i).take (k+1)).count (some x)=((so.drop i).take k).count (some x)+(if z=some x then 1 else 0):=by
 have hlt:i+k<so.length:=(List.getElem?_eq_some_iff.mp h).1
 have e1:(so.drop i).take (k+1)=(so.drop i).take k++[z]:=by
  refine substr List.take_add_one (substr List.getElem?_drop (substr h ?_));rfl
 have e2:so.drop (i+k)=z::so.drop (i+k+1):=qap h
 have e3:(so.take i++bl x ((so.drop i).take k)).length=i+k:=by simp only[length_append,qf1,length_take,length_drop];exact qrV hlt
 refine(iAA ?_ ?_ ?_)
 ·unfold lkk
  refine substr e2 (substr (List.getElem?_append_right (by refine substr e3 ?_;exact Nat.le_refl _)) (substr e3 (substr (Nat.sub_self ..) ?_)));rfl
 ·unfold lkk
  refine substr e1 (substr e2 (substr (qqP ..) (substr (show i+(k+1)=i+k+1 from rfl) ?_)))
  have e4:bl x [z]=[if z=some x then none else z]:=rfl
  refine substr e4 ?_
  have e5:=qiQ z none (so.drop (i+k+1)) (so.take i++bl x ((so.drop i).take k))
  rw[e3] at e5
  by_cases hz:z=some x
  ·refine substr (if_pos hz) (substr (if_pos hz) (substr e5 ?_));simp
  ·refine substr (if_neg hz) (substr (if_neg hz) ?_);simp
 ·refine substr e1 (substr List.count_append ?_)
  congr 1
  by_cases hz:z=some x
  ·subst hz;simp
  ·simp[hz,List.count_cons]
noncomputable def qh8:Nat->List Str->List (Nat×Nat×Str)
 | 0,_=>[]
 | _+1,[]=>[]
 | k+1,y::r=>(0,1+r.count y,y)::qh8 k (wo y r)
noncomputable def cdT(l:List Str):List (Nat×Nat×Str):=qh8 l.length l
noncomputable def qh9:Nat->List Str->List Str->List (Nat×Nat×Str)
 | 0,_,ys=>cdT ys
 | _+1,[],ys=>cdT ys
 | k+1,x::r,ys=>(if 1+r.count x=ys.count x then[] else[(1+r.count x,ys.count x,x)])++qh9 k (wo x r) (wo x ys)
noncomputable def cdP(xs ys:List Str):List (Nat×Nat×Str):=qh9 xs.length xs ys
theorem qpl(k:Nat):∀ {l:List Str},l.length<=k->qh8 k l=cdT l:=by
 suffices ∀(m:Nat) (l:List Str),l.length<=k->l.length<=m->qh8 k l=qh8 m l from fun {l} h=>this _ l h (Nat.le_refl _)
 induction k with
 | zero=>intro m l h1 h2;cases l with
  | nil=>cases m<;>rfl
  | cons y r=>exact absurd h1 (Nat.not_succ_le_zero _)
 | succ k ih=>intro m l h1 h2;cases l with
  | nil=>cases m<;>rfl
  | cons y r=>cases m with
   | zero=>exact absurd h2 (Nat.not_succ_le_zero _)
   | succ m=>exact congrArg (List.cons (0,1+r.count y,y)) (ih m (wo y r) (Nat.le_trans (qdK y r) (Nat.le_of_succ_le_succ h1)) (Nat.le_trans (qdK y r) (Nat.le_of_succ_le_succ h2)))
theorem qpm(k:Nat):∀ {l ys:List Str},l.length<=k->qh9 k l ys=cdP l ys:=by
 suffices ∀(m:Nat) (l ys:List Str),l.length<=k->l.length<=m->qh9 k l ys=qh9 m l ys from fun {l ys} h=>this _ l ys h (Nat.le_refl _)
 induction k with
 | zero=>intro m l ys h1 h2;cases l with
  | nil=>cases m<;>rfl
  | cons y r=>exact absurd h1 (Nat.not_succ_le_zero _)
 | succ k ih=>intro m l ys h1 h2;cases l with
  | nil=>cases m<;>rfl
  | cons y r=>cases m with
   | zero=>exact absurd h2 (Nat.not_succ_le_zero _)
   | succ m=>exact congrArg (HAppend.hAppend _) (ih m (wo y r) (wo y ys) (Nat.le_trans (qdK y r) (Nat.le_of_succ_le_succ h1)) (Nat.le_trans (qdK y r) (Nat.le_of_succ_le_succ h2)))
theorem qiR:cdT []=[]:=rfl
theorem qmf(y:Str)(r:List Str):cdT (y::r)=(0,1+r.count y,y)::cdT (wo y r):=congrArg (List.cons (0,1+r.count y,y)) (qpl _ (qdK y r))
theorem qiS(ys:List Str):cdP [] ys=cdT ys:=rfl
theorem qia(x:Str)(r ys:List Str):cdP (x::r) ys=(if 1+r.count x=ys.count x then[] else[(1+r.count x,ys.count x,x)])++cdP (wo x r) (wo x ys):=congrArg (HAppend.hAppend _) (qpm _ (qdK x r))
noncomputable def MisAll(H:AH):List Addr->List (Nat×Nat×Str)->Prop
 | [],[]=>True
 | r::rs,o::os=>Mis H r o.1 o.2.1 o.2.2/\MisAll H rs os
 | _,_=>False
theorem MisAll.len{H:AH}:∀ {rs:List Addr} {os:List (Nat×Nat×Str)},MisAll H rs os->rs.length=os.length
 | [],[],_=>rfl
 | r::rs,o::os,h=>by simp[MisAll.len h.2]
 | [],_::_,h=>h.elim
 | _::_,[],h=>h.elim
theorem MisAll.to{H H':AH}:∀ {rs:List Addr} {os:List (Nat×Nat×Str)},MisAll H rs os->(∀ a∈rs,∀ o,H a=some (.raw o)->H' a=some (.raw o))->MisAll H' rs os
 | [],[],_,_=>trivial
 | r::rs,o::os,h,k=>⟨by refine qch h.1 fun dx t1 t2 t3 e=>?_;exact⟨dx,t1,t2,t3,k r (mem_cons_self ..) _ e⟩,MisAll.to h.2 fun a ha=>k a (List.mem_cons_of_mem _ ha)⟩
 | [],_::_,h,_=>h.elim
 | _::_,[],h,_=>h.elim
theorem MisAll.app{H:AH}:∀ {rs:List Addr} {os:List (Nat×Nat×Str)} {r:Addr} {o:Nat×Nat×Str},MisAll H rs os->Mis H r o.1 o.2.1 o.2.2->MisAll H (rs++[r]) (os++[o])
 | [],[],_,_,_,k=>⟨k,trivial⟩
 | r::rs,o::os,_,_,h,k=>⟨h.1,MisAll.app h.2 k⟩
 | [],_::_,_,_,h,_=>h.elim
 | _::_,[],_,_,h,_=>h.elim
theorem MisAll.mem{H:AH}:∀ {rs:List Addr} {os:List (Nat×Nat×Str)},MisAll H rs os->∀ a∈rs,∃ o,H a=some (.raw o)
 | [],[],_,a,ha=>by simp at ha
 | r::rs,o::os,h,a,ha=>by
  rcases List.mem_cons.mp ha with rfl | ha
  ·refine qch h.1 fun dx t1 t2 t3 e=>?_;exact⟨_,e⟩
  ·exact MisAll.mem h.2 a ha
 | [],_::_,h,_,_=>h.elim
 | _::_,[],h,_,_=>h.elim
theorem qfm{H H':AH}{a:Addr}{d:HO}(x:Sub H H'):Sub (upd H a d) (upd H' a d):=fun b e q=>by
 unfold upd at q ⊢
 split at q
 ·rename_i hb;refine substr (if_pos hb) ?_;exact q
 ·rename_i hb;refine substr (if_neg hb) ?_;exact x b e q
theorem qib{Hk Hc:AH}{s:Addr}{d0 d:HO}(h:Hk s=some d0):∀ a e,upd Hk s d a=some e->(∃ d',Hk a=some d')\/Hc a=none:=fun a e q=>by
 unfold upd at q
 split at q
 ·rename_i hb;refine substr hb ?_;exact .inl ⟨_,h⟩
 ·exact .inl ⟨_,q⟩
noncomputable def lk0(x:Str)(so:List (Option Str))(k:Nat):List (Option Str):=bl x (so.take k)++so.drop k
theorem qk9(x:Str)(so:List (Option Str))(k:Nat):lkk x so 0 k=lk0 x so k:=by unfold lkk lk0;simp
theorem qmg(x:Str){so:List (Option Str)}{k:Nat}{z:Option Str}(h:so[k]?=some z):
 (lk0 x so k)[k]?=some z/\lk0 x so (k+1)=(if z=some x then(lk0 x so k).set k none else lk0 x so k) /\
 (so.take (k+1)).count (some x)=(so.take k).count (some x)+(if z=some x then 1 else 0):=by
 have:=qfl x (so:=so) (i:=0) (k:=k) (z:=z) (by refine substr (Nat.zero_add ..) ?_;exact h)
 simpa only [Nat.zero_add,qk9,List.drop_zero] using this
theorem qiT(x:Str)(so:List (Option Str))(k:Nat)(h:k<=so.length):(lk0 x so k).length=so.length:=by
 refine substr (qk9 ..).symm ?_;exact qgC x so 0 k (qrW h)
theorem qxw(x:Str)(so:List (Option Str)):lk0 x so so.length=bl x so:=by unfold lk0;simp
theorem qiU{k:Nat}{so:List (Option Str)}(h:so[k]?=some none):(so.drop k).filterMap id=(so.drop (k+1)).filterMap id:=by refine substr (qap h) ?_;rfl
theorem qeT{k:Nat}{so:List (Option Str)}{x:Str}(h:so[k]?=some (some x)):(so.drop k).filterMap id=x::(so.drop (k+1)).filterMap id:=by refine substr (qap h) ?_;rfl
theorem qgD{xs ys:List Value}(h:some (lst xs)=some (lst ys)):xs=ys:=by injection h with h;injection h
theorem qic{k:Nat}{so:List (Option Str)}{x:Str}(h:so[k]?=some (some x)):((so.take k++bl x (so.drop k)).drop (k+1)).filterMap id=wo x ((so.drop (k+1)).filterMap id):=by
 have hlt:=(List.getElem?_eq_some_iff.mp h).1
 have e:(so.take k).length=k:=by refine substr length_take ?_;exact qrX hlt
 refine substr (qhm ..).symm (substr (qap h) (substr (show bl x (some x::so.drop (k+1))=none::bl x (so.drop (k+1)) from by simp[bl]) ?_))
 refine substr List.drop_append (substr e (substr (List.drop_eq_nil_of_le (qrY e)) (substr (show k+1-k=1 by exact qrZ) ?_)))
 rfl
theorem qiV{k:Nat}{so:List (Option Str)}{x:Str}(h:k<=so.length):(so.take k++bl x (so.drop k)).length=so.length:=by
 refine substr length_append (substr (qf1 ..) (substr length_take (substr length_drop ?_)));exact qr0
structure CL(s t rs NL:Addr)(m n:Nat)(M:Loc):Prop where
 s:look "s" M=some (.ref s)
 t:look "t" M=some (.ref t)
 m:look "m" M=some (I m)
 n:look "n" M=some (I n)
 nl:look "NULL" M=some (.ref NL)
 rs:look "result" M=some (.ref rs)
theorem CL.put{s t rs NL:Addr}{m n:Nat}{M:Loc}{x:String}{v:Value}(c:CL s t rs NL m n M)(h:x ∉ ["s", "t", "m", "n", "NULL", "result"]):CL s t rs NL m n (put x v M):=by
 simp only[List.mem_cons,List.not_mem_nil,or_false,not_or] at h
 refine qht h fun h1 h2 h3 h4 h5 h6=>?_
 exact⟨qbE (Ne.symm h1) c.s,qbE (Ne.symm h2) c.t,qbE (Ne.symm h3) c.m,qbE (Ne.symm h4) c.n,qbE (Ne.symm h5) c.nl,qbE (Ne.symm h6) c.rs⟩
structure CJ(H Hk:AH)(NL s t rs:Addr)(so to:List (Option Str))(ads:List Addr)(out:List (Nat×Nat×Str)):Prop where
 nl:Hk NL=some (.plain "object")
 s:Hk s=some (lst (so.map (nv NL)))
 t:Hk t=some (lst (to.map (nv NL)))
 rs:Hk rs=some (lst (ads.map Value.ref))
 mis:MisAll Hk ads out
 keep:∀ a d,H a=some d->Hk a=some d
theorem qiW{NL:Addr}:∀ xs:List Str,(xs.map some).map (nv NL)=xs.map S:=fun xs=>by refine substr map_map ?_;rfl
inductive CdA(H:AH)(NL s t rs:Addr)(m n:Nat)(tgt:List (Nat×Nat×Str))(k:Nat)(M:Loc)(Hk:AH):Prop
 | mk(so to:List (Option Str))(ads:List Addr)(out:List (Nat×Nat×Str))(c:CL s t rs NL m n M)(j:CJ H Hk NL s t rs so to ads out)(l1:so.length=m)(l2:to.length=n)(l3:out.length<=k)(g:out++cdP ((so.drop k).filterMap id) (to.filterMap id)=tgt)
inductive CdB(NL s t rs:Addr)(m n:Nat)(x:Str)(so:List (Option Str))(k:Nat)(Hc:AH)(q:Nat)(M:Loc)(Hq:AH):Prop
 | mk(hle:k+q<=so.length)(c:CL s t rs NL m n M)(e:look "elem" M=some (S x)) (cs:look "cnt_s" M=some (I (((so.drop k).take q).count (some x):Nat))) (ct:look "cnt_t" M=some (I 0)) (hs:Hq s=some (lst ((lkk x so k q).map (nv NL)))) (kp:∀ a d,a≠s->Hc a=some d->Hq a=some d)
inductive CdC(NL s t rs:Addr)(m n:Nat)(x:Str)(to:List (Option Str))(c0:Nat)(Hc:AH)(q:Nat)(M:Loc)(Hq:AH):Prop
 | mk(hle:q<=to.length)(c:CL s t rs NL m n M)(e:look "elem" M=some (S x)) (cs:look "cnt_s" M=some (I (c0:Nat))) (ct:look "cnt_t" M=some (I ((to.take q).count (some x):Nat))) (ht:Hq t=some (lst ((lk0 x to q).map (nv NL)))) (kp:∀ a d,a≠t->Hc a=some d->Hq a=some d)
inductive CdD(H:AH)(NL s t rs:Addr)(m n:Nat)(tgt:List (Nat×Nat×Str))(k:Nat)(M:Loc)(Hk:AH):Prop
 | mk(so to:List (Option Str))(ads:List Addr)(out:List (Nat×Nat×Str))(c:CL s t rs NL m n M)(j:CJ H Hk NL s t rs so to ads out)(l2:to.length=n)(l3:out.length<=m+k)(g:out++cdT ((to.drop k).filterMap id)=tgt)
inductive CdE(NL s t rs:Addr)(m n:Nat)(x:Str)(so:List (Option Str))(k:Nat)(Hc:AH)(q:Nat)(M:Loc)(Hq:AH):Prop
 | mk(hle:k+q<=so.length)(c:CL s t rs NL m n M)(e:look "elem" M=some (S x)) (ct:look "cnt_t" M=some (I (((so.drop k).take q).count (some x):Nat))) (ht:Hq t=some (lst ((lkk x so k q).map (nv NL)))) (kp:∀ a d,a≠t->Hc a=some d->Hq a=some d)
theorem qmh(ok:Ok (KF w.params) glob q7 D (n+4)){X Y:Addr}{xs ys:List Str}(hX:H X=some (lst (xs.map S)))(hY:H Y=some (lst (ys.map S)))(lx:xs.length<=1000)(ly:ys.length<=1000)
 (h:∀ R ads Hs,Sub H Hs->Hs R=some (lst (ads.map Value.ref))->MisAll Hs ads (cdP xs ys)->Φ (.ref R) M Hs):
 ∀ vs,vs.map norm=[.ref X,.ref Y]->WV (model prog w) D (call (.ref 176) vs) M H Φ E:=by
 refine qba ok (by rfl) (by rfl) ["actual", "expected"] [("actual",.local),("expected",.local),("s",.local),("t",.local),("m",.local),("n",.local),("NULL",.local),("result",.local),("i",.local),("elem",.local),("cnt_s",.local),("cnt_t",.local),("j",.local),("other_elem",.local),("diff",.local),("list",.globalImplicit),("len",.globalImplicit),("object",.globalImplicit),("enumerate",.globalImplicit),("range",.globalImplicit),("_Mismatch",.globalImplicit)] ?hb (by rfl) (by rfl) (by decide) (by decide) (by rfl) ?_
 case hb=>intro vs h;(refine oEE (ex2 h) fun a b e2'=>?_;obtain rfl:=e2');rfl
 intro D' env ok' ke hlo hf
 have big:(1000000:Nat)<=sizeLine:=by decide
 have hU:D'.A.units<cLine:=by have:=ok'.units;exact qr1 this
 generalize hT0:cdP xs ys=tgt at h
 refine qfW ke ?_
 refine qdF ok'.hand ke (by rfl) (by rfl) (qaa (qd (qF ?_)))
 walk_at "n"
 refine v_type (qp qaJ (qd ?_))
 walk_at "n"
 refine qi (qkI hX (by refine substr (length_map ..) ?_;exact qg7 lx big) fun s hs0=>?_)
 refine qd (qF ?_)
 walk_at "n"
 refine v_type (qp qaJ (qd ?_))
 walk_at "n"
 refine qi (qkI (qx hs0 hY) (by refine substr (length_map ..) ?_;exact qg7 ly big) fun t ht0=>?_)
 refine qi ⟨qJ rfl,fun T hT=>⟨T,_,_,rfl,upd_same,?_⟩⟩
 refine qj ?_;walk_at "s"
 refine qj ?_;walk_at "s"
 refine qN ?_
 have nst:s≠t:=qG ht0 upd_same
 have ht0':H t=none:=(Sub.upd hs0).none ht0
 refine qdF ok'.hand ke (by rfl) (by rfl) (qaa (qd (qF ?_)))
 walk_at "n"
 refine qY (qp qu (qd ?_))
 walk_at "n"
 refine qi (qbl (by walk_at "h") (by refine substr (length_map ..) ?_;exact qbr lx) ?_)
 refine qd (qF ?_)
 walk_at "n"
 refine qY (qp qu (qd ?_))
 walk_at "n"
 refine qi (qbl (by walk_at "h") (by refine substr (length_map ..) ?_;exact qbr ly) ?_)
 refine substr (length_map ..) (substr (length_map ..) ?_)
 refine qi ⟨qJ rfl,fun T2 hT2=>⟨T2,_,_,rfl,upd_same,?_⟩⟩
 refine qj ?_;walk_at "s"
 refine qj ?_;walk_at "s"
 refine qN ?_
 refine qI (qF ?_)
 walk_at "n"
 refine v_type (qdt qaJ (qhH (fun NL hNL=>?_) [] rfl))
 walk_at "s"
 refine qI (qae (qi ⟨qJ rfl,fun rs hrs=>?_⟩))
 walk_at "s"
 have nrs:rs≠s:=fun e=>by subst e;rw[qe (qG hNL (by walk_at "h")),qe (qG hT2 (by walk_at "h")),qe (qG hT (by walk_at "h")),qe nst,upd_same] at hrs;exact o_sn hrs
 have nrt:rs≠t:=fun e=>by subst e;rw[qe (qG hNL (by walk_at "h")),qe (qG hT2 (by walk_at "h")),qe (qG hT (by walk_at "h")),upd_same] at hrs;exact o_sn hrs
 have hrs':H rs=none:=(((((Sub.upd hs0).trans (Sub.upd ht0)).trans (Sub.upd hT)).trans (Sub.upd hT2)).trans (Sub.upd hNL)).none hrs
 have c0:CL s t rs NL xs.length ys.length (put "result" (Value.ref rs) (put "NULL" (Value.ref NL) (put "m" (I xs.length) (put "n" (I ys.length) (put "s" (Value.ref s) (put "t" (Value.ref t) ((["actual", "expected"].zip [Value.ref X,Value.ref Y]).reverse))))))):=⟨by walk_at "l",by walk_at "l",by walk_at "l",by walk_at "l",by walk_at "l",by walk_at "l"⟩
 have j0:CJ H (upd (upd (upd (upd (upd (upd H s (lst (xs.map S))) t (lst (ys.map S))) T (tup [.ref s,.ref t])) T2 (tup [I xs.length,I ys.length])) NL (.plain "object")) rs (lst [])) NL s t rs (xs.map some) (ys.map some) [] []:=⟨by walk_at "h",by refine substr (qiW ..) ?_;walk_at "h",by refine substr (qiW ..) ?_;walk_at "h",upd_same,trivial,(((((Sub.upd hs0).trans (Sub.upd ht0)).trans (Sub.upd hT)).trans (Sub.upd hT2)).trans (Sub.upd hNL)).trans (Sub.upd hrs)⟩
 generalize put "result" (Value.ref rs) (put "NULL" (Value.ref NL) (put "m" (I xs.length) (put "n" (I ys.length) (put "s" (Value.ref s) (put "t" (Value.ref t) ((["actual", "expected"].zip [Value.ref X,Value.ref Y]).reverse))))))=M1 at c0
 generalize upd (upd (upd (upd (upd (upd H s (lst (xs.map S))) t (lst (ys.map S))) T (tup [.ref s,.ref t])) T2 (tup [I xs.length,I ys.length])) NL (.plain "object")) rs (lst [])=H1 at j0
 clear hT hT2 hNL hrs ht0
 refine qh7 (l:=s) (xs:=(xs.map some).map (nv NL)) ok'.hand (fun a=>a=s\/a=t\/a=rs) (CdA H NL s t rs xs.length ys.length tgt)
  (by
   obtain⟨cs,ct,cm,cn,cnl,crs⟩:=c0
   walk_at "n"
   refine⟨rfl,?_⟩
   walk_at "n"
   exact(iAA rfl rfl rfl)) j0.s rfl (fun a ha=>?_) ⟨_,_,_,_,c0,j0,by simp,by simp,Nat.le_refl _,?_⟩ ?_ ?_ ?_
 ·rcases ha with rfl | rfl | rfl
  ·exact⟨_,j0.s⟩
  ·exact⟨_,j0.t⟩
  ·exact⟨_,j0.rs⟩
 ·refine substr List.drop_zero (substr (List.nil_append ..) (substr hT0.symm ?_))
  simp
 ·rintro k M' Hk ⟨so,to,ads,out,c,j,l1,l2,l3,hg⟩
  exact iEA _ j.s (by simp[l1])
 ·rintro k M' Hk Hc v hk ⟨so,to,ads,out,c,j,l1,l2,l3,hg⟩ hS ⟨T,p,hv,hT,ys',hys,hp⟩
  rw[length_map,length_map] at hk
  have hys2:=qgD (j.s.symm.trans hys)
  subst hys2
  obtain⟨z,hz,rfl⟩:∃ z,so[k]?=some z/\p=nv NL z:=by
   rw[getElem?_map] at hp
   refine oEA (Option.map_eq_some_iff.mp hp) fun z hz e=>?_
   exact iEA z hz e.symm
  refine qbP ok'.hand hT ?_ _ hv
  refine qj ?_;walk_at "s"
  refine qj ?_;walk_at "s"
  refine qN ?_
  have c1:=(c.put (x := "i") (v:=I k) (by decide)).put (x := "elem") (v:=nv NL z) (by decide)
  have i1:look "i" (put "elem" (nv NL z) (put "i" (I k) M'))=some (I k):=by walk_at "l"
  have e1:look "elem" (put "elem" (nv NL z) (put "i" (I k) M'))=some (nv NL z):=by walk_at "l"
  generalize put "elem" (nv NL z) (put "i" (I k) M')=M2 at c1 i1 e1
  have c1':=c1
  obtain⟨cs,ct,cm,cn,cnl,crs⟩:=c1'
  refine qbp (qO ?_)
  walk_at "n"
  walk_at "n"
  cases z with
  | none=>
   refine qfg (asB ⟨fun _=>qf0 ⟨Kp.refl,Hk,hS,fun a d e=>.inl ⟨_,e⟩,so,to,ads,out,c1,j,l1,l2,by exact qjd l3,?_⟩,fun h=>by cases h⟩)
   refine substr (qiU hz).symm ?_;exact hg
  | some x=>
   refine qiJ (asB ⟨fun h=>(by cases h),fun _=>qy ?_⟩)
   refine qgP (qw ?_)
   refine qj ?_;walk_at "s"
   refine qj ?_;walk_at "s"
   refine qN ?_
   have c3:=(c1.put (x := "cnt_s") (v:=I 0) (by decide)).put (x := "cnt_t") (v:=I 0) (by decide)
   have i3:look "i" (put "cnt_t" (I 0) (put "cnt_s" (I 0) M2))=some (I k):=by walk_at "l"
   have e1:look "elem" M2=some (S x):=e1
   have e3:look "elem" (put "cnt_t" (I 0) (put "cnt_s" (I 0) M2))=some (S x):=by walk_at "l"
   have s3:look "cnt_s" (put "cnt_t" (I 0) (put "cnt_s" (I 0) M2))=some (I (((so.drop k).take 0).count (some x):Nat)):=by refine substr List.take_zero ?_;exact(by walk_at "l":look "cnt_s" (put "cnt_t" (I 0) (put "cnt_s" (I 0) M2))=some (I 0))
   have t3:look "cnt_t" (put "cnt_t" (I 0) (put "cnt_s" (I 0) M2))=some (I 0):=by walk_at "l"
   generalize put "cnt_t" (I 0) (put "cnt_s" (I 0) M2)=M3 at c3 i3 e3 s3 t3
   have hsc:=hS _ _ j.s
   have hNLc:=hS _ _ j.nl
   have c3':=c3
   obtain⟨d1,d2,d3,d4,d5,d6⟩:=c3'
   refine qdG (n:=((xs.length:Int)-(k:Int)).toNat) (fr:=fun _=>False) (fun a=>a=s) (CdB NL s t rs xs.length ys.length x so k Hc)
    (qeq ok'.hand (A:=(k:Int)) (N:=(xs.length:Int)) (by
     walk_at "n"
     refine⟨rfl,?_⟩
     walk_at "n"
     refine⟨rfl,?_⟩
     walk_at "n"
     exact(iAA rfl rfl Sub.refl)) (qhr) (qmT lx hk) (qhr) (qlF lx) rfl) (fun a ha=>⟨by subst ha;exact⟨_,hsc⟩,fun f=>f⟩) ⟨by exact qmU hk l1,c3,by assumption,by assumption,by assumption,by refine substr (qot ..) ?_;exact hsc,fun a d _ e=>e⟩ ?_ ?_
   ·rintro q M4 Hk4 Hc4 v4 hq4 ⟨hle,c4,el4,cs4,ct4,s4,k4⟩ hS4 hv4
    refine qar hv4 ?_
    walk_at "s"
    have c5:=c4.put (x := "j") (v:=I ((k:Int)+q)) (by decide)
    have el5:look "elem" (put "j" (I ((k:Int)+q)) M4)=some (S x):=by walk_at "l"
    have cs5:look "cnt_s" (put "j" (I ((k:Int)+q)) M4)=some (I (((so.drop k).take q).count (some x):Nat)):=by walk_at "l"
    have j5:look "j" (put "j" (I ((k:Int)+q)) M4)=some (I ((k:Int)+q)):=by walk_at "l"
    have ct5:look "cnt_t" (put "j" (I ((k:Int)+q)) M4)=some (I 0):=by walk_at "l"
    generalize put "j" (I ((k:Int)+q)) M4=M5 at c5 el5 cs5 j5 ct5
    have hlt:k+q<so.length:=qmV l1 hq4
    obtain⟨z',hz'⟩:∃ z',so[k+q]?=some z':=⟨_,getElem?_eq_getElem hlt⟩
    refine oAA (qfl x hz') fun f1 f2 f3=>?_
    have hN4:Hc4 NL=some (.plain "object"):=hS4 _ _ (k4 _ _ (fun e=>by rw[e] at hNLc;rw[hsc] at hNLc;cases hNLc) hNLc)
    have c5':=c5
    obtain⟨b1,b2,b3,b4,b5,b6⟩:=c5'
    refine qbp (qO (qW ?_))
    walk_at "n"
    walk_at "n"
    refine qb0 (p:=nv NL z') (hS4 _ _ s4) (qmW) (qmX lx l1 hlt) (by refine substr (show((k:Int)+(q:Int)).toNat=k+q by exact qmY) (substr getElem?_map (substr f1 ?_));rfl) ?_
    walk_at "n"
    refine qj4 hN4 hU (asB ⟨fun hb=>?_,fun hb=>?_⟩)
    ·have hz:z'=some x:=by simpa using hb
     rw[if_pos hz] at f2 f3
     refine qbs (by walk_at "d") (qw (qa7 ?_))
     walk_at "s"
     refine qh6 ?_
     walk_at "n"
     walk_at "n"
     walk_at "n"
     refine(qec s _ (k+q) rfl rfl (hS4 _ _ s4) (by refine substr (length_map ..) (substr (qgC _ _ _ _ hle) ?_);exact hlt) (qmZ lx l1 hlt) (qy (qy ⟨Kp.at Kp.refl rfl,upd Hk4 s (lst ((lkk x so k (q+1)).map (nv NL))),?_,qib s4,?_⟩)))
     ·refine substr f2 (substr List.map_set ?_);exact qfm hS4
     ·refine⟨by exact qg8 hlt,c5.put (by decide),by walk_at "l",by refine substr f3 ?_;exact qbj,by walk_at "l",upd_same,fun a d n1 e=>(qe n1).trans (k4 a d n1 e)⟩
    ·have hz:¬ z'=some x:=by simpa using hb
     rw[if_neg hz] at f2 f3
     refine qy (qy ⟨Kp.refl,Hk4,hS4,fun a d e=>.inl ⟨_,e⟩,by exact qg8 hlt,c5,by walk_at "l",by refine substr f3 (substr (Nat.add_zero ..) ?_);exact cs5,by walk_at "l",by refine substr f2 ?_;exact s4,k4⟩)
   rintro M4 Hk4 ⟨hle,c4,el4,cs4,ct4,s4,k4⟩
   have hn1:((xs.length:Int)-(k:Int)).toNat=so.length-k:=qm0 l1
   rw[hn1] at cs4 s4
   rw[qou x so k (qg9 hk l1)] at s4
   rw[List.take_of_length_le (l:=so.drop k) (by refine substr length_drop ?_;exact Nat.le_refl _)] at cs4
   have nNs:NL≠s:=fun e=>by rw[e,hsc] at hNLc;cases hNLc
   have nNt:NL≠t:=fun e=>by have:=j.nl;rw[e,j.t] at this;cases this
   have nNr:NL≠rs:=fun e=>by have:=j.nl;rw[e,j.rs] at this;cases this
   have htc:Hk4 t=some (lst (to.map (nv NL))):=k4 _ _ (Ne.symm nst) (hS _ _ j.t)
   have hN4:Hk4 NL=some (.plain "object"):=k4 _ _ nNs hNLc
   have ecs:(so.drop k).count (some x)=1+((so.drop (k+1)).filterMap id).count x:=by refine substr (qc7 ..).symm (substr (qeT hz) (substr List.count_cons_self (substr (Nat.add_comm ..) rfl)))
   have ect:to.count (some x)=(to.filterMap id).count x:=(qc7 x to).symm
   have fin2:∀ M7 H7 ads' out',CL s t rs NL xs.length ys.length M7->(∀ a d,a≠s->a≠t->a≠rs->Hc a=some d->H7 a=some d)->H7 s=some (lst ((so.take k++bl x (so.drop k)).map (nv NL)))->H7 t=some (lst ((bl x to).map (nv NL)))->
    H7 rs=some (lst (ads'.map Value.ref))->MisAll H7 ads' out'->(∀ a∈ads',(∃ d,Hk a=some d)\/Hc a=none)->out'.length<=k+1->out'++cdP (wo x ((so.drop (k+1)).filterMap id)) (wo x (to.filterMap id))=tgt->
    TE (Kp (fun a=>a=s\/a=t\/a=rs) Hc) Hc Hk (CdA H NL s t rs xs.length ys.length tgt (k+1)) M7 H7:=by
    intro M7 H7 ads' out' c7 hk7 g1 g2 g3 g4 g5 g6 g7
    refine⟨fun a d nx e=>?_,rst (fun a=>(∃ d,Hk a=some d)\/a∈ads') H7,qgA,fun a d e=>(qgB e).elim .inl (g5 a),so.take k++bl x (so.drop k),bl x to,ads',out',c7,⟨?_,?_,?_,?_,?_,fun a d e=>?_⟩,?_,?_,g6,?_⟩
    ·simp only[not_or] at nx
     exact hk7 a d nx.1 nx.2.1 nx.2.2 e
    ·exact(qas (.inl ⟨_,j.nl⟩)).trans (hk7 _ _ nNs nNt nNr hNLc)
    ·exact(qas (.inl ⟨_,j.s⟩)).trans g1
    ·exact(qas (.inl ⟨_,j.t⟩)).trans g2
    ·exact(qas (.inl ⟨_,j.rs⟩)).trans g3
    ·exact g4.to fun a ha o e=>(qas (.inr ha)).trans e
    ·refine(qas (.inl ⟨_,j.keep _ _ e⟩)).trans (hk7 a d (fun q=>?_) (fun q=>?_) (fun q=>?_) (hS _ _ (j.keep _ _ e)))
     ·rw[q,hs0] at e;exact o_ns e
     ·rw[q,ht0'] at e;exact o_ns e
     ·rw[q,hrs'] at e;exact o_ns e
    ·refine substr (qiV (qg9 hk l1)) (substr l1 rfl)
    ·refine substr (qf1 ..) (substr l2 rfl)
    ·refine substr (qic hz) (substr (qhm ..) ?_);exact g7
   have old:∀ a∈ads,(∃ d,Hk a=some d)/\a≠s/\a≠t/\a≠rs:=fun a ha=>by
    obtain⟨o,e⟩:=j.mis.mem a ha
    refine(qdr ⟨_,e⟩ (fun q=>?_) (fun q=>?_) (fun q=>?_))
    ·rw[q,j.s] at e;cases e
    ·rw[q,j.t] at e;cases e
    ·rw[q,j.rs] at e;cases e
   have hgg:=hg
   rw[qeT hz,qia] at hgg
   have c4':=c4
   obtain⟨d1,d2,d3,d4,d5,d6⟩:=c4'
   refine qh7 (l:=t) (xs:=to.map (nv NL)) ok'.hand (fun a=>a=t) (CdC NL s t rs xs.length ys.length x to ((so.drop k).count (some x)) Hk4)
    (by
     walk_at "n"
     refine⟨rfl,?_⟩
     walk_at "n"
     exact(iAA rfl rfl rfl)) htc rfl (fun a ha=>by refine substr (show a=t from ha) ?_;exact⟨_,htc⟩) ⟨Nat.zero_le _,c4,el4,cs4,by refine substr List.take_zero ?_;exact ct4,by refine substr (show lk0 x to 0=to from by simp[lk0,bl]) ?_;exact htc,fun a d _ e=>e⟩ ?_ ?_ ?_
   ·rintro q M' Hq ⟨q1,_,_,_,_,q2,_⟩
    exact iEA _ q2 (by simp[qiT x to q q1])
   ·rintro q M5 Hk5 Hc5 v5 hq5 ⟨hle5,c5,el5,cs5,ct5,t5,k5⟩ hS5 ⟨T5,p5,hv5,hT5,ys5,hys5,hp5⟩
    rw[length_map] at hq5
    have hys6:=qgD (t5.symm.trans hys5)
    subst hys6
    obtain⟨z',hz'⟩:∃ z',to[q]?=some z':=⟨_,getElem?_eq_getElem hq5⟩
    refine oAA (qmg x hz') fun f1 f2 f3=>?_
    rw[getElem?_map,f1] at hp5
    have hp5:nv NL z'=p5:=by injection hp5
    subst hp5
    refine qbP ok'.hand hT5 ?_ _ hv5
    refine qj ?_;walk_at "s"
    refine qj ?_;walk_at "s"
    refine qN ?_
    have c6:=(c5.put (x := "j") (v:=I q) (by decide)).put (x := "other_elem") (v:=nv NL z') (by decide)
    have el6:look "elem" (put "other_elem" (nv NL z') (put "j" (I q) M5))=some (S x):=by walk_at "l"
    have cs6:look "cnt_s" (put "other_elem" (nv NL z') (put "j" (I q) M5))=some (I ((so.drop k).count (some x):Nat)):=by walk_at "l"
    have ct6:look "cnt_t" (put "other_elem" (nv NL z') (put "j" (I q) M5))=some (I ((to.take q).count (some x):Nat)):=by walk_at "l"
    have j6:look "j" (put "other_elem" (nv NL z') (put "j" (I q) M5))=some (I q):=by walk_at "l"
    have o6:look "other_elem" (put "other_elem" (nv NL z') (put "j" (I q) M5))=some (nv NL z'):=by walk_at "l"
    generalize put "other_elem" (nv NL z') (put "j" (I q) M5)=M6 at c6 el6 cs6 ct6 j6 o6
    have hN5:Hc5 NL=some (.plain "object"):=hS5 _ _ (k5 _ _ nNt hN4)
    have c6':=c6
    obtain⟨b1,b2,b3,b4,b5,b6⟩:=c6'
    refine qbp (qO ?_)
    walk_at "n"
    walk_at "n"
    refine qj4 hN5 hU (asB ⟨fun hb=>?_,fun hb=>?_⟩)
    ·have hz2:z'=some x:=by simpa using hb
     rw[if_pos hz2] at f2 f3
     refine qbs (by walk_at "d") (qw (qa7 ?_))
     walk_at "s"
     refine qh6 ?_
     walk_at "n"
     walk_at "n"
     walk_at "n"
     refine(qec t _ q rfl rfl (hS5 _ _ t5) (by refine substr (length_map ..) (substr (qiT _ _ _ hle5) ?_);exact hq5) (qr2 ly l2 hq5) (qy (qy ⟨Kp.at Kp.refl rfl,upd Hk5 t (lst ((lk0 x to (q+1)).map (nv NL))),?_,qib t5,?_⟩)))
     ·refine substr f2 (substr List.map_set ?_);exact qfm hS5
     ·refine⟨by exact qc0 hq5,c6.put (by decide),by walk_at "l",by walk_at "l",by refine substr f3 ?_;exact qbj,upd_same,fun a d n1 e=>(qe n1).trans (k5 a d n1 e)⟩
    ·have hz2:¬ z'=some x:=by simpa using hb
     rw[if_neg hz2] at f2 f3
     refine qy (qy ⟨Kp.refl,Hk5,hS5,fun a d e=>.inl ⟨_,e⟩,by exact qc0 hq5,c6,el6,cs6,by refine substr f3 (substr (Nat.add_zero ..) ?_);exact ct6,by refine substr f2 ?_;exact t5,k5⟩)
   rintro M6 Hk6 ⟨hle6,c6,el6,cs6,ct6,t6,k6⟩
   rw[length_map] at ct6 t6
   rw[qxw] at t6
   rw[List.take_length] at ct6
   have c6':=c6
   obtain⟨b1,b2,b3,b4,b5,b6⟩:=c6'
   have k7:∀ a d,a≠s->a≠t->Hc a=some d->Hk6 a=some d:=fun a d n1 n2 e=>k6 _ _ n2 (k4 _ _ n1 e)
   have s7:Hk6 s=some (lst ((so.take k++bl x (so.drop k)).map (nv NL))):=k6 _ _ nst s4
   have r7:Hk6 rs=some (lst (ads.map Value.ref)):=k7 _ _ nrs nrt (hS _ _ j.rs)
   refine qbp (qO ?_)
   walk_at "n"
   walk_at "n"
   refine qzq (asB ⟨fun hb=>?_,fun hb=>?_⟩)
   ·have hne:¬ (1+((so.drop (k+1)).filterMap id).count x=(to.filterMap id).count x):=fun e=>by
     rw[ecs,ect,e] at hb;simp at hb
    rw[if_neg hne,<- List.append_assoc] at hgg
    refine qI (qF ?_)
    walk_at "n"
    refine qad (qp (qh5 ok') (qd ?_))
    walk_at "n"
    refine qd ?_
    walk_at "n"
    refine qd ?_
    walk_at "n"
    refine qi (qk8 (n:=n+1) ok' fun r Hs hSs hr hm=>?_)
    walk_at "s"
    refine qaq (qa2 F.slot_list_append F.type_list_append ?_) ke
    walk_at "n"
    have r8:=hSs _ _ r7
    refine⟨rs,_,rfl,r8,qp qu (qd ?_)⟩
    walk_at "n"
    have ladd:=j.mis.len
    have hrc:Hc r=none:=by
     cases q:Hc r with
     | none=>rfl
     | some d=>
      by_cases q1:r=s
      ·rw[q1,s7] at hr;exact o_sn hr
      ·by_cases q2:r=t
       ·rw[q2,t6] at hr;exact o_sn hr
       ·have:=k7 _ _ q1 q2 q;rw[hr] at this;exact o_ns this
    refine qi (qbB r8 (by refine substr (length_map ..) ?_;exact qr3 lx big hk l3 ladd) ⟨rfl,qy (qy (fin2 _ _ (ads++[r]) (out++[(1+((so.drop (k+1)).filterMap id).count x,(to.filterMap id).count x,x)]) (c6.put (by decide)) ?_ ?_ ?_ ?_ ?_ ?_ (by simp;exact qd7 l3) hgg))⟩)
    ·exact fun a d n1 n2 n3 e=>(qe n3).trans (hSs _ _ (k7 a d n1 n2 e))
    ·exact(qe (Ne.symm nrs)).trans (hSs _ _ s7)
    ·exact(qe (Ne.symm nrt)).trans (hSs _ _ t6)
    ·refine substr upd_same (substr map_append ?_);rfl
    ·refine MisAll.app (j.mis.to fun a ha o e=>?_) ?_
     ·refine qdq (old a ha) fun _ o1 o2 o3=>?_
      exact(qe o3).trans (hSs _ _ (k7 _ _ o1 o2 (hS _ _ e)))
     ·rw[ecs,ect] at hm
      refine qch hm fun dx t1 t2 t3 e=>?_
      refine⟨dx,t1,t2,t3,(qe fun q=>?_).trans e⟩
      rw[q,r7] at hr;exact o_sn hr
    ·intro a ha
     rcases List.mem_append.mp ha with ha | ha
     ·exact .inl (old a ha).1
     ·refine substr (List.mem_singleton.mp ha) ?_;exact .inr hrc
   ·have he:1+((so.drop (k+1)).filterMap id).count x=(to.filterMap id).count x:=by
     rw[ecs,ect] at hb;simp at hb;exact qr4 hb
    rw[if_pos he,List.nil_append] at hgg
    refine qy (qy (fin2 _ _ ads out c6 (fun a d n1 n2 _ e=>k7 a d n1 n2 e) s7 t6 r7 (j.mis.to fun a ha o e=>?_) (fun a ha=>.inl (old a ha).1) (qjd l3) hgg))
    refine qdq (old a ha) fun _ o1 o2 o3=>?_
    exact k7 _ _ o1 o2 (hS _ _ e)
 ·rintro M2 Hk ⟨so,to,ads,out,c,j,l1,l2,l3,hg⟩
  rw[length_map,length_map] at hg l3
  rw[List.drop_eq_nil_of_le (qji l1),List.filterMap_nil,qiS] at hg
  have hg0:=hg
  have j9:=j
  have c9:=c
  clear hg
  refine qh7 (l:=t) (xs:=to.map (nv NL)) ok'.hand (fun a=>a=t\/a=rs) (CdD H NL s t rs xs.length ys.length tgt)
   (by
    obtain⟨cs,ct,cm,cn,cnl,crs⟩:=c
    walk_at "n"
    refine⟨rfl,?_⟩
    walk_at "n"
    exact(iAA rfl rfl rfl)) j.t rfl (fun a ha=>?_) ⟨so,to,ads,out,c,j,l2,by exact qr5 l3,by refine substr List.drop_zero ?_;exact hg0⟩ ?_ ?_ ?_
  ·rcases ha with rfl | rfl
   ·exact⟨_,j.t⟩
   ·exact⟨_,j.rs⟩
  ·rintro k M' Hk ⟨so',to',ads,out,c,j,l2',l3,hg⟩
   exact iEA _ j.t (by simp[l2',l2])
  ·clear j9 c9 j c hg0 l3
   rintro k M' Hk Hc v hk ⟨so,to2,ads,out,c,j,l2',l3,hg⟩ hS ⟨T,p,hv,hT,ys',hys,hp⟩
   rw[length_map,l2] at hk
   clear l1 l2
   have l2:=l2'
   have hys2:=qgD (j.t.symm.trans hys)
   subst hys2
   obtain⟨z,hz,rfl⟩:∃ z,to2[k]?=some z/\p=nv NL z:=by
    rw[getElem?_map] at hp
    refine oEA (Option.map_eq_some_iff.mp hp) fun z hz e=>?_
    exact iEA z hz e.symm
   refine qbP ok'.hand hT ?_ _ hv
   refine qj ?_;walk_at "s"
   refine qj ?_;walk_at "s"
   refine qN ?_
   have c1:=(c.put (x := "i") (v:=I k) (by decide)).put (x := "elem") (v:=nv NL z) (by decide)
   have i1:look "i" (put "elem" (nv NL z) (put "i" (I k) M'))=some (I k):=by walk_at "l"
   have e1:look "elem" (put "elem" (nv NL z) (put "i" (I k) M'))=some (nv NL z):=by walk_at "l"
   generalize put "elem" (nv NL z) (put "i" (I k) M')=M2 at c1 i1 e1
   have c1':=c1
   obtain⟨cs,ct,cm,cn,cnl,crs⟩:=c1'
   refine qbp (qO ?_)
   walk_at "n"
   walk_at "n"
   cases z with
   | none=>
    refine qfg (asB ⟨fun _=>qf0 ⟨Kp.refl,Hk,hS,fun a d e=>.inl ⟨_,e⟩,so,to2,ads,out,c1,j,l2,by exact qr6 l3,?_⟩,fun h=>by cases h⟩)
    refine substr (qiU hz).symm ?_;exact hg
   | some x=>
    refine qiJ (asB ⟨fun h=>(by cases h),fun _=>qy ?_⟩)
    refine qI (qw ?_)
    walk_at "s"
    have e1:look "elem" M2=some (S x):=e1
    have c3:=c1.put (x := "cnt_t") (v:=I 0) (by decide)
    have i3:look "i" (put "cnt_t" (I 0) M2)=some (I k):=by walk_at "l"
    have e3:look "elem" (put "cnt_t" (I 0) M2)=some (S x):=by walk_at "l"
    have s3:look "cnt_t" (put "cnt_t" (I 0) M2)=some (I (((to2.drop k).take 0).count (some x):Nat)):=by refine substr List.take_zero ?_;exact(by walk_at "l":look "cnt_t" (put "cnt_t" (I 0) M2)=some (I 0))
    generalize put "cnt_t" (I 0) M2=M3 at c3 i3 e3 s3
    have hsc:=hS _ _ j.t
    have hNLc:=hS _ _ j.nl
    have c3':=c3
    obtain⟨d1,d2,d3,d4,d5,d6⟩:=c3'
    refine qdG (n:=((ys.length:Int)-(k:Int)).toNat) (fr:=fun _=>False) (fun a=>a=t) (CdE NL s t rs xs.length ys.length x to2 k Hc)
     (qeq ok'.hand (A:=(k:Int)) (N:=(ys.length:Int)) (by
      walk_at "n"
      refine⟨rfl,?_⟩
      walk_at "n"
      refine⟨rfl,?_⟩
      walk_at "n"
      exact(iAA rfl rfl Sub.refl)) (qhr) (qmT ly hk) (qhr) (qlF ly) rfl) (fun a ha=>⟨by subst ha;exact⟨_,hsc⟩,fun f=>f⟩) ⟨by exact qmU hk l2',c3,by assumption,by assumption,by refine substr (qot ..) ?_;exact hsc,fun a d _ e=>e⟩ ?_ ?_
    ·rintro q M4 Hk4 Hc4 v4 hq4 ⟨hle,c4,el4,cs4,s4,k4⟩ hS4 hv4
     refine qar hv4 ?_
     walk_at "s"
     have c5:=c4.put (x := "j") (v:=I ((k:Int)+q)) (by decide)
     have el5:look "elem" (put "j" (I ((k:Int)+q)) M4)=some (S x):=by walk_at "l"
     have cs5:look "cnt_t" (put "j" (I ((k:Int)+q)) M4)=some (I (((to2.drop k).take q).count (some x):Nat)):=by walk_at "l"
     have j5:look "j" (put "j" (I ((k:Int)+q)) M4)=some (I ((k:Int)+q)):=by walk_at "l"
     skip
     generalize put "j" (I ((k:Int)+q)) M4=M5 at c5 el5 cs5 j5
     have hlt:k+q<to2.length:=qmV l2' hq4
     obtain⟨z',hz'⟩:∃ z',to2[k+q]?=some z':=⟨_,getElem?_eq_getElem hlt⟩
     refine oAA (qfl x hz') fun f1 f2 f3=>?_
     have hN4:Hc4 NL=some (.plain "object"):=hS4 _ _ (k4 _ _ (fun e=>by rw[e] at hNLc;rw[hsc] at hNLc;cases hNLc) hNLc)
     have c5':=c5
     obtain⟨b1,b2,b3,b4,b5,b6⟩:=c5'
     refine qbp (qO (qW ?_))
     walk_at "n"
     walk_at "n"
     refine qb0 (p:=nv NL z') (hS4 _ _ s4) (qmW) (qmX ly l2' hlt) (by refine substr (show((k:Int)+(q:Int)).toNat=k+q by exact qmY) (substr getElem?_map (substr f1 ?_));rfl) ?_
     walk_at "n"
     refine qj4 hN4 hU (asB ⟨fun hb=>?_,fun hb=>?_⟩)
     ·have hz:z'=some x:=by simpa using hb
      rw[if_pos hz] at f2 f3
      refine qbs (by walk_at "d") (qw (qa7 ?_))
      walk_at "s"
      refine qh6 ?_
      walk_at "n"
      walk_at "n"
      walk_at "n"
      refine(qec t _ (k+q) rfl rfl (hS4 _ _ s4) (by refine substr (length_map ..) (substr (qgC _ _ _ _ hle) ?_);exact hlt) (qmZ ly l2' hlt) (qy (qy ⟨Kp.at Kp.refl rfl,upd Hk4 t (lst ((lkk x to2 k (q+1)).map (nv NL))),?_,qib s4,?_⟩)))
      ·refine substr f2 (substr List.map_set ?_);exact qfm hS4
      ·refine⟨by exact qg8 hlt,c5.put (by decide),by walk_at "l",by refine substr f3 ?_;exact qbj,upd_same,fun a d n1 e=>(qe n1).trans (k4 a d n1 e)⟩
     ·have hz:¬ z'=some x:=by simpa using hb
      rw[if_neg hz] at f2 f3
      refine qy (qy ⟨Kp.refl,Hk4,hS4,fun a d e=>.inl ⟨_,e⟩,by exact qg8 hlt,c5,by walk_at "l",by refine substr f3 (substr (Nat.add_zero ..) ?_);exact cs5,by refine substr f2 ?_;exact s4,k4⟩)
    rintro M4 Hk4 ⟨hle,c4,el4,cs4,s4,k4⟩
    have hn1:((ys.length:Int)-(k:Int)).toNat=to2.length-k:=qm0 l2'
    rw[hn1] at cs4 s4
    rw[qou x to2 k (qg9 hk l2')] at s4
    rw[List.take_of_length_le (l:=to2.drop k) (by refine substr length_drop ?_;exact Nat.le_refl _)] at cs4
    have nNt:NL≠t:=fun e=>by rw[e,hsc] at hNLc;cases hNLc
    have nNr:NL≠rs:=fun e=>by have:=j.nl;rw[e,j.rs] at this;cases this
    have ecs:(to2.drop k).count (some x)=1+((to2.drop (k+1)).filterMap id).count x:=by refine substr (qc7 ..).symm (substr (qeT hz) (substr List.count_cons_self (substr (Nat.add_comm ..) rfl)))
    have old:∀ a∈ads,(∃ d,Hk a=some d)/\a≠t/\a≠rs:=fun a ha=>by
     obtain⟨o,e⟩:=j.mis.mem a ha
     refine(iAA ⟨_,e⟩ (fun q=>?_) (fun q=>?_))
     ·rw[q,j.t] at e;cases e
     ·rw[q,j.rs] at e;cases e
    have hgg:=hg
    rw[qeT hz,qmf] at hgg
    have c4':=c4
    obtain⟨d1,d2,d3,d4,d5,d6⟩:=c4'
    have r7:Hk4 rs=some (lst (ads.map Value.ref)):=k4 _ _ nrt (hS _ _ j.rs)
    refine qI (qF ?_)
    walk_at "n"
    refine qad (qp (qh5 ok') (qd (qw (qd ?_))))
    walk_at "n"
    refine qd ?_
    walk_at "n"
    refine qi (qk8 (n:=n+1) ok' fun r Hs hSs hr hm=>?_)
    walk_at "s"
    refine qaq (qa2 F.slot_list_append F.type_list_append ?_) ke
    walk_at "n"
    have r8:=hSs _ _ r7
    refine⟨rs,_,rfl,r8,qp qu (qd ?_)⟩
    walk_at "n"
    have ladd:=j.mis.len
    have hrc:Hc r=none:=by
     cases q:Hc r with
     | none=>rfl
     | some d=>
      by_cases q2:r=t
      ·rw[q2,s4] at hr;exact o_sn hr
      ·have:=k4 _ _ q2 q;rw[hr] at this;exact o_ns this
    refine qi (qbB r8 (by refine substr (length_map ..) ?_;exact qr7 lx ly big hk l3 ladd) ⟨rfl,qy ⟨fun a d nx e=>?_,rst (fun a=>(∃ d,Hk a=some d)\/a∈ads++[r]) (upd Hs rs (lst (ads.map Value.ref++[.ref r]))),qgA,fun a d e=>(qgB e).elim .inl fun ha=>?_,so,to2.take k++bl x (to2.drop k),ads++[r],out++[(0,1+((to2.drop (k+1)).filterMap id).count x,x)],c4.put (by decide),⟨?_,?_,?_,?_,?_,fun a d e=>?_⟩,?_,by simp;exact qr8 l3,?_⟩⟩)
    ·simp only[not_or] at nx
     exact(qe nx.2).trans (hSs _ _ (k4 a d nx.1 e))
    ·rcases List.mem_append.mp ha with ha | ha
     ·exact .inl (old a ha).1
     ·refine substr (List.mem_singleton.mp ha) ?_;exact .inr hrc
    ·exact(qas (.inl ⟨_,j.nl⟩)).trans ((qe nNr).trans (hSs _ _ (k4 _ _ nNt hNLc)))
    ·exact(qas (.inl ⟨_,j.s⟩)).trans ((qe (Ne.symm nrs)).trans (hSs _ _ (k4 _ _ nst (hS _ _ j.s))))
    ·exact(qas (.inl ⟨_,j.t⟩)).trans ((qe (Ne.symm nrt)).trans (hSs _ _ s4))
    ·refine(qas (.inl ⟨_,j.rs⟩)).trans ?_
     refine substr upd_same (substr map_append ?_);rfl
    ·refine MisAll.app (j.mis.to fun a ha o e=>?_) ?_
     ·refine oAA (old a ha) fun _ o2 o3=>?_
      exact(qas (.inr (List.mem_append_left _ ha))).trans ((qe o3).trans (hSs _ _ (k4 _ _ o2 (hS _ _ e))))
     ·rw[ecs] at hm
      refine qch hm fun dx t1 t2 t3 e=>?_
      refine⟨dx,t1,t2,t3,(qas (.inr (List.mem_append_right _ (List.mem_singleton.mpr rfl)))).trans ((qe fun q=>?_).trans e)⟩
      rw[q,r7] at hr;exact o_sn hr
    ·refine(qas (.inl ⟨_,j.keep _ _ e⟩)).trans ((qe fun q=>?_).trans (hSs _ _ (k4 a d (fun q=>?_) (hS _ _ (j.keep _ _ e)))))
     ·rw[q,hrs'] at e;exact o_ns e
     ·rw[q,ht0'] at e;exact o_ns e
    ·refine substr (qiV (qg9 hk l2')) (substr l2 rfl)
    ·refine substr (qic hz) (substr (List.append_assoc ..) ?_);exact hgg
  ·rintro M3 Hk3 ⟨so,to,ads,out,c,j,l2',l3,hg⟩
   rw[length_map,l2] at hg
   rw[List.drop_eq_nil_of_le (qji l2'),List.filterMap_nil,qiR,List.append_nil] at hg
   obtain⟨cs,ct,cm,cn,cnl,crs⟩:=c
   refine qaw ?_
   walk_at "n"
   exact iEA Hk3 Sub.refl (h rs ads Hk3 j.keep j.rs (by refine substr hg.symm ?_;exact j.mis))
section
open PySem.Spec
theorem qeU{x y:Str}(h:x.cps.toList=y.cps.toList):x=y:=by
 cases x;cases y;simp only[Str.mk.injEq];exact Array.toList_inj.mp h
theorem qbx(x:Str):ltS x x=false:=strKind.irrefl x.cps.toList
theorem qex{x y:Str}(h:ltS x y=true):ltS y x=false:=KeyOrd.klt_asymm (O:=strKind.toKeyOrd) (a:=x.cps.toList) (b:=y.cps.toList) h
theorem qeV{x y:Str}(h:ltS x y=false)(k:ltS y x=false):x=y:=qeU (strKind.total x.cps.toList y.cps.toList h k)
theorem qla{x y z:Str}(h:ltS y x=false)(k:ltS z y=false):ltS z x=false:=KeyOrd.kle_trans (O:=strKind.toKeyOrd) (a:=x.cps.toList) (b:=y.cps.toList) (c:=z.cps.toList) h k
theorem qqQ(x y:Str):ltCps x.cps.toList y.cps.toList=ltS x y:=ltCps_eq _ _
noncomputable def leS(a b:Str):Prop:=ltS b a=false
theorem qgV:∀(p:Str) (l:List Str),risingS p l=true->(p::l).Pairwise leS
 | p,[],_=>List.pairwise_singleton ..
 | p,x::r,h=>by
  simp only[risingS,Bool.and_eq_true,Bool.not_eq_true'] at h
  have ih:=qgV x r h.2
  have h1:leS p x:=by have:=h.1;rw[qqQ] at this;exact this
  refine List.pairwise_cons.mpr ⟨fun y hy=>?_,ih⟩
  rcases List.mem_cons.mp hy with rfl | hy
  ·exact h1
  ·exact qla h1 ((List.pairwise_cons.mp ih).1 y hy)
theorem qdY:∀ l:List Str,sortedS l=true->l.Pairwise leS
 | [],_=>.nil
 | x::r,h=>qgV x r h
theorem qe7{xs ys:List Str}(hp:xs.Perm ys)(hx:xs.Pairwise leS)(hy:ys.Pairwise leS):xs=ys:=
 List.Perm.eq_of_pairwise (le:=leS) (fun a b _ _ h1 h2=>qeV h2 h1) hx hy hp
noncomputable abbrev Strict(ns:List Str):Prop:=ns.Pairwise (fun a b=>ltS a b=true)
theorem Strict.sub{ns ms:List Str}(h:Strict ns)(s:ms.Sublist ns):Strict ms:=List.Pairwise.sublist s h
theorem Strict.le{ns:List Str}(h:Strict ns):ns.Pairwise leS:=h.imp fun h=>qex h
theorem Strict.ne{n:Str}{r:List Str}(h:Strict (n::r)):∀ x∈r,ltS n x=true/\ltS x n=false/\(x==n)=false:=fun x hx=>by
 have h1:=(List.pairwise_cons.mp h).1 x hx
 refine(iAA h1 (qex h1) ?_)
 simp only[beq_eq_false_iff_ne,ne_eq]
 rintro rfl
 rw[qbx] at h1;cases h1
theorem qf2{n:Str}{l:List Str}(h:∀ x∈l,(x==n)=false):l.dropWhile (·==n)=l:=by
 cases l with
 | nil=>rfl
 | cons x r=>refine substr List.dropWhile_cons ?_;simp[h x (mem_cons_self ..)]
theorem qov{n:Str}{l:List Str}(h:∀ x∈l,(x==n)=false):∀ k:Nat,(List.replicate k n++l).dropWhile (·==n)=l
 | 0=>by simpa using qf2 h
 | k+1=>by refine substr List.replicate_succ (substr List.cons_append (substr List.dropWhile_cons ?_));simp[qov h k]
theorem qcS{a:Str->Bool}{r:List Str}{P:Str->Prop}(h:∀ x∈r,P x):∀ x∈r.filter a,P x:=fun x hx=>h x (List.mem_filter.mp hx).1
theorem qe8(a b:Str->Bool):∀(ns:List Str) (k:Nat),Strict ns->(ns.filter a).length+(ns.filter b).length<=k->
 qaA k (ns.filter a) (ns.filter b)=(ns.filter (fun n=>a n&&!b n),ns.filter (fun n=>b n&&!a n))
 | [],k,_,_=>by rw[List.filter_nil,List.filter_nil,qcg];simp
 | n::r,k,hs,hk=>by
  have hr:=(List.pairwise_cons.mp hs).2
  have hne:=hs.ne
  have ih:=fun k=>qe8 a b r k hr
  cases ha:a n<;>cases hb:b n
  ·simp only[List.filter_cons,ha,hb,Bool.false_eq_true,if_false,Bool.false_and,Bool.not_false] at hk ⊢
   exact ih k hk
  ·simp only[List.filter_cons,ha,hb,Bool.false_eq_true,if_false,if_true,Bool.false_and,Bool.not_false,Bool.true_and] at hk ⊢
   cases hxs:r.filter a with
   | nil=>
    refine substr (qcg ..) ?_
    have e:∀ x∈r,a x=false:=fun x hx=>by
     cases q:a x with
     | false=>rfl
     | true=>have:=List.mem_filter.mpr ⟨hx,q⟩;rw[hxs] at this;cases this
    have e1:r.filter (fun n=>a n&&!b n)=[]:=List.filter_eq_nil_iff.mpr fun x hx=>by refine substr (e x hx) ?_;simp
    have e2:r.filter (fun n=>b n&&!a n)=r.filter b:=List.filter_congr fun x hx=>by refine substr (e x hx) ?_;simp
    refine substr e1 (substr e2 rfl)
   | cons y ys=>
    obtain⟨k',rfl⟩:∃ k',k=k'+1:=⟨k-1,by simp only[length_cons] at hk;exact qnC hk⟩
    have hy:y∈r:=(List.mem_filter.mp (by refine substr hxs ?_;exact mem_cons_self ..:y∈r.filter a)).1
    have h1:=hne y hy
    refine substr qcr ?_
    refine substr (if_neg (by refine substr h1.2.1 ?_;decide)) (substr (if_pos h1.1) (substr (qf2 (qcS fun x hx=>(hne x hx).2.2)) (substr hxs.symm (substr (ih k' (by rw[hxs] at *;simp only[length_cons] at hk ⊢;exact qtW hk)) rfl))))
  ·simp only[List.filter_cons,ha,hb,Bool.false_eq_true,if_false,if_true,Bool.false_and,Bool.not_false,Bool.true_and] at hk ⊢
   cases hys:r.filter b with
   | nil=>
    refine substr (qdm ..) ?_
    have e:∀ x∈r,b x=false:=fun x hx=>by
     cases q:b x with
     | false=>rfl
     | true=>have:=List.mem_filter.mpr ⟨hx,q⟩;rw[hys] at this;cases this
    have e1:r.filter (fun n=>b n&&!a n)=[]:=List.filter_eq_nil_iff.mpr fun x hx=>by refine substr (e x hx) ?_;simp
    have e2:r.filter (fun n=>a n&&!b n)=r.filter a:=List.filter_congr fun x hx=>by refine substr (e x hx) ?_;simp
    refine substr e1 (substr e2 rfl)
   | cons y ys=>
    obtain⟨k',rfl⟩:∃ k',k=k'+1:=⟨k-1,by simp only[length_cons] at hk;exact qnD hk⟩
    have hy:y∈r:=(List.mem_filter.mp (by refine substr hys ?_;exact mem_cons_self ..:y∈r.filter b)).1
    have h1:=hne y hy
    refine substr qcr ?_
    refine substr (if_pos h1.1) (substr (qf2 (qcS fun x hx=>(hne x hx).2.2)) (substr hys.symm (substr (ih k' (by rw[hys] at *;simp only[length_cons] at hk ⊢;exact qtX hk)) rfl)))
  ·simp only[List.filter_cons,ha,hb,Bool.false_eq_true,if_false,if_true,Bool.true_and,Bool.not_true] at hk ⊢
   obtain⟨k',rfl⟩:∃ k',k=k'+1:=⟨k-1,by simp only[length_cons] at hk;exact qnE hk⟩
   refine substr qcr ?_
   refine substr (if_neg (by refine substr (qbx ..) ?_;decide)) (substr (if_neg (by refine substr (qbx ..) ?_;decide)) (substr (qf2 (qcS fun x hx=>(hne x hx).2.2)) (substr (qf2 (qcS fun x hx=>(hne x hx).2.2)) (substr (ih k' (by simp only[length_cons] at hk;exact qtY hk)) rfl))))
theorem qdn(a b:Str->Bool):∀ ns:List Str,(ns.filter (fun n=>xor (a n) (b n))).Perm (ns.filter (fun n=>a n&&!b n)++ns.filter (fun n=>b n&&!a n))
 | []=>.nil
 | n::r=>by
  have ih:=qdn a b r
  cases ha:a n<;>cases hb:b n
  ·simpa [List.filter_cons,ha,hb] using ih
  ·simp only[List.filter_cons,ha,hb,Bool.false_eq_true,if_false,if_true,Bool.false_and,Bool.not_false,Bool.true_and,Bool.false_xor]
   exact(List.Perm.cons n ih).trans List.perm_middle.symm
  ·simp only[List.filter_cons,ha,hb,Bool.false_eq_true,if_false,if_true,Bool.false_and,Bool.not_false,Bool.true_and,Bool.xor_false,List.cons_append]
   exact List.Perm.cons n ih
  ·simpa [List.filter_cons,ha,hb] using ih
theorem qd6{a b:Str->Bool}{ns zs:List Str}(hs:Strict ns)(hp:zs.Perm ((sld (ns.filter a) (ns.filter b)).1++(sld (ns.filter a) (ns.filter b)).2))(hz:sortedS zs=true):zs=ns.filter (fun n=>xor (a n) (b n)):=by
 unfold sld at hp
 rw[qe8 a b ns _ hs (Nat.le_refl _)] at hp
 exact qe7 (hp.trans (qdn a b ns).symm) (qdY _ hz) (hs.sub List.filter_sublist).le
end
section
open PySem.Spec
noncomputable def rp(f:Str->Nat):List Str->List Str
 | []=>[]
 | n::r=>List.replicate (f n) n++rp f r
theorem qf3{f:Str->Nat}{x:Str}:∀ {ns:List Str},x∈rp f ns->x∈ns/\0<f x
 | n::r,h=>by
  rcases List.mem_append.mp h with h | h
  ·obtain⟨h1,rfl⟩:=List.mem_replicate.mp h
   exact⟨mem_cons_self ..,by exact qtZ h1⟩
  ·exact⟨List.mem_cons_of_mem _ (qf3 h).1,(qf3 h).2⟩
theorem qfn(f:Str->Nat)(x:Str):∀ ns:List Str,(rp f ns).count x=f x*ns.count x
 | []=>rfl
 | n::r=>by
  show(List.replicate (f n) n++rp f r).count x=_
  refine substr List.count_append (substr (qfn f x r) (substr List.count_replicate (substr List.count_cons ?_)))
  by_cases h:n=x
  ·subst h;simp[Nat.mul_add,Nat.add_comm]
  ·simp[h]
theorem qow{f:Str->Nat}:∀ {ns:List Str},ns.Pairwise leS->(rp f ns).Pairwise leS
 | [],_=>.nil
 | n::r,h=>by
  refine List.pairwise_append.mpr (iAA (List.pairwise_replicate.mpr (.inr (qbx n))) (qow (List.pairwise_cons.mp h).2) (fun a ha b hb=>?_))
  obtain⟨_,rfl⟩:=List.mem_replicate.mp ha
  exact(List.pairwise_cons.mp h).1 b (qf3 hb).1
theorem qlb{f:Str->Nat}{ns zs:List Str}(hs:Strict ns)(hc:∀ x,zs.count x=f x*ns.count x)(hz:zs.Pairwise leS):zs=rp f ns:=
 qe7 (List.perm_iff_count.mpr fun x=>by refine substr (hc ..) (substr (qfn ..) rfl)) hz (qow hs.le)
theorem qab(a:Str->Bool)(x:Str)(ns:List Str):(ns.filter a).count x=(if a x then 1 else 0)*ns.count x:=by
 cases h:a x with
 | true=>refine substr (List.count_filter h) ?_;simp
 | false=>
  refine substr (List.count_eq_zero.mpr fun hm=>by have:=(List.mem_filter.mp hm).2;rw[h] at this;cases this) ?_;simp
theorem qgE(f g:Str->Nat)(z:Str):∀(ns:List Str) (k:Nat),Strict (ns++[z])->(rp f ns++[z]).length+(rp g ns++[z]).length<=k->
 qaA k (rp f ns++[z]) (rp g ns++[z])=(ns.filter (fun n=>decide (0<f n)&&decide (g n=0)),ns.filter (fun n=>decide (0<g n)&&decide (f n=0)))
 | [],k,_,hk=>by
  obtain⟨k',rfl⟩:∃ k',k=k'+1:=⟨k-1,by simp[rp] at hk;exact qt0 hk⟩
  show qaA (k'+1) [z] [z]=_
  refine substr qcr ?_
  refine substr (if_neg (by refine substr (qbx ..) ?_;decide)) (substr (if_neg (by refine substr (qbx ..) ?_;decide)) ?_)
  show qaA k' [] []=_
  refine substr (qcg ..) ?_;rfl
 | n::r,k,hs,hk=>by
  have hr:Strict (r++[z]):=(List.pairwise_cons.mp hs).2
  have hne:=Strict.ne (n:=n) (r:=r++[z]) hs
  have ih:=fun k=>qgE f g z r k hr
  have mem:∀(e:Str->Nat),∀ x∈rp e r++[z],x∈r++[z]:=fun e x hx=>by
   rcases List.mem_append.mp hx with h | h
   ·exact List.mem_append_left _ (qf3 h).1
   ·exact List.mem_append_right _ h
  have dr:∀(e:Str->Nat) (m:Nat),(List.replicate m n++(rp e r++[z])).dropWhile (·==n)=rp e r++[z]:=fun e m=>qov (fun x hx=>(hne x (mem e x hx)).2.2) m
  have hd:∀ e:Str->Nat,∃ y ys,rp e r++[z]=y::ys/\ltS n y=true/\ltS y n=false:=fun e=>by
   cases q:rp e r++[z] with
   | nil=>simp at q
   | cons y ys=>
    have:=hne y (mem e y (by refine substr q ?_;exact mem_cons_self ..))
    exact qbJ y ys rfl this.1 this.2.1
  show qaA k (List.replicate (f n) n++rp f r++[z]) (List.replicate (g n) n++rp g r++[z])=_
  have hk':(List.replicate (f n) n++rp f r++[z]).length+(List.replicate (g n) n++rp g r++[z]).length<=k:=hk
  rw[List.append_assoc,List.append_assoc] at hk' ⊢
  clear hk
  cases hf:f n with
  | zero=>
   cases hg:g n with
   | zero=>
    rw[hf,hg] at hk'
    simp only[List.replicate_zero,List.nil_append] at hk' ⊢
    refine substr (ih k hk') ?_
    simp[hf,hg]
   | succ m=>
    rw[hf,hg] at hk'
    simp only[List.replicate_zero,List.nil_append,List.replicate_succ,List.cons_append] at hk' ⊢
    obtain⟨k',rfl⟩:∃ k',k=k'+1:=⟨k-1,by simp only[length_cons] at hk';exact qnC hk'⟩
    refine qR (hd f) fun y ys e1 e2 e3=>?_
    refine substr e1 ?_
    refine substr qcr ?_
    refine substr (if_neg (by refine substr e3 ?_;decide)) (substr (if_pos e2) (substr e1.symm (substr (dr g m) (substr (ih k' (by simp only[length_cons,length_append,List.length_replicate] at hk' ⊢;exact qt1 hk')) ?_))))
    simp[hf,hg]
  | succ m=>
   cases hg:g n with
   | zero=>
    rw[hf,hg] at hk'
    simp only[List.replicate_zero,List.nil_append,List.replicate_succ,List.cons_append] at hk' ⊢
    obtain⟨k',rfl⟩:∃ k',k=k'+1:=⟨k-1,by simp only[length_cons] at hk';exact qnD hk'⟩
    refine qR (hd g) fun y ys e1 e2 e3=>?_
    refine substr e1 ?_
    refine substr qcr ?_
    refine substr (if_pos e2) (substr e1.symm (substr (dr f m) (substr (ih k' (by simp only[length_cons,length_append,List.length_replicate] at hk' ⊢;exact qt2 hk')) ?_)))
    simp[hf,hg]
   | succ m2=>
    rw[hf,hg] at hk'
    simp only[List.replicate_succ,List.cons_append] at hk' ⊢
    obtain⟨k',rfl⟩:∃ k',k=k'+1:=⟨k-1,by simp only[length_cons] at hk';exact qnE hk'⟩
    refine substr qcr ?_
    refine substr (if_neg (by refine substr (qbx ..) ?_;decide)) (substr (if_neg (by refine substr (qbx ..) ?_;decide)) (substr (dr f m) (substr (dr g m2) (substr (ih k' (by simp only[length_cons,length_append,List.length_replicate] at hk' ⊢;exact qt3 hk')) ?_))))
    simp[hf,hg]
end
noncomputable def qj5(c p:Nat):Bool:=decide ((c/2^p)%2≠0)
noncomputable def qT(c:Nat):List Nat:=(List.range 3).filter (qj5 c)
noncomputable def qgF(rows:List Str)(ps:List Nat):Str:=ps.foldl (fun m p=>qbR m (rows.getD p emp)) (Str.ofString "???")
noncomputable def qbV(cells:List Nat)(ps:List Nat):Nat:=(ps.map (fun p=>cells.getD p 0/27)).sum%4
noncomputable def qbc(rows:List Str)(c:Nat):Str:=qgF rows (qT c)
noncomputable def qfo(rows:List Str)(cells:List Nat)(c:Nat):Str:=qbS (qbc rows c) (qbV cells (qT c))
noncomputable def gP(rows:List Str)(cells:List Nat)(c:Nat)(n:Str):Bool:=decide ((qbc rows c).length≠0)&&qbb (qak (qag (qfo rows cells c))) n
noncomputable def qbg(g:Nat->Str->Bool)(names:List Str):Nat->List Str
 | 0=>[]
 | k+1=>if (qT (k+1)).length%2≠0 then qbg g names k++names.filter (g (k+1)) else qbg g names k
noncomputable def qa1(g:Nat->Str->Bool)(names:List Str):Nat->List Str
 | 0=>[]
 | k+1=>if (qT (k+1)).length%2≠0 then qa1 g names k else qa1 g names k++names.filter (g (k+1))
noncomputable def chG(g:Nat->Str->Bool):Nat->Str->Bool
 | 0,_=>false
 | k+1,n=>xor (chG g k n) (g (k+1) n)
noncomputable def siG(g:Nat->Str->Bool):Nat->Str->Bool
 | 0,_=>false
 | k+1,n=>if (qT (k+1)).length=1 then xor (siG g k n) (g (k+1) n) else siG g k n
theorem qgW:∀(l:List (Nat×Nat)) (acc:Str),(qdj l acc).length<=acc.length+l.length
 | [],acc=>Nat.le_refl _
 | p::r,acc=>by
  refine substr qgs ?_
  split
  ·show(Str.ofString "").length<=_
   refine substr (show(Str.ofString "").length=0 by decide +kernel) ?_;exact qr9
  ·refine Nat.le_trans (qgW r _) ?_
   refine substr (Str.length_append ..) (substr length_cons ?_)
   have:∀ b:Bool,(if b=true then qC p.2 else qC p.1).length=1:=fun b=>by cases b<;>rfl
   refine substr (this ..) ?_;exact qsa
theorem qmi(a b:Str):(qbR a b).length<=a.length:=by
 refine Nat.le_trans (qgW _ _) ?_
 refine substr (show(Str.ofString "").length=0 by decide +kernel) (substr (Nat.zero_add ..) ?_)
 unfold qcH
 refine substr List.length_zip ?_
 exact Nat.le_trans (Nat.min_le_left _ _) (by simp[Str.length])
theorem qfp(rows:List Str):∀(ps:List Nat) (m:Str),m.length<=3->(ps.foldl (fun m p=>qbR m (rows.getD p emp)) m).length<=3
 | [],m,h=>h
 | p::r,m,h=>qfp rows r _ (Nat.le_trans (qmi _ _) h)
theorem qgX(g:Nat->Str->Bool)(names:List Str):∀ k,(qa1 g names k).length<=k*names.length
 | 0=>Nat.zero_le _
 | k+1=>by
  have:=qgX g names k
  have h2:=List.length_filter_le (g (k+1)) names
  refine substr (show qa1 g names (k+1)=if (qT (k+1)).length%2≠0 then qa1 g names k else qa1 g names k++names.filter (g (k+1)) from rfl) ?_
  split
  ·exact Nat.le_trans this (Nat.mul_le_mul_right _ (Nat.le_succ _))
  ·refine substr length_append (substr (Nat.succ_mul ..) ?_);exact as0 this h2
theorem qid(g:Nat->Str->Bool)(names:List Str):∀ k,(qbg g names k).length<=k*names.length
 | 0=>Nat.zero_le _
 | k+1=>by
  have:=qid g names k
  have h2:=List.length_filter_le (g (k+1)) names
  refine substr (show qbg g names (k+1)=if (qT (k+1)).length%2≠0 then qbg g names k++names.filter (g (k+1)) else qbg g names k from rfl) ?_
  split
  ·refine substr length_append (substr (Nat.succ_mul ..) ?_);exact as0 this h2
  ·exact Nat.le_trans this (Nat.mul_le_mul_right _ (Nat.le_succ _))
theorem qpn{c p:Nat}(h1:c<8)(h2:p<3):(((((c:Int).fdiv ((2:Int)^((p:Int).toNat))).fmod 2) != 0)=qj5 c p):=by
 have:∀ c:Nat,c<8->∀ p:Nat,p<3->(((((c:Int).fdiv ((2:Int)^((p:Int).toNat))).fmod 2) != 0)=qj5 c p):=by decide
 exact this c h1 p h2
theorem qiX{p:Nat}(h2:p<3):((2:Int)^((p:Int).toNat))≠0/\((2:Int)^((p:Int).toNat)).natAbs<1073741824:=by
 have:∀ p:Nat,p<3->((2:Int)^((p:Int).toNat))≠0/\((2:Int)^((p:Int).toNat)).natAbs<1073741824:=by decide
 exact this p h2
theorem qfq(f:Nat->Nat):∀ ps:List Nat,(ps.map fun p=>((f p:Nat):Int)).sum=(((ps.map f).sum:Nat):Int)
 | []=>rfl
 | p::r=>by refine substr map_cons (substr List.sum_cons (substr (qfq f r) (substr map_cons (substr List.sum_cons ?_))));exact qm2
theorem qie{c p:Nat}(h:p∈qT c):p<3:=List.mem_range.mp (List.mem_filter.mp h).1
theorem qgG(c:Nat):(qT c).length<=3:=Nat.le_trans (List.length_filter_le _ _) (by simp)
theorem qj6{α β:Type}(f:β->α->β){l:List α}{q:Nat}{x:α}(h:l[q]?=some x)(b:β):(l.take (q+1)).foldl f b=f ((l.take q).foldl f b) x:=by
 refine substr List.take_add_one (substr h ?_);simp
theorem qcu{α β:Type}(f:α->β){l:List α}{q:Nat}{x:α}(h:l[q]?=some x):(l.take (q+1)).map f=(l.take q).map f++[f x]:=by
 refine substr List.take_add_one (substr h ?_);simp
theorem qpo{Mo:Model}{D:Dyn}{t:Sem Value}{M:Loc}{H:AH}{E:Value->Shared->Prop}{Φ Φ':Value->Loc->AH->Prop}(h:WV Mo D t M H Φ E)(hq:∀ a M' H',Φ a M' H'->Φ' a M' H'):WV Mo D t M H Φ' E:=qM h fun a=>hq (norm a)
theorem qaL{H:AH}{a b:Addr}{d:HO}(h:upd H a d b=none):H b=none:=by
 unfold upd at h;split at h;exact o_sn h;exact h
structure QL(R Nn O Ev Si Ch:Addr)(M:Loc):Prop where
 rows:look "rows" M=some (.ref R)
 names:look "names" M=some (.ref Nn)
 odd:look "odd" M=some (.ref O)
 even:look "even" M=some (.ref Ev)
 single:look "single" M=some (.ref Si)
 chain:look "chain" M=some (.ref Ch)
theorem QL.put{R Nn O Ev Si Ch:Addr}{M:Loc}{x:String}{v:Value}(c:QL R Nn O Ev Si Ch M)(h:x ∉ ["rows", "names", "odd", "even", "single", "chain"]):QL R Nn O Ev Si Ch (put x v M):=by
 simp only[List.mem_cons,List.not_mem_nil,or_false,not_or] at h
 refine qht h fun h1 h2 h3 h4 h5 h6=>?_
 exact⟨qbE (Ne.symm h1) c.rows,qbE (Ne.symm h2) c.names,qbE (Ne.symm h3) c.odd,qbE (Ne.symm h4) c.even,qbE (Ne.symm h5) c.single,qbE (Ne.symm h6) c.chain⟩
structure QH(H Hk:AH)(cc ce C O Ev Si Ch:Addr)(o e s c:List Str):Prop where
 ce:Hk ce=some (.cell (some (.ref C)))
 cc:∃ u,Hk cc=some (.cell u)
 odd:Hk O=some (lst (o.map S))
 even:Hk Ev=some (lst (e.map S))
 single:Hk Si=some (lst (s.map S))
 chain:Hk Ch=some (lst (c.map S))
 ne:O≠Ev
 keep:∀ a d,H a=some d->Hk a=some d
inductive PlJ(H:AH)(cc ce C R Nn:Addr)(g:Nat->Str->Bool)(names:List Str)(k:Nat)(M:Loc)(Hk:AH):Prop
 | mk(O Ev Si Ch:Addr)(q:QL R Nn O Ev Si Ch M)(h:QH H Hk cc ce C O Ev Si Ch (qbg g names k) (qa1 g names k) (names.filter (siG g k)) (names.filter (chG g k)))
inductive PlM(H3:AH)(R Nn O Ev Si Ch cho:Addr)(rows:List Str)(ps:List Nat)(q:Nat)(M:Loc)(Hq:AH):Prop
 | mk(hH:Hq=H3)(ql:QL R Nn O Ev Si Ch M)(c:look "chosen" M=some (.ref cho)) (m:look "met" M=some (S (qgF rows (ps.take q))))
inductive PlS(R Nn O Ev Ch cho G:Addr)(H8 Hk Hc:AH)(ns:List Str)(M:Loc)(H9:AH):Prop
 | mk(Si:Addr)(ql:QL R Nn O Ev Si Ch M)(c:look "chosen" M=some (.ref cho)) (g:look "got" M=some (.ref G)) (s:Sub H8 H9) (h:H9 Si=some (lst (ns.map S))) (o:(∃ d,Hk Si=some d)\/Hc Si=none)
inductive PlG(M5:Loc)(H5:AH)(ns:List Str)(v:Value)(M':Loc)(H':AH):Prop
 | mk(hM:M'=M5)(G:Addr)(hv:v=.ref G)(s:Sub H5 H')(h:H' G=some (lst (ns.map S)))
theorem qmj(ok:Ok (KF w.params) glob q7 D (n+5))(hn:8<=n){R C Nn:Addr}{rows names:List Str}{cells:List Nat}(hR:H R=some (lst (rows.map S)))(hC:H C=some (lst (cells.map fun i:Nat=>I (i:Int))))(hN:H Nn=some (lst (names.map S)))
 (l3:rows.length=3) (c3:cells.length=3) (hr:∀ x∈rows,x.length<=1000) (hns:names.length<=8) (hnm:∀ x∈names,x.length<=1000) (hst:Strict names)
 (hg:∀ c,1<=c->c<8->(qbc rows c).length≠0->0<(Txt.split (qbc rows c) qm).length/\(qbL (qbc rows c)).length<=1000/\qbH (qfo rows cells c)=true)
 (h:∀ T O Ev Si Ch Hs,Sub H Hs->Hs T=some (tup [.ref O,.ref Ev,.ref Si,.ref Ch])->O≠Ev->Hs O=some (lst ((qbg (gP rows cells) names 7).map S))->Hs Ev=some (lst ((qa1 (gP rows cells) names 7).map S))->
  Hs Si=some (lst ((names.filter (siG (gP rows cells) 7)).map S))->Hs Ch=some (lst ((names.filter (chG (gP rows cells) 7)).map S))->Φ (.ref T) M Hs):
 ∀ vs,vs.map norm=[.ref R,.ref C,.ref Nn]->WV (model prog w) D (call (.ref 269) vs) M H Φ E:=by
 refine qhX ok (by rfl) (by rfl) ["rows", "cells", "names"] [("rows",.local),("cells",.cell),("names",.local),("odd",.local),("even",.local),("single",.local),("chain",.local),("choice",.cell),("place",.local),("chosen",.local),("met",.local),("dress",.local),("got",.local),("range",.globalImplicit),("len",.globalImplicit),("_law_met",.globalImplicit),("sum",.globalImplicit),("_law_taken",.globalImplicit),("_law_dressed",.globalImplicit),("_law_either",.globalImplicit)]
  ["choice", "cells"] [none,some (.ref C)] [("rows",.ref R),("names",.ref Nn)] ?hb (by rfl) (by rfl) (by rfl) ?hk (by decide +kernel) (fun _=>rfl) ?hC ?hM ?_
 case hb=>intro vs h;(refine qd9 (ex3 h) fun a b c e3'=>?_;obtain rfl:=e3');rfl
 case hk=>
  intro n x hx
  simp at hx
  rcases hx with rfl | rfl | rfl
  ·exact .inl (by rfl)
  ·exact .inr ⟨by rfl,by rfl⟩
  ·exact .inl (by rfl)
 case hC=>
  intro kof hk vs hvs
  (refine qaC (qeg hvs) fun v u x e3' hv hu hx=>?_;obtain rfl:=e3')
  have e:=(bC1 (v:=v) (r:=[(Str.ofString "cells",u),(Str.ofString "names",x)]) (m:=fun _=>none) (hk "rows")).trans ((bC0 (hk "cells")).trans (bC1 (hk "names")))
  exact(cl2 ((congrFun e _).trans (if_neg (by decide +kernel))) ((congrFun e _).trans (if_pos rfl))).trans (congrArg (fun o=>[none,some o]) hu)
 case hM=>
  intro kof hk vs hvs
  (refine qaC (qeg hvs) fun v u x e3' hv hu hx=>?_;obtain rfl:=e3')
  exact qeR ((bL1 (hk "rows")).trans ((bL0 (hk "cells")).trans (bL1 (hk "names")))) (hx▸hv▸(mrep_nil.put (x := "rows") (v:=v)).put (x := "names") (v:=x))
 intro D' env ok' ke hlo hf hcells gone
 have big:(1000000:Nat)<=sizeLine:=by decide
 have hc0:env.cells=[(Str.ofString "choice",D'.L+1+1),(Str.ofString "cells",D'.L+1)]:=hcells
 refine substr hc0 ?_
 have hc1:env.cells.lookup (Str.ofString "choice")=some (D'.L+1+1):=by refine substr hc0 ?_;exact lookup_cons_self
 have hc2:env.cells.lookup (Str.ofString "cells")=some (D'.L+1):=by
  refine substr hc0 (substr List.lookup_cons ?_)
  have e:(Str.ofString "cells" == Str.ofString "choice")=false:=by decide +kernel
  refine substr e ?_;exact lookup_cons_self
 have g1:H (D'.L+1)=none:=gone _ (Nat.le_succ _)
 have g2:H (D'.L+1+1)=none:=gone _ (Nat.le_trans (Nat.le_succ _) (Nat.le_succ _))
 have gne:D'.L+1+1≠D'.L+1:=Nat.succ_ne_self _
 show WS (model prog w) D' _ _ (upd (upd H (D'.L+1) (.cell (some (.ref C)))) (D'.L+1+1) (.cell none)) _ _
 generalize D'.L+1+1=cc at hc1 g2 gne
 generalize D'.L+1=ce at hc2 g1 gne
 have g2':upd H ce (.cell (some (.ref C))) cc=none:=(qe gne).trans g2
 have kp0:Sub H (upd (upd H ce (.cell (some (.ref C)))) cc (.cell none)):=(Sub.upd g1).trans (Sub.upd g2')
 have e0:(upd (upd H ce (.cell (some (.ref C)))) cc (.cell none)) ce=some (.cell (some (.ref C))):=qx g2' upd_same
 have e1:(upd (upd H ce (.cell (some (.ref C)))) cc (.cell none)) cc=some (.cell none):=upd_same
 generalize upd (upd H ce (.cell (some (.ref C)))) cc (.cell none)=H0 at kp0 e0 e1
 refine qfQ ok'.hand (qaa (qd (qae (qi ⟨qJ rfl,fun O hO=>qd (qae (qi ⟨qJ rfl,fun Ev hEv=>qd (qae (qi ⟨qJ rfl,fun Si hSi=>qd (qae (qi ⟨qJ rfl,fun Ch hCh=>?_⟩))⟩))⟩))⟩))))
 refine qi ⟨qJ rfl,fun T hT=>⟨T,_,rfl,upd_same,?_⟩⟩
 refine qj ?_;walk_at "s"
 refine qj ?_;walk_at "s"
 refine qj ?_;walk_at "s"
 refine qj ?_;walk_at "s"
 refine qN ?_
 have q0:QL R Nn O Ev Si Ch (put "chain" (Value.ref Ch) (put "single" (Value.ref Si) (put "even" (Value.ref Ev) (put "odd" (Value.ref O) [("rows",Value.ref R),("names",Value.ref Nn)])))):=⟨by walk_at "l",by walk_at "l",by walk_at "l",by walk_at "l",by walk_at "l",by walk_at "l"⟩
 generalize put "chain" (Value.ref Ch) (put "single" (Value.ref Si) (put "even" (Value.ref Ev) (put "odd" (Value.ref O) [("rows",Value.ref R),("names",Value.ref Nn)])))=M1 at q0
 have sub0:Sub H0 (upd (upd (upd (upd (upd H0 O (lst [])) Ev (lst [])) Si (lst [])) Ch (lst [])) T (tup [.ref O,.ref Ev,.ref Si,.ref Ch])):=((((Sub.upd hO).trans (Sub.upd hEv)).trans (Sub.upd hSi)).trans (Sub.upd hCh)).trans (Sub.upd hT)
 have h0:QH H (upd (upd (upd (upd (upd H0 O (lst [])) Ev (lst [])) Si (lst [])) Ch (lst [])) T (tup [.ref O,.ref Ev,.ref Si,.ref Ch])) cc ce C O Ev Si Ch (qbg (gP rows cells) names 0) (qa1 (gP rows cells) names 0) (names.filter (siG (gP rows cells) 0)) (names.filter (chG (gP rows cells) 0)):=by
  refine⟨sub0 _ _ e0,⟨_,sub0 _ _ e1⟩,?_,?_,?_,?_,qG hEv upd_same,fun a d e=>sub0 _ _ (kp0 _ _ e)⟩
  ·walk_at "h"
  ·walk_at "h"
  ·refine substr (List.filter_eq_nil_iff.mpr (fun x _=>Bool.false_ne_true)) ?_;walk_at "h"
  ·refine substr (List.filter_eq_nil_iff.mpr (fun x _=>Bool.false_ne_true)) ?_;walk_at "h"
 generalize upd (upd (upd (upd (upd H0 O (lst [])) Ev (lst [])) Si (lst [])) Ch (lst [])) T (tup [.ref O,.ref Ev,.ref Si,.ref Ch])=H1 at h0
 clear hT hCh hSi hEv hO kp0 e0 e1 sub0
 refine qdG (n:=((8:Int)-1).toNat) (fr:=fun _=>False) (fun a=>a=cc) (PlJ H cc ce C R Nn (gP rows cells) names)
  (qeq ok'.hand (A:=1) (N:=8) (by
   obtain⟨w1,w2,w3,w4,w5,w6⟩:=q0
   walk_at "n"
   refine⟨rfl,qw ⟨rfl,qK (qw (qF ?_))⟩⟩
   walk_at "n"
   refine qY (qp qu (qd ?_))
   walk_at "n"
   refine qi (qbl (h0.keep _ _ hR) (by refine substr (length_map ..) (substr l3 ?_);decide) ?_)
   refine substr (length_map ..) (substr l3 ?_)
   exact qdO (by decide) (by decide) (by decide) (iAA rfl rfl Sub.refl)) (by decide) (by decide) (by decide) (by decide) rfl) (fun a ha=>⟨by obtain⟨u,hu⟩:=h0.cc;refine substr (show a=cc from ha) ?_;exact⟨_,hu⟩,fun f=>f⟩) ⟨O,Ev,Si,Ch,q0,h0⟩ ?_ ?_
 ·rintro k M' Hk Hc v hk ⟨O,Ev,Si,Ch,q,hh⟩ hS hv
  have hk7:k<7:=qsb hk
  obtain⟨u,hcu⟩:=hh.cc
  have hcu':=hS _ _ hcu
  have hvc:norm v=I ((k+1:Nat):Int):=by refine substr hv ?_;show I _=I _;congr 1;exact qsc
  refine qar hvc ?_
  walk_at "s"
  generalize hH2:upd Hc cc (.cell (some (I ((k+1:Nat):Int))))=H2
  have k2:∀ a d,a≠cc->Hc a=some d->H2 a=some d:=fun a d n1 e=>by refine substr hH2.symm ?_;exact(qe n1).trans e
  have cc2:H2 cc=some (.cell (some (I ((k+1:Nat):Int)))):=by refine substr hH2.symm ?_;exact upd_same
  have n2:∀ a,H2 a=none->Hc a=none:=fun a e=>qaL (by refine substr hH2 ?_;exact e)
  have keepH:∀ a d,H a=some d->a≠cc:=fun a d e q=>by rw[q,g2] at e;exact o_ns e
  have R2:H2 R=some (lst (rows.map S)):=k2 _ _ (keepH _ _ hR) (hS _ _ (hh.keep _ _ hR))
  have C2:H2 C=some (lst (cells.map fun i:Nat=>I (i:Int))):=k2 _ _ (keepH _ _ hC) (hS _ _ (hh.keep _ _ hC))
  have N2:H2 Nn=some (lst (names.map S)):=k2 _ _ (keepH _ _ hN) (hS _ _ (hh.keep _ _ hN))
  have nl:∀ {a:Addr} {xs:List Value},Hk a=some (lst xs)->a≠cc:=fun e q=>by rw[q,hcu] at e;cases e
  have O2:=k2 _ _ (nl hh.odd) (hS _ _ hh.odd)
  have Ev2:=k2 _ _ (nl hh.even) (hS _ _ hh.even)
  have Si2:=k2 _ _ (nl hh.single) (hS _ _ hh.single)
  have Ch2:=k2 _ _ (nl hh.chain) (hS _ _ hh.chain)
  have ce2:H2 ce=some (.cell (some (.ref C))):=k2 _ _ (Ne.symm gne) (hS _ _ hh.ce)
  have q':=q
  obtain⟨w1,w2,w3,w4,w5,w6⟩:=q'
  refine qqt (n:=(3:Int).toNat) (fr:=fun _=>False) (fun q=>((List.range q).filter (qj5 (k+1))).map fun p:Nat=>I (p:Int)) [(".0",.local),("place",.local),("choice",.free)] ke hlo (by rfl) (.inl rfl) (qal ?_) (by rfl) (by decide) (by decide) (by rfl)
   (qcD ok'.hand (N:=3) (by
    walk_at "n"
    refine⟨rfl,qF ?_⟩
    walk_at "n"
    refine qY (qp qu (qd ?_))
    walk_at "n"
    refine qi (qbl R2 (by refine substr (length_map ..) (substr l3 ?_);decide) ?_)
    refine substr (length_map ..) (substr l3 ?_)
    exact(iAA rfl rfl Sub.refl)) (by decide) (by decide) rfl) (by decide) (by rfl) ?_ ?_
  ·intro p hp hfr
   simp at hp
   rcases hp with rfl | rfl | rfl<;>first | (cases hfr;done) | (refine substr hc1 ?_;rfl)
  ·rintro j Hj Lc Mc vj hj hSj hLc hnL cenv cke hcl hcc hvj
   have hj3:j<3:=hj
   have hcc':cenv.cells.lookup (Str.ofString "choice")=some cc:=by
    refine substr hcc (substr (qL rfl) (substr (qL rfl) (substr (qZ hc1) ?_)))
    exact lookup_cons_self
   have hcv:=hSj _ _ cc2
   have hcL:cc≠Lc:=fun e=>by rw[<- e,cc2] at hnL;exact o_sn hnL
   refine qar hvj ?_
   walk_at "s"
   refine qcP (qao (qK (qK ?_)))
   walk_at "n"
   refine qK (qw ?_)
   walk_at "n"
   refine qdO (qdp) (qjj hj3) (by decide) (qc1 (qiX hj3).1 (PyProof.noPylong_small (qiX hj3).2) (qw (qdf (by decide) (qjL ?_))))
   refine substr (qpn (qm3 hk7) hj3) ?_
   refine⟨fun hb=>?_,fun hb=>?_⟩
   ·walk_at "n"
    exact⟨rfl,by walk_at "k",⟨_,by walk_at "h"⟩,by refine substr List.range_succ (substr (List.filter_append ..) ?_);simp[hb]⟩
   ·exact⟨rfl,by walk_at "k",⟨_,by walk_at "h"⟩,by refine substr List.range_succ (substr (List.filter_append ..) ?_);simp[hb]⟩
  ·intro cho hcho
   show WS (model prog w) D' _ _ (upd H2 cho (lst ((qT (k+1)).map fun p:Nat=>I (p:Int)))) _ _
   have n3:∀ a,upd H2 cho (lst ((qT (k+1)).map fun p:Nat=>I (p:Int))) a=none->Hc a=none:=fun a e=>n2 a (qaL e)
   have s3:Sub H2 (upd H2 cho (lst ((qT (k+1)).map fun p:Nat=>I (p:Int)))):=Sub.upd hcho
   have cho3:(upd H2 cho (lst ((qT (k+1)).map fun p:Nat=>I (p:Int)))) cho=some (lst ((qT (k+1)).map fun p:Nat=>I (p:Int))):=upd_same
   generalize upd H2 cho (lst ((qT (k+1)).map fun p:Nat=>I (p:Int)))=H3 at n3 s3 cho3
   have q3:=q.put (x := "chosen") (v:=.ref cho) (by decide)
   have ch3:look "chosen" (put "chosen" (Value.ref cho) M')=some (.ref cho):=by walk_at "l"
   generalize put "chosen" (Value.ref cho) M'=M3 at q3 ch3
   clear w1 w2 w3 w4 w5 w6
   have R3:=s3 _ _ R2
   have C3:=s3 _ _ C2
   have N3:=s3 _ _ N2
   have ce3:=s3 _ _ ce2
   refine qI (qQ ?_)
   walk_at "s"
   refine qdG (n:=((qT (k+1)).map fun p:Nat=>I (p:Int)).length) (fr:=fun a=>a=cho) (fun _=>False) (PlM H3 R Nn O Ev Si Ch cho rows (qT (k+1)))
    (qce ok'.hand (by walk_at "n";exact(qci rfl Sub.refl cho rfl cho3 (.inr rfl)))) (fun _ h=>h.elim) ⟨rfl,q3.put (by decide),by walk_at "l",by refine substr List.take_zero ?_;exact qbj⟩ ?_ ?_
   ·rintro j M4 Hk4 Hc4 v4 hj4 ⟨rfl,q4,ch4,me4⟩ hS4 hv4
    rw[length_map] at hj4
    obtain⟨p,hp⟩:∃ p,(qT (k+1))[j]?=some p:=⟨_,getElem?_eq_getElem hj4⟩
    have hp3:p<3:=qie (mem_of_getElem? hp)
    rw[getElem?_map,hp] at hv4
    have hv4:norm v4=I (p:Int):=by injection hv4 with e;exact e.symm
    obtain⟨row,hrow⟩:∃ row,rows[p]?=some row:=⟨_,getElem?_eq_getElem (qjk l3 hp3)⟩
    refine qar hv4 ?_
    walk_at "s"
    have q5:=q4.put (x := "place") (v:=I (p:Int)) (by decide)
    obtain⟨w1,w2,w3,w4,w5,w6⟩:=q5
    refine qI (qF ?_)
    walk_at "n"
    refine qad (qp (qan ok' (by rfl)) (qd ?_))
    walk_at "n"
    refine qd (qW ?_)
    walk_at "n"
    walk_at "n"
    refine qb0 (p:=S row) (hS4 _ _ R3) (qdp) (qm4 hp3) (by refine substr (show((p:Int)).toNat=p from rfl) (substr getElem?_map (substr hrow ?_));rfl) ?_
    have hml:(qgF rows ((qT (k+1)).take j)).length<=3:=qfp _ _ _ (by decide +kernel)
    refine qi (qqE (n:=n+3) ok' (Nat.le_trans hml (by decide)) (hr row (mem_of_getElem? hrow)) ?_)
    walk_at "s"
    refine qy ⟨Kp.refl,Hk4,hS4,fun a d e=>.inl ⟨_,e⟩,rfl,(q4.put (by decide)).put (by decide),by walk_at "l",?_⟩
    have e:qgF rows ((qT (k+1)).take (j+1))=qbR (qgF rows ((qT (k+1)).take j)) row:=by
     unfold qgF
     rw[qj6 _ hp,List.getD_eq_getElem?_getD,hrow];rfl
    refine substr e ?_;walk_at "l"
   rintro M4 Hk4 ⟨rfl,q4,ch4,me4⟩
   rw[length_map,List.take_length] at me4
   have me4:look "met" M4=some (S (qbc rows (k+1))):=me4
   have R2x:=R2
   have C2x:=C2
   have N2x:=N2
   clear R2 C2 N2 q3 ch3 R3 C3 N3
   have R3:=s3 _ _ R2x
   have C3:=s3 _ _ C2x
   have N3:=s3 _ _ N2x
   have hml:(qbc rows (k+1)).length<=3:=qfp _ _ _ (by decide +kernel)
   have q4':=q4
   obtain⟨w1,w2,w3,w4,w5,w6⟩:=q4'
   refine qI (qK (qF ?_))
   walk_at "n"
   refine qY (qp qu (qd ?_))
   refine qa4 (n:=((qT (k+1)).map fun p:Nat=>I (p:Int)).length) (fr:=fun a=>a=cho) (fun q=>((qT (k+1)).take q).map fun p:Nat=>I ((cells.getD p 0/27:Nat):Int)) [(".0",.local),("place",.local),("cells",.free)] ke (qal ?_) (by rfl) (by decide) (by decide) (by rfl)
    (qce ok'.hand (by walk_at "n";exact(qci rfl Sub.refl cho rfl cho3 (.inr rfl)))) (by refine substr (length_map ..) ?_;have:=qgG (k+1);exact qm5 this) (by refine substr List.take_zero ?_;rfl) ?_ ?_
   ·intro p hp hfr
    simp at hp
    rcases hp with rfl | rfl | rfl<;>first | (cases hfr;done) | (refine substr hc2 ?_;rfl)
   ·rintro j Hj Lc Mc vj hj hSj hLc hnL cenv cke hcl hcc hvj
    rw[length_map] at hj
    have hcc':cenv.cells.lookup (Str.ofString "cells")=some ce:=by
     refine substr hcc (substr (qL rfl) (substr (qL rfl) (substr (qZ hc2) ?_)))
     exact lookup_cons_self
    obtain⟨p,hp⟩:∃ p,(qT (k+1))[j]?=some p:=⟨_,getElem?_eq_getElem hj⟩
    have hp3:p<3:=qie (mem_of_getElem? hp)
    rw[getElem?_map,hp] at hvj
    have hvj:norm vj=I (p:Int):=by injection hvj with e;exact e.symm
    obtain⟨cl,hcl2⟩:∃ cl,cells[p]?=some cl:=⟨_,getElem?_eq_getElem (qjk c3 hp3)⟩
    have hcv:Hj ce=some (.cell (some (.ref C))):=hSj _ _ (s3 _ _ ce2)
    have hcL:ce≠Lc:=fun e=>by rw[<- e,s3 _ _ ce2] at hnL;exact o_sn hnL
    have hCL:C≠Lc:=fun e=>by rw[<- e,C3] at hnL;exact o_sn hnL
    have hCj:=hSj _ _ C3
    refine qar hvj ?_
    walk_at "s"
    refine qco ⟨fun _=>?_,fun h=>by cases h⟩
    refine qK (qW ?_)
    walk_at "n"
    walk_at "n"
    refine qb0 (p:=I (cl:Int)) (l:=C) (by walk_at "h") (qdp) (qm4 hp3) (by refine substr (show((p:Int)).toNat=p from rfl) (substr getElem?_map (substr hcl2 ?_));rfl) ?_
    refine qw (qc1 (by decide) (PyProof.noPylong_small (by decide)) ?_)
    refine⟨rfl,by walk_at "k",⟨_,by walk_at "h"⟩,?_⟩
    refine substr (qcu _ hp) (substr List.getD_eq_getElem?_getD (substr hcl2 (substr (Int.fdiv_eq_ediv_of_nonneg _ (by decide)) ?_)))
    rfl
   intro acc hacc
   refine substr (length_map ..) (substr List.take_length ?_)
   refine qi (qol (ns:=(qT (k+1)).map fun p:Nat=>((cells.getD p 0/27:Nat):Int)) ok'.hand (by refine substr upd_same (substr map_map ?_);rfl) ?_)
   refine qw (qdf (by decide) ?_)
   have hds:((((qT (k+1)).map fun p:Nat=>((cells.getD p 0/27:Nat):Int)).sum).fmod 4)=((qbV cells (qT (k+1)):Nat):Int):=by
    rw[qfq (fun p=>cells.getD p 0/27),Int.fmod_eq_emod_of_nonneg _ (by decide)];rfl
   refine substr hds ?_
   walk_at "s"
   have s5:Sub H2 (upd Hk4 acc (lst ((qT (k+1)).map fun p:Nat=>I ((cells.getD p 0/27:Nat):Int)))):=s3.trans (Sub.upd hacc)
   have n5:∀ a,(upd Hk4 acc (lst ((qT (k+1)).map fun p:Nat=>I ((cells.getD p 0/27:Nat):Int)))) a=none->Hc a=none:=fun a e=>n3 a (qaL e)
   have cho5:(upd Hk4 acc (lst ((qT (k+1)).map fun p:Nat=>I ((cells.getD p 0/27:Nat):Int)))) cho=_:=qx hacc cho3
   generalize upd Hk4 acc (lst ((qT (k+1)).map fun p:Nat=>I ((cells.getD p 0/27:Nat):Int)))=H5 at s5 n5 cho5
   clear R3 C3 N3
   have q5:=q4.put (x := "dress") (v:=I ((qbV cells (qT (k+1)):Nat):Int)) (by decide)
   have ch5:look "chosen" (put "dress" (I ((qbV cells (qT (k+1)):Nat):Int)) M4)=some (.ref cho):=by walk_at "l"
   have me5:look "met" (put "dress" (I ((qbV cells (qT (k+1)):Nat):Int)) M4)=some (S (qbc rows (k+1))):=by walk_at "l"
   have dr5:look "dress" (put "dress" (I ((qbV cells (qT (k+1)):Nat):Int)) M4)=some (I ((qbV cells (qT (k+1)):Nat):Int)):=by walk_at "l"
   generalize put "dress" (I ((qbV cells (qT (k+1)):Nat):Int)) M4=M5 at q5 ch5 me5 dr5
   clear w1 w2 w3 w4 w5 w6
   have N5:=s5 _ _ N2x
   have q5':=q5
   obtain⟨w1,w2,w3,w4,w5,w6⟩:=q5'
   refine qI (qpo (Φ:=PlG M5 H5 (names.filter (gP rows cells (k+1)))) ?_ ?_)
   ·refine qdA (qao ?_)
    walk_at "n"
    refine qom (qda hml) ⟨fun hb=>?_,fun hb=>?_⟩
    ·have hne:(qbc rows (k+1)).length≠0:=by
      intro e;rw[e] at hb;simp at hb
     refine oAA (hg (k+1) (qeI) (qm3 hk7) hne) fun g1 g2 g3=>?_
     refine qF ?_
     walk_at "n"
     refine qad (qp (qan ok' (by rfl)) (qd (qF ?_)))
     walk_at "n"
     refine qad (qp (qan ok' (by rfl)) (qd ?_))
     walk_at "n"
     refine qd ?_
     walk_at "n"
     refine qi (qjU (n:=n+3) ok' (qsd hml) g1 g2 (Nat.mod_lt _ (by decide)) ?_)
     refine qd ?_
     walk_at "n"
     refine qi (ql2 ok' hn g3 N5 (qse hns) hnm fun G hG=>⟨rfl,G,rfl,Sub.upd hG,?_⟩)
     refine substr upd_same ?_
     have e:qfX (qbS (qbc rows (k+1)) (qbV cells (qT (k+1)))) names=names.filter (gP rows cells (k+1)):=by
      unfold qfX
      refine List.filter_congr fun x _=>?_
      unfold gP
      refine substr (decide_eq_true hne) (substr (Bool.true_and ..) ?_);rfl
     refine substr e rfl
    ·have he:(qbc rows (k+1)).length=0:=by simpa using hb
     refine qae (qi ⟨qJ rfl,fun G hG=>⟨rfl,G,rfl,Sub.upd hG,?_⟩⟩)
     refine substr upd_same (substr (List.filter_eq_nil_iff.mpr (fun x _=>by unfold gP;refine substr he ?_;simp)) ?_);rfl
   rintro vG M6 H6 ⟨rfl,G,rfl,s6,G6⟩
   walk_at "s"
   have q6:=q5.put (x := "got") (v:=.ref G) (by decide)
   have ch6:look "chosen" (put "got" (Value.ref G) M6)=some (.ref cho):=by walk_at "l"
   have go6:look "got" (put "got" (Value.ref G) M6)=some (.ref G):=by walk_at "l"
   generalize put "got" (Value.ref G) M6=M7 at q6 ch6 go6
   clear w1 w2 w3 w4 w5 w6
   have s7:Sub H2 H6:=s5.trans s6
   have n7:∀ a,H6 a=none->Hc a=none:=fun a e=>n5 a (s6.none e)
   have cho7:=s6 _ _ cho5
   have fl:∀ f:Str->Bool,(names.filter f).length<=8:=fun f=>Nat.le_trans (List.length_filter_le _ _) hns
   have PO:(∃ d,Hk O=some d)\/Hc O=none:=.inl ⟨_,hh.odd⟩
   have PE:(∃ d,Hk Ev=some d)\/Hc Ev=none:=.inl ⟨_,hh.even⟩
   have PS:(∃ d,Hk Si=some d)\/Hc Si=none:=.inl ⟨_,hh.single⟩
   have q6':=q6
   obtain⟨w1,w2,w3,w4,w5,w6⟩:=q6'
   refine qI (qF ?_)
   walk_at "n"
   refine qad (qp (qan ok' (by rfl)) (qd ?_))
   walk_at "n"
   refine qd ?_
   walk_at "n"
   refine qi (qgU (n:=n+2) ok' (s7 _ _ Ch2) G6 (Nat.le_trans (fl _) (by decide)) (Nat.le_trans (fl _) (by decide)) fun Ch9 zs H8 s8 f8 z8 p8 o8=>?_)
   have hz8:zs=names.filter (chG (gP rows cells) (k+1)):=qd6 hst p8 o8
   subst hz8
   walk_at "s"
   have q8:QL R Nn O Ev Si Ch9 (put "chain" (Value.ref Ch9) M7):=⟨by walk_at "l",by walk_at "l",by walk_at "l",by walk_at "l",by walk_at "l",by walk_at "l"⟩
   have ch8:look "chosen" (put "chain" (Value.ref Ch9) M7)=some (.ref cho):=by walk_at "l"
   have go8:look "got" (put "chain" (Value.ref Ch9) M7)=some (.ref G):=by walk_at "l"
   generalize put "chain" (Value.ref Ch9) M7=M8 at q8 ch8 go8
   clear w1 w2 w3 w4 w5 w6
   have PC:(∃ d,Hk Ch9=some d)\/Hc Ch9=none:=.inr (n7 _ f8)
   have s8':=s7.trans s8
   have cho8:=s8 _ _ cho7
   have G8:=s8 _ _ G6
   have n8:∀ a,H8 a=none->Hc a=none:=fun a e=>n7 a (s8.none e)
   have q8':=q8
   obtain⟨w1,w2,w3,w4,w5,w6⟩:=q8'
   refine qxv (PlS R Nn O Ev Ch9 cho G H8 Hk Hc (names.filter (siG (gP rows cells) (k+1)))) (qO (qF ?_)) ?_
   ·walk_at "n"
    refine qY (qp qu (qd ?_))
    walk_at "n"
    refine qi (qbl cho8 (by refine substr (length_map ..) ?_;have:=qgG (k+1);exact qda this) (qw (qds (asB ⟨fun hb=>?_,fun hb=>?_⟩))))
    ·rw[length_map] at hb
     have h1:(qT (k+1)).length=1:=by have:=beq_iff_eq.mp hb;exact qm6 this
     refine qI (qF ?_)
     walk_at "n"
     refine qad (qp (qan ok' (by rfl)) (qd ?_))
     walk_at "n"
     refine qd ?_
     walk_at "n"
     refine qi (qgU (n:=n+2) ok' (s8' _ _ Si2) G8 (Nat.le_trans (fl _) (by decide)) (Nat.le_trans (fl _) (by decide)) fun Si9 zs H9 s9 f9 z9 p9 o9=>?_)
     have hz9:zs=names.filter (siG (gP rows cells) (k+1)):=by
      refine substr (qd6 hst p9 o9) ?_
      refine List.filter_congr fun x _=>?_
      show _=if (qT (k+1)).length=1 then _ else _
      refine substr (if_pos h1) rfl
     subst hz9
     walk_at "s"
     exact qy ⟨rfl,Si9,⟨by walk_at "l",by walk_at "l",by walk_at "l",by walk_at "l",by walk_at "l",by walk_at "l"⟩,by walk_at "l",by walk_at "l",s9,z9,.inr (n8 _ f9)⟩
    ·rw[length_map] at hb
     have h1:¬ (qT (k+1)).length=1:=fun e=>by rw[e] at hb;simp at hb
     have hz9:names.filter (siG (gP rows cells) (k+1))=names.filter (siG (gP rows cells) k):=by
      refine List.filter_congr fun x _=>?_
      show(if (qT (k+1)).length=1 then _ else _)=_
      refine substr (if_neg h1) rfl
     exact qy ⟨rfl,Si,q8,ch8,go8,Sub.refl,by refine substr hz9 ?_;exact s8' _ _ Si2,PS⟩
   rintro M9 H9 ⟨Si9,q9,ch9,go9,s9,Si9v,PS9⟩
   clear w1 w2 w3 w4 w5 w6
   have s9':=s8'.trans s9
   have cho9:=s9 _ _ cho8
   have G9:=s9 _ _ G8
   have n9:∀ a,H9 a=none->Hc a=none:=fun a e=>n8 a (s9.none e)
   have fin:∀(Ma:Loc) (Ha:AH) (O' Ev':Addr),QL R Nn O' Ev' Si9 Ch9 Ma->Sub H9 Ha->O'≠Ev'->((∃ d,Hk O'=some d)\/Hc O'=none)->((∃ d,Hk Ev'=some d)\/Hc Ev'=none)->Ha O'=some (lst ((qbg (gP rows cells) names (k+1)).map S))->Ha Ev'=some (lst ((qa1 (gP rows cells) names (k+1)).map S))->
    TE (Kp (fun a=>a=cc) Hc) Hc Hk (PlJ H cc ce C R Nn (gP rows cells) names (k+1)) Ma Ha:=by
    intro Ma Ha O' Ev' qa sa ne' P1 P2 h1 h2
    have sHa:=s9'.trans sa
    refine⟨fun a d na e=>sHa _ _ (k2 a d na e),rst (fun a=>(∃ d,Hk a=some d)\/Hc a=none) Ha,qgA,fun a d e=>qgB e,O',Ev',Si9,Ch9,qa,?_,⟨some (I ((k+1:Nat):Int)),?_⟩,?_,?_,?_,?_,ne',fun a d e=>?_⟩
    ·exact(qas (.inl ⟨_,hh.ce⟩)).trans (sHa _ _ ce2)
    ·exact(qas (.inl ⟨_,hcu⟩)).trans (sHa _ _ cc2)
    ·exact(qas P1).trans h1
    ·exact(qas P2).trans h2
    ·exact(qas PS9).trans (sa _ _ Si9v)
    ·exact(qas PC).trans (sa _ _ (s9 _ _ z8))
    ·exact(qas (.inl ⟨_,hh.keep _ _ e⟩)).trans (sHa _ _ (k2 _ _ (keepH _ _ e) (hS _ _ (hh.keep _ _ e))))
   have lo:=qid (gP rows cells) names k
   have le:=qgX (gP rows cells) names k
   have lf:=fl (gP rows cells (k+1))
   have lk8:k*names.length<=7*8:=Nat.mul_le_mul (qsf hk7) hns
   have O9:=s9' _ _ O2
   have Ev9:=s9' _ _ Ev2
   have q9':=q9
   obtain⟨w1,w2,w3,w4,w5,w6⟩:=q9'
   refine qbp (qao (qK (qF ?_)))
   walk_at "n"
   refine qY (qp qu (qd ?_))
   walk_at "n"
   refine qi (qbl cho9 (by refine substr (length_map ..) ?_;have:=qgG (k+1);exact qda this) (qw (qdf (by decide) (qjL ⟨fun hb=>?_,fun hb=>?_⟩))))
   ·rw[length_map,Int.fmod_eq_emod_of_nonneg _ (by decide)] at hb
    have h1:(qT (k+1)).length%2≠0:=fun e=>by
     have:(((qT (k+1)).length:Int)%2)=0:=by omega
     rw[this] at hb;simp at hb
    refine qI (qK ?_)
    walk_at "n"
    walk_at "n"
    refine qc2 O9 G9 (by refine substr (length_map ..) (substr (length_map ..) ?_);exact as1 big lo lf lk8) fun O' hO'=>?_
    walk_at "s"
    refine qy (qy (fin _ _ O' Ev ⟨by walk_at "l",by walk_at "l",by walk_at "l",by walk_at "l",by walk_at "l",by walk_at "l"⟩ (Sub.upd hO') (fun e=>by rw[e,Ev9] at hO';exact o_sn hO') (.inr (n9 _ hO')) PE ?_ ?_))
    ·refine substr upd_same (substr map_append.symm ?_)
     show some (lst (List.map S (qbg (gP rows cells) names k++_)))=some (lst (List.map S (if _ then _ else _)))
     refine substr (if_pos h1) rfl
    ·refine(qx hO' Ev9).trans ?_
     show some (lst (List.map S (qa1 (gP rows cells) names k)))=some (lst (List.map S (if _ then _ else _)))
     refine substr (if_pos h1) rfl
   ·rw[length_map,Int.fmod_eq_emod_of_nonneg _ (by decide)] at hb
    have h1:¬ (qT (k+1)).length%2≠0:=fun e=>by
     have:¬ (((qT (k+1)).length:Int)%2)=0:=by omega
     simp[this] at hb
    refine qI (qK ?_)
    walk_at "n"
    walk_at "n"
    refine qc2 Ev9 G9 (by refine substr (length_map ..) (substr (length_map ..) ?_);exact as1 big le lf lk8) fun Ev' hEv'=>?_
    walk_at "s"
    refine qy (qy (fin _ _ O Ev' ⟨by walk_at "l",by walk_at "l",by walk_at "l",by walk_at "l",by walk_at "l",by walk_at "l"⟩ (Sub.upd hEv') (fun e=>by rw[<- e,O9] at hEv';exact o_sn hEv') PO (.inr (n9 _ hEv')) ?_ ?_))
    ·refine(qx hEv' O9).trans ?_
     show some (lst (List.map S (qbg (gP rows cells) names k)))=some (lst (List.map S (if _ then _ else _)))
     refine substr (if_neg h1) rfl
    ·refine substr upd_same (substr map_append.symm ?_)
     show some (lst (List.map S (qa1 (gP rows cells) names k++_)))=some (lst (List.map S (if _ then _ else _)))
     refine substr (if_neg h1) rfl
 ·rintro M2 Hk ⟨O,Ev,Si,Ch,q,hh⟩
  obtain⟨w1,w2,w3,w4,w5,w6⟩:=q
  refine qaw (qaa (qd ?_))
  walk_at "n"
  refine qd ?_
  walk_at "n"
  refine qd ?_
  walk_at "n"
  refine qd ?_
  walk_at "n"
  refine qi ⟨qJ rfl,fun T hT=>(iEA _ Sub.refl ?_)⟩
  have sT:=Sub.upd (d:=tup [.ref O,.ref Ev,.ref Si,.ref Ch]) hT
  exact h T O Ev Si Ch _ (fun a d e=>sT _ _ (hh.keep a d e)) upd_same hh.ne (sT _ _ hh.odd) (sT _ _ hh.even) (sT _ _ hh.single) (sT _ _ hh.chain)
noncomputable def ev{α:Type}(c:Nat->Nat->Bool):KasT α->α
 | .ret a=>a
 | .ask i j k=>ev c (k (c i j))
theorem qcZ{α β:Type}(c:Nat->Nat->Bool)(f:α->KasT β):∀ t:KasT α,ev c (t.bind f)=ev c (f (ev c t))
 | .ret _=>rfl
 | .ask i j k=>qcZ c f (k (c i j))
theorem qxx{α:Type}{cmp:Nat->Nat->(Bool->Shared->Prop)->Shared->Prop}{c:Nat->Nat->Bool}{s:Shared}(hc:∀ i j (C:Bool->Shared->Prop),C (c i j) s->cmp i j C s){Q:α->Shared->Prop}:∀ t:KasT α,Q (ev c t) s->t.kasWp cmp Q s
 | .ret _,h=>h
 | .ask i j k,h=>hc i j _ (qxx hc (k (c i j)) h)
structure Weak(c:Nat->Nat->Bool):Prop where
 irr:∀ i,c i i=false
 tr:∀ i j k,c j i=false->c k j=false->c k i=false
 as:∀ i j,c i j=true->c j i=false
section
variable{c:Nat->Nat->Bool}
noncomputable abbrev kx(p:Array Nat)(i:Nat):Nat:=p.getD i 0
noncomputable def Asc(c:Nat->Nat->Bool)(p:Array Nat)(n:Nat):Prop:=∀ i j,i<=j->j<n->c (kx p j) (kx p i)=false
noncomputable def Dsc(c:Nat->Nat->Bool)(p:Array Nat)(n:Nat):Prop:=∀ i j,i<=j->j<n->c (kx p i) (kx p j)=false
theorem qdZ{p q:Array Nat}{i j:Nat}(h:p[i]?=q[j]?):kx p i=kx q j:=by
 unfold kx;refine substr Array.getD_eq_getD_getElem? (substr Array.getD_eq_getD_getElem? (substr h rfl))
theorem qf4{p:Array Nat}{n:Nat}(hn:n<=p.size)(k:Nat):kx (kas_rev p 0 n) k=if k<n then kx p (n-1-k) else kx p k:=by
 have e:=getElem?_mirror_all (xs:=p) (i:=0) hn k
 unfold kas_rev
 by_cases h:k<n
 ·rw[if_pos ⟨Nat.zero_le _,h⟩] at e
  refine substr (if_pos h) (substr (show n-1-k=0+n-1-k by exact quL) ?_);exact qdZ e
 ·rw[if_neg (fun q=>h q.2)] at e
  refine substr (if_neg h) ?_;exact qdZ e
theorem qgH{p:Array Nat}{a n:Nat}(hn:n<=p.size)(k:Nat):kx (kas_rev p a n) k=if a<=k/\k<n then kx p (a+n-1-k) else kx p k:=by
 have e:=getElem?_mirror_all (xs:=p) (i:=a) hn k
 unfold kas_rev
 by_cases h:a<=k/\k<n
 ·rw[if_pos h] at e;refine substr (if_pos h) ?_;exact qdZ e
 ·rw[if_neg h] at e;refine substr (if_neg h) ?_;exact qdZ e
theorem qlc{p:Array Nat}{src d:Nat}(hs:src<p.size)(hd:d<=src)(k:Nat):kx (bubble p src d) k=if k=src-d then kx p src else if src-d<k/\k<=src then kx p (k-1) else kx p k:=by
 have e:=getElem?_bubble hs d hd k
 by_cases h1:k=src-d
 ·rw[if_pos h1] at e ⊢;exact qdZ e
 ·rw[if_neg h1] at e ⊢
  by_cases h2:src-d<k/\k<=src
  ·rw[if_pos h2] at e ⊢;exact qdZ e
  ·rw[if_neg h2] at e ⊢;exact qdZ e
theorem qif(W:Weak c)(p:Array Nat):∀(f n:Nat),1<=n->Asc c p n->n<=ev c (kas_asc p f n)/\ev c (kas_asc p f n)<=n+f/\Asc c p (ev c (kas_asc p f n)) /\
 (ev c (kas_asc p f n)=n+f\/c (kx p (ev c (kas_asc p f n))) (kx p (ev c (kas_asc p f n)-1))=true)
 | 0,n,_,h=>(qdr (Nat.le_refl _) (Nat.le_refl _) h (.inl rfl))
 | f+1,n,h1,h=>by
  show n<=ev c (if c (kx p n) (kx p (n-1))=true then .ret n else kas_asc p f (n+1))/\ev c (if c (kx p n) (kx p (n-1))=true then .ret n else kas_asc p f (n+1))<=_/\Asc c p (ev c (if c (kx p n) (kx p (n-1))=true then .ret n else kas_asc p f (n+1))) /\
   (ev c (if c (kx p n) (kx p (n-1))=true then .ret n else kas_asc p f (n+1))=_\/c (kx p (ev c (if c (kx p n) (kx p (n-1))=true then .ret n else kas_asc p f (n+1)))) (kx p (ev c (if c (kx p n) (kx p (n-1))=true then .ret n else kas_asc p f (n+1))-1))=true)
  cases q:c (kx p n) (kx p (n-1)) with
  | true=>refine substr (if_pos rfl) ?_;exact qdr (Nat.le_refl _) (Nat.le_add_right _ _) h (.inr q)
  | false=>
   refine substr (if_neg Bool.false_ne_true) ?_
   have:=qif W p f (n+1) (qeI) (fun i j hij hj=>by
    by_cases hjn:j<n
    ·exact h i j hij hjn
    ·have:j=n:=by exact qhe hj hjn
     subst this
     by_cases hi:i=j
     ·subst hi;exact W.irr _
     ·exact W.tr _ _ _ (h i (j-1) (qjs hij hi) (qjt h1)) q)
   refine qdq this fun a1 a2 a3 a4=>?_
   exact qdr (qhf a1) (qhg a2) a3 (a4.imp (fun e=>by exact quM e) id)
theorem qay(p:Array Nat)(i j:Nat):(kas_rev p i j).Perm p:=mirror_perm _ _ _ _
theorem qeW(W:Weak c):∀(f:Nat) (p:Array Nat) (n q:Nat),1<=n->n+f<=p.size->Dsc c p n->q+1<=n->(∀ i,n-(q+1)<=i->i<n->c (kx p i) (kx p (n-1))=false/\c (kx p (n-1)) (kx p i)=false)->
 ∃ p' m q',ev c (kas_desc f p n q)=(p',m,q')/\p'.Perm p/\n<=m/\m<=n+f/\Dsc c p' m/\q'+1<=m/\(∀ i,m-(q'+1)<=i->i<m->c (kx p' i) (kx p' (m-1))=false/\c (kx p' (m-1)) (kx p' i)=false)
 | 0,p,n,q,_,_,h,hq,he=>(qcj p n q rfl (Array.Perm.refl _) (Nat.le_refl _) (Nat.le_refl _) h hq he)
 | f+1,p,n,q,h1,hz,h,hq,he=>by
  have hn:n<p.size:=qju hz
  show ∃ p' m q',ev c (if c (kx p n) (kx p (n-1))=true then(if q>0 then kas_desc f (kas_rev p (n-(q+1)) n) (n+1) 0 else kas_desc f p (n+1) 0) else .ask (kx p (n-1)) (kx p n) fun d=>if d=true then .ret (p,n,q) else kas_desc f p (n+1) (q+1))=(p',m,q')/\_
  cases hs:c (kx p n) (kx p (n-1)) with
  | true=>
   refine substr (if_pos rfl) ?_
   have step:∀ p2:Array Nat,p2.size=p.size->(∀ k,k<n->∃ k',k'<n/\kx p2 k=kx p k'/\(c (kx p k) (kx p k')=false/\c (kx p k') (kx p k)=false))->kx p2 n=kx p n->Dsc c p2 (n+1):=by
    intro p2 _ hk hkn i j hij hj
    by_cases hjn:j<n
    ·refine qdb (hk i (qhh hij hjn)) fun i' i1 i2 i3 i4=>?_
     refine qdb (hk j hjn) fun j' j1 j2 j3 j4=>?_
     refine substr i2 (substr j2 ?_)
     have a1:=h i j hij hjn
     exact W.tr _ _ _ j3 (W.tr _ _ _ a1 i4)
    ·have:j=n:=by exact qhe hj hjn
     subst this
     refine substr hkn ?_
     by_cases hi:i=j
     ·subst hi;refine substr hkn ?_;exact W.irr _
     ·refine qdb (hk i (qnB hij hi)) fun i' i1 i2 i3 i4=>?_
      refine substr i2 ?_
      exact W.tr _ _ _ (W.as _ _ hs) (W.tr _ _ _ (h i (j-1) (qjs hij hi) (qjt h1)) i4)
   by_cases hq0:q>0
   ·refine substr (if_pos hq0) ?_
    have hsz:(kas_rev p (n-(q+1)) n).size=p.size:=mirror_size _ _ _ _
    refine qcM (qeW W f (kas_rev p (n-(q+1)) n) (n+1) 0 (qeI) (quN hz hsz) (step _ hsz (fun k hk=>by
     rw[qgH (Nat.le_of_lt hn)]
     by_cases hb:n-(q+1)<=k/\k<n
     ·refine substr (if_pos hb) ?_
      refine(qeb (n-(q+1)+n-1-k) (qhi hb.1 hb.2) rfl ?_)
      have b1:=he k hb.1 hb.2
      have b2:=he (n-(q+1)+n-1-k) (qnI hk) (qhi hb.1 hb.2)
      exact⟨W.tr _ _ _ b2.2 b1.1,W.tr _ _ _ b1.2 b2.1⟩
     ·refine substr (if_neg hb) ?_
      exact(qjB k hk rfl (W.irr _) (W.irr _))) (by rw[qgH (Nat.le_of_lt hn),if_neg (quO)])) (qjv) (fun i i1 i2=>by have:i=n+1-1:=(qjw i1 i2);subst this;exact⟨W.irr _,W.irr _⟩)) fun p' m q' e1 e2 e3 e4 e5 e6 e7=>?_
    exact qcj p' m q' e1 (e2.trans (qay _ _ _)) (qhf e3) (qhg e4) e5 e6 e7
   ·refine substr (if_neg hq0) ?_
    refine qcM (qeW W f p (n+1) 0 (qeI) (qjx hz) (step p rfl (fun k hk=>(qjB k hk rfl (W.irr _) (W.irr _))) rfl) (qjv) (fun i i1 i2=>by have:i=n+1-1:=(qjw i1 i2);subst this;exact⟨W.irr _,W.irr _⟩)) fun p' m q' e1 e2 e3 e4 e5 e6 e7=>?_
    exact qcj p' m q' e1 e2 (qhf e3) (qhg e4) e5 e6 e7
  | false=>
   refine substr (if_neg Bool.false_ne_true) ?_
   show ∃ p' m q',ev c (if c (kx p (n-1)) (kx p n)=true then .ret (p,n,q) else kas_desc f p (n+1) (q+1))=(p',m,q')/\_
   cases hl:c (kx p (n-1)) (kx p n) with
   | true=>refine substr (if_pos rfl) ?_;exact qcj p n q rfl (Array.Perm.refl _) (Nat.le_refl _) (quP) h hq he
   | false=>
    refine substr (if_neg Bool.false_ne_true) ?_
    refine qcM (qeW W f p (n+1) (q+1) (qeI) (qjx hz) (fun i j hij hj=>by
     by_cases hjn:j<n
     ·exact h i j hij hjn
     ·have:j=n:=by exact qhe hj hjn
      subst this
      by_cases hi:i=j
      ·subst hi;exact W.irr _
      ·exact W.tr _ _ _ hl (h i (j-1) (qjs hij hi) (qjt h1))) (quQ hq) (fun i i1 i2=>by
      refine substr (show n+1-1=n by exact quR) ?_
      by_cases hi:i=n
      ·subst hi;exact⟨W.irr _,W.irr _⟩
      ·have:=he i (quS i1) (quT i2 hi)
       exact⟨W.tr _ _ _ hl this.1 |> fun z=>z,W.tr _ _ _ this.2 hs |> fun z=>z⟩)) fun p' m q' e1 e2 e3 e4 e5 e6 e7=>?_
    exact qcj p' m q' e1 e2 (qhf e3) (qhg e4) e5 e6 e7
end
section
variable{c:Nat->Nat->Bool}
theorem qig(W:Weak c){p:Array Nat}{n nrem:Nat}(h1:1<=n)(hn:n<=nrem)(hz:nrem<=p.size)(h:Dsc c p n):
 ∃ m p',ev c (kas_tail3 n nrem p)=(m,p')/\p'.Perm p/\1<=m/\m<=nrem/\Asc c p' m:=by
 unfold kas_tail3
 refine substr (qcZ ..) ?_
 have ha:Asc c (kas_rev p 0 n) n:=fun i j hij hj=>by
  rw[qf4 (qcL hn hz),qf4 (qcL hn hz),if_pos hj,if_pos (qhh hij hj)]
  exact h _ _ (qu0 hij) (qnK hj)
 refine qdq (qif W (kas_rev p 0 n) (nrem-n) n h1 ha) fun a1 a2 a3 _=>?_
 exact qcW _ _ rfl (qay _ _ _) (qu1 h1 a1) (qu2 hn a2) a3
theorem Dsc.rev(W:Weak c){p:Array Nat}{m q:Nat}(hm:m<=p.size)(h:Dsc c p m)(he:∀ i,m-(q+1)<=i->i<m->c (kx p i) (kx p (m-1))=false/\c (kx p (m-1)) (kx p i)=false):Dsc c (kas_rev p (m-(q+1)) m) m:=by
 have key:∀ k,k<m->∃ k',k'<m/\kx (kas_rev p (m-(q+1)) m) k=kx p k'/\(c (kx p k) (kx p k')=false/\c (kx p k') (kx p k)=false):=fun k hk=>by
  rw[qgH hm]
  by_cases hb:m-(q+1)<=k/\k<m
  ·refine substr (if_pos hb) ?_
   refine(qeb (m-(q+1)+m-1-k) (qhi hb.1 hb.2) rfl ?_)
   have b1:=he k hb.1 hb.2
   have b2:=he (m-(q+1)+m-1-k) (qnI hk) (qhi hb.1 hb.2)
   exact⟨W.tr _ _ _ b2.2 b1.1,W.tr _ _ _ b1.2 b2.1⟩
  ·refine substr (if_neg hb) ?_
   exact qjB k hk rfl (W.irr _) (W.irr _)
 intro i j hij hj
 refine qdb (key i (qhh hij hj)) fun i' i1 i2 i3 i4=>?_
 refine qdb (key j hj) fun j' j1 j2 j3 j4=>?_
 refine substr i2 (substr j2 ?_)
 exact W.tr _ _ _ j3 (W.tr _ _ _ (h i j hij hj) i4)
theorem qe9(W:Weak c){p:Array Nat}{n nrem:Nat}(hn:n+1<=nrem)(hz:nrem<=p.size)(h:Dsc c p (n+1)):
 ∃ m p',ev c (kas_descPart n nrem p)=(m,p')/\p'.Perm p/\1<=m/\m<=nrem/\Asc c p' m:=by
 unfold kas_descPart
 refine substr (qcZ ..) ?_
 refine qcM (qeW W (nrem-(n+1)) p (n+1) 0 (qeI) (qu3 hn hz) h (qjv) (fun i i1 i2=>by have:i=n+1-1:=(qjw i1 i2);subst this;exact⟨W.irr _,W.irr _⟩)) fun p' m q' e1 e2 e3 e4 e5 e6 e7=>?_
 refine substr e1 ?_
 dsimp only
 have hs:p'.size=p.size:=e2.size_eq
 by_cases hq:q'>0
 ·refine substr (if_pos hq) ?_
  refine qbi (qig W (p:=kas_rev p' (m-(q'+1)) m) (n:=m) (nrem:=nrem) (qnL e6) (qnM hn e4) (by refine substr (show(kas_rev p' (m-(q'+1)) m).size=p'.size from mirror_size _ _ _ _) ?_;exact qnN hz hs) (e5.rev W (qu4 hn hz e4 hs) e7)) fun m2 p2 f1 f2 f3 f4 f5=>?_
  exact qcW m2 p2 f1 (f2.trans ((qay _ _ _).trans e2)) f3 f4 f5
 ·refine substr (if_neg hq) ?_
  refine qbi (qig W (p:=p') (n:=m) (nrem:=nrem) (qnL e6) (qnM hn e4) (qnN hz hs) e5) fun m2 p2 f1 f2 f3 f4 f5=>?_
  exact qcW m2 p2 f1 (f2.trans e2) f3 f4 f5
theorem qmk(W:Weak c){p:Array Nat}{nrem:Nat}(h1:1<=nrem)(hz:nrem<=p.size):
 ∃ m p',ev c (kas_count nrem p)=(m,p')/\p'.Perm p/\1<=m/\m<=nrem/\Asc c p' m:=by
 unfold kas_count
 refine substr (qcZ ..) ?_
 refine qdq (qif W p (nrem-1) 1 (Nat.le_refl _) (fun i j hij hj=>by have:i=j:=(qu5 hij hj);subst this;exact W.irr _)) fun a1 a2 a3 a4=>?_
 generalize ev c (kas_asc p (nrem-1) 1)=n at a1 a2 a3 a4
 by_cases hn:n=nrem
 ·refine substr (if_pos (by simpa using hn)) ?_
  exact qcW n p rfl (Array.Perm.refl _) a1 (qji hn) a3
 ·refine substr (if_neg (by simpa using hn)) ?_
  have hlt:c (kx p n) (kx p (n-1))=true:=a4.resolve_left (qu6 h1 hn)
  by_cases hg:n>1
  ·refine substr (if_pos hg) ?_
   show ∃ m p',ev c (if c (kx p 0) (kx p (n-1))=true then .ret (n,p) else kas_descPart n nrem (kas_rev p 0 n))=(m,p')/\_
   cases hr:c (kx p 0) (kx p (n-1)) with
   | true=>refine substr (if_pos rfl) ?_;exact qcW n p rfl (Array.Perm.refl _) a1 (qu7 h1 a2) a3
   | false=>
    refine substr (if_neg Bool.false_ne_true) ?_
    have all:∀ i,i<n->c (kx p i) (kx p (n-1))=false/\c (kx p (n-1)) (kx p i)=false:=fun i hi=>
     ⟨W.tr (kx p (n-1)) (kx p 0) (kx p i) hr (a3 0 i (Nat.zero_le _) hi),a3 i (n-1) (qu8 hi) (qu9 hg)⟩
    have hd:Dsc c (kas_rev p 0 n) (n+1):=fun i j hij hj=>by
     rw[qf4 (qnO h1 hz a2),qf4 (qnO h1 hz a2)]
     by_cases hjn:j<n
     ·refine substr (if_pos hjn) (substr (if_pos (qhh hij hjn)) ?_)
      exact W.tr _ _ _ (all (n-1-j) (qlC hjn)).2 (all (n-1-i) (qnK hjn)).1
     ·have:j=n:=by exact qhe hj hjn
      subst this
      refine substr (if_neg hjn) ?_
      by_cases hi:i<j
      ·refine substr (if_pos hi) ?_
       exact W.tr _ _ _ (W.as _ _ hlt) (all (j-1-i) (qlC hi)).1
      ·have:i=j:=by exact qnP hij hi
       subst this
       refine substr (if_neg hi) ?_;exact W.irr _
    refine qbi (qe9 W (p:=kas_rev p 0 n) (n:=n) (nrem:=nrem) (qva h1 a2 hn) (by refine substr (show(kas_rev p 0 n).size=p.size from mirror_size _ _ _ _) ?_;exact qd7 hz) hd) fun m p' f1 f2 f3 f4 f5=>?_
    exact qcW m p' f1 (f2.trans (qay _ _ _)) f3 f4 f5
  ·refine substr (if_neg hg) ?_
   have:n=1:=by exact qvb a1 hg
   subst this
   exact qe9 W (qvc h1 hn) hz fun i j hij hj=>by
    by_cases hi:i=j
    ·subst hi;exact W.irr _
    ·have h0:i=0:=by exact qvd hij hj hi
     have h1:j=1:=qve hj hi h0
     subst h0 h1
     exact W.as _ _ hlt
theorem qfr(W:Weak c){p:Array Nat}{k:Nat}(hs:Asc c p k):∀(f l r:Nat),l<=r->r<=k->r-l<=f->(∀ i,i<l->c (kx p k) (kx p i)=false)->(∀ i,r<=i->i<k->c (kx p k) (kx p i)=true)->
 ev c (kas_place p k f l r)<=k/\(∀ i,i<ev c (kas_place p k f l r)->c (kx p k) (kx p i)=false)/\(∀ i,ev c (kas_place p k f l r)<=i->i<k->c (kx p k) (kx p i)=true)
 | 0,l,r,h1,h2,h3,h4,h5=>(iAA (by show l<=k;exact qcL h1 h2) h4 (fun i hi hk=>h5 i (by have:l<=i:=hi;exact qvf h3 this) hk))
 | f+1,l,r,h1,h2,h3,h4,h5=>by
  unfold kas_place
  by_cases hge:l≥r
  ·refine substr (if_pos hge) ?_
   exact iAA (by show l<=k;exact qcL h1 h2) h4 (fun i hi hk=>h5 i (by have:l<=i:=hi;exact qvg hge this) hk)
  ·refine substr (if_neg hge) ?_
   show ev c (if c (kx p k) (kx p ((l+r)/2))=true then kas_place p k f l ((l+r)/2) else kas_place p k f ((l+r)/2+1) r)<=k/\(∀ i,i<ev c (if c (kx p k) (kx p ((l+r)/2))=true then kas_place p k f l ((l+r)/2) else kas_place p k f ((l+r)/2+1) r)->_)/\(∀ i,ev c (if c (kx p k) (kx p ((l+r)/2))=true then kas_place p k f l ((l+r)/2) else kas_place p k f ((l+r)/2+1) r)<=i->_)
   cases q:c (kx p k) (kx p ((l+r)/2)) with
   | true=>
    refine substr (if_pos rfl) ?_
    refine qfr W hs f l ((l+r)/2) (qnQ hge) (qnR h2 hge) (qvh h3) h4 fun i hi hk=>?_
    cases z:c (kx p k) (kx p i) with
    | true=>rfl
    | false=>
     have:=W.tr _ _ _ (hs ((l+r)/2) i hi hk) z
     rw[q] at this;cases this
   | false=>
    refine substr (if_neg Bool.false_ne_true) ?_
    exact qfr W hs f ((l+r)/2+1) r (qnS hge) (qd7 h2) (qvi h3) (fun i hi=>W.tr _ _ _ (hs i ((l+r)/2) (qvj hi) (qvk h2 hge)) q) h5
theorem qld(W:Weak c):∀(f:Nat) (p:Array Nat) (k:Nat),k+f<=p.size->Asc c p k->(ev c (kas_bin f p k)).Perm p/\Asc c (ev c (kas_bin f p k)) (k+f)
 | 0,p,k,_,h=>⟨Array.Perm.refl _,h⟩
 | f+1,p,k,hz,h=>by
  refine(qcZ ..:ev c ((kas_place p k k 0 k).bind fun l=>kas_bin f (bubble p k (k-l)) (k+1))=_)▸?_
  refine oAA (qfr W h k 0 k (Nat.zero_le _) (Nat.le_refl _) (qvl) (fun i hi=>by exact(qvm hi).elim) (fun i h1 h2=>by exact(qvn h1 h2).elim)) fun a1 a2 a3=>?_
  generalize ev c (kas_place p k k 0 k)=l at a1 a2 a3
  have hb:Asc c (bubble p k (k-l)) (k+1):=fun i j hij hj=>by
   rw[qlc (qju hz) (qnT),qlc (qju hz) (qnT),show k-(k-l)=l by exact qvo a1]
   repeat' split
   all_goals first
    | (exfalso;(first | exact as7 hij (by assumption) (by assumption) | exact as8 hij hj (by assumption) (by assumption) (by assumption) | exact as9 hij hj (by assumption) (by assumption)))
    | exact W.irr _
    | exact a2 _ (qvp hij (by assumption) (by assumption))
    | exact W.as _ _ (a3 _ (by exact qzb (by assumption)) (by exact qp0 (by assumption)))
    | exact h _ _ (by(first | exact qzc hij | exact qzd hij (by assumption) (by assumption) | exact qze hij)) (by(first | exact qp0 (by assumption) | exact qzf a1 hj (by assumption) (by assumption)))
  obtain⟨b1,b2⟩:=qld W f (bubble p k (k-l)) (k+1) (by refine substr (bubble_size ..) ?_;exact qjx hz) hb
  exact⟨b1.trans (bubble_perm _ _ _),by refine substr (show k+(f+1)=k+1+f by exact qvq) ?_;exact b2⟩
theorem qpp(W:Weak c){n:Nat}(hn:1<=n):(ev c (kas_sort n)).Perm (List.toArray (List.range n))/\Asc c (ev c (kas_sort n)) n:=by
 unfold kas_sort
 refine substr (qcZ ..) ?_
 have hz:(List.toArray (List.range n)).size=n:=by simp
 refine qbi (qmk W (p:=List.toArray (List.range n)) hn (Nat.le_of_eq hz.symm)) fun m p' e1 e2 e3 e4 e5=>?_
 refine substr e1 ?_
 dsimp only
 have hs:p'.size=n:=by refine substr e2.size_eq (substr hz rfl)
 by_cases hm:m<n
 ·refine substr (if_pos hm) (substr (show max m 1=m by exact qnU e3) ?_)
  obtain⟨b1,b2⟩:=qld W (n-m) p' m (qvr hs hm) e5
  exact⟨b1.trans e2,by refine substr (show n=m+(n-m) by exact qvs hm) ?_;refine substr (show m+(n-m)-m=n-m by exact qvt) ?_;exact b2⟩
 ·refine substr (if_neg hm) ?_
  have:m=n:=by exact qnP e4 hm
  subst this
  exact⟨e2,e5⟩
end
section
variable{A:Around}{s:Shared}
theorem qg5{a:Addr}{vs:List Value}{n:Nat}{κ:SortKind}{R:Array Value->Prop}{P:PySem.Fin->Shared->Prop}(ho:s.heap.get? a=some (seqObj "list" vs.toArray n)) (h2:2<=vs.length) (hz:vs.length<=1000)
 (hk:∀(s':Shared) (Q:SortKind->Shared->Prop),(∀ b o,b≠a->s.heap.get? b=some o->s'.heap.get? b=some o)->Q κ s'->wpAny (model prog w) A (keyKind' vs.toArray) Q E s')
 (hr:∀ s':Shared,(∀ b o,b≠a->s.heap.get? b=some o->s'.heap.get? b=some o)->
  wpAny (model prog w) A ((sortRuns').run (SortSt.mk' κ (vs.toArray.zip vs.toArray) #[] 7 none)) (fun r s''=>s''=s'/\failedOf r.2=none/\R ((arrOf r.2).map (·.2))) E s')
 (hR:∀ out,R out->out.size=vs.length)
 (h:∀ out,R out->P (.done (.ret .none)) { s with heap:=sortedHeap s.heap a vs out }):wpAny (model prog w) A (Builtin.«list.sort» ⟨[.ref a],[]⟩) P E s:=by
 have big:(1000:Nat)<=sizeLine:=by decide
 refine substr (list_sort_plain ..) ?_
 have ha:a<s.heap.objs.size:=Heap.lt_size ho
 refine wpAny_bind (listItems_at ho rfl ?_)
 refine wpAny_bind (listUpdate_at ho rfl ?_ (by refine substr List.size_toArray ?_;exact qhj hz big) (Nat.zero_le _))
 obtain⟨e1,ho1⟩:∃ e1,(s.heap.update a (Obj.mapSeq fun _=>#[])).get? a=some (seqObj "list" #[] e1):=⟨_,get?_update_seq ho (fun _=>#[])⟩
 refine wpAny_bind (seqEpoch_at ho1 rfl ?_)
 refine wpAny_bind (wpAny_newTuple ?_ (by show vs.length<=_;exact qhj hz big))
 refine wpAny_bind (wpAny_newList ?_ (Nat.zero_le _))
 refine wpAny_holding ?_
 have ho6:(((s.heap.update a (Obj.mapSeq fun _=>#[])).push (seqObj "tuple" vs.toArray 0)).push (seqObj "list" #[] 0)).get? a=some (seqObj "list" #[] e1):=by
  refine substr (Heap.get?_push_ne _ _ _ (by refine substr (size_push' ..) (substr (Heap.size_update ..) ?_);exact Nat.ne_of_lt (Nat.lt_succ_of_lt ha))) (substr (Heap.get?_push_ne _ _ _ (by refine substr (Heap.size_update ..) ?_;exact Nat.ne_of_lt ha)) ?_)
  exact ho1
 have keep:∀ b o,b≠a->s.heap.get? b=some o->(((s.heap.update a (Obj.mapSeq fun _=>#[])).push (seqObj "tuple" vs.toArray 0)).push (seqObj "list" #[] 0)).get? b=some o:=fun b o hb e=>
  Heap.get?_push_of_some _ (Heap.get?_push_of_some _ ((Heap.get?_update_ne _ _ _ _ hb).trans e))
 show wpAny (model prog w) A _ P E { s with heap:=((s.heap.update a (Obj.mapSeq fun _=>#[])).push (seqObj "tuple" vs.toArray 0)).push (seqObj "list" #[] 0) }
 dsimp only
 have hn2:¬ vs.toArray.size<2:=by refine substr List.size_toArray ?_;exact qvu h2
 refine substr (if_neg hn2) (substr (if_neg hn2) ?_)
 refine wpAny_bind (hk _ _ keep ?_)
 refine wpAny_bind (wpAny_mono (hr _ keep) ?_ fun _ _ e=>e)
 rintro⟨⟨⟩,st'⟩ s' ⟨rfl,hf,hRR⟩
 dsimp only
 refine wpAny_bind (seqEpoch_at ho6 rfl ?_)
 refine wpAny_bind (listUpdate_at ho6 rfl ?_ (Nat.zero_le _) (by refine substr (hR _ hRR) ?_;exact qvv hz big))
 refine substr hf ?_
 simp only[bne_self_eq_false,Bool.false_eq_true,if_false]
 exact wpAny_pure (h _ hRR)
theorem qf5{l:Addr}{vs:List Value}{κ:SortKind}{R:Array Value->Prop}{Q:Value->Shared->Prop}(hl:s.heap.IsList l vs.toArray)(h2:2<=vs.length)(hz:vs.length<=1000)
 (hk:∀(A':Around) (E':Value->Shared->Prop) (s':Shared) (Q:SortKind->Shared->Prop),(∀ b o,s.heap.get? b=some o->s'.heap.get? b=some o)->Q κ s'->wpAny (model prog w) A' (keyKind' vs.toArray) Q E' s')
 (hr:∀(A':Around) (E':Value->Shared->Prop) (s':Shared),(∀ b o,s.heap.get? b=some o->s'.heap.get? b=some o)->
  wpAny (model prog w) A' ((sortRuns').run (SortSt.mk' κ (vs.toArray.zip vs.toArray) #[] 7 none)) (fun r s''=>s''=s'/\failedOf r.2=none/\R ((arrOf r.2).map (·.2))) E' s')
 (hR:∀ out,R out->out.size=vs.length)
 (h:∀ out,R out->Q (.ref (s.heap.objs.size+1)) { s with heap:=sortedAll s.heap vs out }):wpAny (model prog w) A (call (.builtin "sorted") [.ref l]) Q E s:=by
 have big:(1000:Nat)<=sizeLine:=by decide
 refine Calls.call_function_entry kind_sorted plain_sorted entry_sorted (args_sorted1 _) ?_
 unfold Builtin.«sorted»
 refine wpAny_bind (m:=checkCount "sorted" 1 1 _) (wpAny_pure ?_)
 refine wpAny_bind (collect_list hl ?_ (qhj hz big))
 refine wpAny_bind (wpAny_newList ?_ (qhj hz big))
 have hsz:((s.heap.push (seqObj "list" #[] 0)).update s.heap.objs.size (Obj.mapSeq (·++vs.toArray))).objs.size=s.heap.objs.size+1:=by
  refine substr (Heap.size_update ..) (substr (size_push' ..) rfl)
 have hoL:(((s.heap.push (seqObj "list" #[] 0)).update s.heap.objs.size (Obj.mapSeq (·++vs.toArray))).push (seqObj "list" vs.toArray 0)).get? (s.heap.objs.size+1)=some (seqObj "list" vs.toArray 0):=by
  refine substr hsz.symm ?_;exact Heap.get?_push_size _ rfl
 have keep:∀ b o,s.heap.get? b=some o->(((s.heap.push (seqObj "list" #[] 0)).update s.heap.objs.size (Obj.mapSeq (·++vs.toArray))).push (seqObj "list" vs.toArray 0)).get? b=some o:=fun b o q=>
  Heap.get?_push_of_some _ ((Heap.get?_update_ne _ _ _ _ (Nat.ne_of_lt (Heap.lt_size q))).trans (Heap.get?_push_of_some _ q))
 have lt:∀ b o,s.heap.get? b=some o->b≠s.heap.objs.size+1:=fun b o q=>Nat.ne_of_lt (Nat.lt_succ_of_lt (Heap.lt_size q))
 show wpAny _ _ _ _ _ { s with heap:=((s.heap.push (seqObj "list" #[] 0)).update s.heap.objs.size (Obj.mapSeq (·++vs.toArray))).push (seqObj "list" vs.toArray 0) }
 refine substr hsz ?_
 refine wpAny_bind (wpAny_holding (wpAny_call_entry slot_list_sort ⟨_,hoL,rfl⟩ entry_list_sort (qg5 (κ:=κ) (R:=R) hoL h2 hz (fun s' Q k q=>hk _ _ s' Q (fun b o e=>k b o (lt b o e) (keep b o e)) q) (fun s' k=>hr _ _ s' fun b o e=>k b o (lt b o e) (keep b o e)) hR fun out ho=>(iEA _ rfl ?_)) (args_list_sort _)))
 exact wpAny_pure (iEA _ rfl (h out ho))
end
noncomputable def InT{α:Type}(n:Nat)(P:α->Prop):KasT α->Prop
 | .ret a=>P a
 | .ask i j k=>i<n/\j<n/\∀ b,InT n P (k b)
theorem InT.bind{α β:Type}{n:Nat}{P:α->Prop}{R:β->Prop}{f:α->KasT β}(hf:∀ a,P a->InT n R (f a)):∀ {t:KasT α},InT n P t->InT n R (t.bind f)
 | .ret a,h=>hf a h
 | .ask i j k,h=>⟨h.1,h.2.1,fun b=>InT.bind hf (h.2.2 b)⟩
theorem InT.wp{α:Type}{n:Nat}{P:α->Prop}{cmp:Nat->Nat->(Bool->Shared->Prop)->Shared->Prop}{c:Nat->Nat->Bool}{s:Shared}(hc:∀ i j (C:Bool->Shared->Prop),i<n->j<n->C (c i j) s->cmp i j C s){Q:α->Shared->Prop}:
 ∀ {t:KasT α},InT n P t->Q (ev c t) s->t.kasWp cmp Q s
 | .ret _,_,h=>h
 | .ask i j k,d,h=>hc i j _ d.1 d.2.1 (InT.wp hc (d.2.2 (c i j)) h)
noncomputable def Lo(n:Nat)(p:Array Nat):Prop:=∀ x∈p.toList,x<n
theorem Lo.kx{p:Array Nat}(h:Lo n p)(h0:0<n)(i:Nat):p.getD i 0<n:=by
 refine substr Array.getD_eq_getD_getElem? ?_
 cases q:p[i]? with
 | none=>exact h0
 | some x=>exact h x (by obtain⟨hi,rfl⟩:=Array.getElem?_eq_some_iff.mp q;simp)
theorem Lo.perm{p q:Array Nat}(h:Lo n p)(e:q.Perm p):Lo n q:=fun x hx=>h x ((Array.perm_iff_toList_perm.mp e).mem_iff.mp hx)
theorem qih{p:Array Nat}(h:Lo n p)(h0:0<n):∀ f a,InT n (fun _=>True) (kas_asc p f a)
 | 0,a=>trivial
 | f+1,a=>⟨h.kx h0 _,h.kx h0 _,fun b=>by
  show InT n _ (if b=true then _ else _)
  cases b with
  | true=>refine substr (if_pos rfl) ?_;exact trivial
  | false=>refine substr (if_neg Bool.false_ne_true) ?_;exact qih h h0 f (a+1)⟩
theorem qeX(h0:0<n):∀ f (p:Array Nat) a q,Lo n p->InT n (fun r:Array Nat×Nat×Nat=>Lo n r.1) (kas_desc f p a q)
 | 0,p,a,q,h=>h
 | f+1,p,a,q,h=>⟨h.kx h0 _,h.kx h0 _,fun b=>by
  show InT n _ (if b=true then _ else _)
  cases b with
  | true=>
   refine substr (if_pos rfl) ?_
   split
   ·exact qeX h0 f _ _ _ (h.perm (qay _ _ _))
   ·exact qeX h0 f _ _ _ h
  | false=>
   refine substr (if_neg Bool.false_ne_true) ?_
   refine⟨h.kx h0 _,h.kx h0 _,fun d=>?_⟩
   show InT n _ (if d=true then _ else _)
   cases d with
   | true=>refine substr (if_pos rfl) ?_;exact h
   | false=>refine substr (if_neg Bool.false_ne_true) ?_;exact qeX h0 f _ _ _ h⟩
theorem qii(h0:0<n){p:Array Nat}{a b:Nat}(h:Lo n p):InT n (fun r:Nat×Array Nat=>Lo n r.2) (kas_tail3 a b p):=by
 unfold kas_tail3
 refine InT.bind (fun m _=>?_) (qih (h.perm (qay _ _ _)) h0 _ _)
 exact h.perm (qay _ _ _)
theorem qfa(h0:0<n){p:Array Nat}{a b:Nat}(h:Lo n p):InT n (fun r:Nat×Array Nat=>Lo n r.2) (kas_descPart a b p):=by
 unfold kas_descPart
 refine InT.bind (fun r hr=>?_) (qeX h0 _ _ _ _ h)
 split
 ·exact qii h0 (Lo.perm hr (qay _ _ _))
 ·exact qii h0 hr
theorem qml(h0:0<n){p:Array Nat}{a:Nat}(h:Lo n p):InT n (fun r:Nat×Array Nat=>Lo n r.2) (kas_count a p):=by
 unfold kas_count
 refine InT.bind (fun m _=>?_) (qih h h0 _ _)
 split
 ·exact h
 ·split
  ·refine⟨h.kx h0 _,h.kx h0 _,fun b=>?_⟩
   show InT n _ (if b=true then _ else _)
   cases b with
   | true=>refine substr (if_pos rfl) ?_;exact h
   | false=>refine substr (if_neg Bool.false_ne_true) ?_;exact qfa h0 (h.perm (qay _ _ _))
  ·exact qfa h0 h
theorem qfs(h0:0<n){p:Array Nat}{k:Nat}(h:Lo n p):∀ f l r,InT n (fun _=>True) (kas_place p k f l r)
 | 0,l,r=>trivial
 | f+1,l,r=>by
  unfold kas_place
  split
  ·exact trivial
  ·refine⟨h.kx h0 _,h.kx h0 _,fun b=>?_⟩
   show InT n _ (if b=true then _ else _)
   cases b with
   | true=>refine substr (if_pos rfl) ?_;exact qfs h0 h f _ _
   | false=>refine substr (if_neg Bool.false_ne_true) ?_;exact qfs h0 h f _ _
theorem qle(h0:0<n):∀ f (p:Array Nat) k,Lo n p->InT n (fun _=>True) (kas_bin f p k)
 | 0,p,k,h=>trivial
 | f+1,p,k,h=>InT.bind (fun l _=>qle h0 f _ _ (h.perm (bubble_perm _ _ _))) (qfs h0 h _ _ _)
theorem qpq(h0:0<n):InT n (fun _=>True) (kas_sort n):=by
 unfold kas_sort
 refine InT.bind (fun r hr=>?_) (qml h0 (fun x hx=>by simpa using hx))
 split
 ·exact qle h0 _ _ _ hr
 ·exact trivial
noncomputable def tl(x y:Nat×Str×Nat):Bool:=
 if x.1=y.1 then(if x.2.1=y.2.1 then decide (x.2.2<y.2.2) else ltS x.2.1 y.2.1) else decide (x.1<y.1)
theorem qqR(x:Nat×Str×Nat):tl x x=false:=by simp[tl]
theorem qxy{x y:Nat×Str×Nat}(h:tl x y=true):tl y x=false:=by
 obtain⟨a,n,b⟩:=x
 obtain⟨a',n',b'⟩:=y
 unfold tl at h ⊢
 dsimp only at h ⊢
 by_cases h1:a=a'
 ·subst h1
  rw[if_pos rfl] at h ⊢
  by_cases h2:n=n'
  ·subst h2
   rw[if_pos rfl] at h ⊢
   simp at h ⊢;exact qd8 h
  ·rw[if_neg h2] at h
   refine substr (if_neg (Ne.symm h2)) ?_
   exact qex h
 ·rw[if_neg h1] at h
  refine substr (if_neg (Ne.symm h1)) ?_
  simp at h ⊢;exact qd8 h
theorem qxz{x y z:Nat×Str×Nat}(h:tl y x=false)(k:tl z y=false):tl z x=false:=by
 obtain⟨a,n,b⟩:=x
 obtain⟨a',n',b'⟩:=y
 obtain⟨a2,n2,b2⟩:=z
 unfold tl at h k ⊢
 dsimp only at h k ⊢
 by_cases h1:a'=a
 ·subst h1
  rw[if_pos rfl] at h
  by_cases k1:a2=a'
  ·subst k1
   rw[if_pos rfl] at k ⊢
   by_cases h2:n'=n
   ·subst h2
    rw[if_pos rfl] at h
    by_cases k2:n2=n'
    ·subst k2
     rw[if_pos rfl] at k ⊢
     simp at h k ⊢;exact qcL h k
    ·rw[if_neg k2] at k ⊢;exact k
   ·rw[if_neg h2] at h
    by_cases k2:n2=n'
    ·subst k2
     refine substr (if_neg h2) ?_;exact h
    ·rw[if_neg k2] at k
     by_cases e:n2=n
     ·subst e
      exact absurd (qeV h k) h2
     ·refine substr (if_neg e) ?_;exact qla h k
  ·rw[if_neg k1] at k ⊢;exact k
 ·rw[if_neg h1] at h
  by_cases k1:a2=a'
  ·subst k1
   refine substr (if_neg h1) ?_;exact h
  ·rw[if_neg k1] at k
   simp at h k
   refine substr (if_neg (qvw k1 h k)) ?_
   simp;exact qcL h k
noncomputable def leT(x y:Nat×Str×Nat):Prop:=tl y x=false
theorem qmm{x y:Nat×Str×Nat}(h:leT x y)(k:leT y x):x=y:=by
 obtain⟨a,n,b⟩:=x
 obtain⟨a',n',b'⟩:=y
 unfold leT tl at h k
 dsimp only at h k
 by_cases h1:a=a'
 ·subst h1
  rw[if_pos rfl] at h k
  by_cases h2:n=n'
  ·subst h2
   rw[if_pos rfl] at h k
   simp at h k
   have:b=b':=by exact qje h k
   refine substr this rfl
  ·rw[if_neg (Ne.symm h2)] at h
   rw[if_neg h2] at k
   exact absurd (qeV k h) h2
 ·rw[if_neg (Ne.symm h1)] at h
  rw[if_neg h1] at k
  simp at h k;exact(qvx h1 h k).elim
theorem qlf{xs ys:List (Nat×Str×Nat)}(hp:xs.Perm ys)(hx:xs.Pairwise leT)(hy:ys.Pairwise leT):xs=ys:=
 List.Perm.eq_of_pairwise (le:=leT) (fun a b _ _ h1 h2=>qmm h1 h2) hx hy hp
section
variable{A:Around}{s:Shared}
theorem qpr(vs:List Value):(vs.toArray.zip vs.toArray).map (·.2)=vs.toArray:=by
 apply Array.toList_inj.mp
 refine substr Array.toList_map (substr Array.toList_zip ?_)
 exact List.map_snd_zip (Nat.le_refl _)
theorem qf6{a:Addr}{vs:List Value}{n:Nat}{P:PySem.Fin->Shared->Prop}(ho:s.heap.get? a=some (seqObj "list" vs.toArray n)) (h2:vs.length<2)
 (h:P (.done (.ret .none)) { s with heap:=sortedHeap s.heap a vs vs.toArray }):wpAny (model prog w) A (Builtin.«list.sort» ⟨[.ref a],[]⟩) P E s:=by
 have big:(1000:Nat)<=sizeLine:=by decide
 refine substr (list_sort_plain ..) ?_
 have ha:a<s.heap.objs.size:=Heap.lt_size ho
 refine wpAny_bind (listItems_at ho rfl ?_)
 refine wpAny_bind (listUpdate_at ho rfl ?_ (by refine substr List.size_toArray ?_;exact qhk h2 big) (Nat.zero_le _))
 obtain⟨e1,ho1⟩:∃ e1,(s.heap.update a (Obj.mapSeq fun _=>#[])).get? a=some (seqObj "list" #[] e1):=⟨_,get?_update_seq ho (fun _=>#[])⟩
 refine wpAny_bind (seqEpoch_at ho1 rfl ?_)
 refine wpAny_bind (wpAny_newTuple ?_ (by show vs.length<=_;exact qhk h2 big))
 refine wpAny_bind (wpAny_newList ?_ (Nat.zero_le _))
 refine wpAny_holding ?_
 have ho6:(((s.heap.update a (Obj.mapSeq fun _=>#[])).push (seqObj "tuple" vs.toArray 0)).push (seqObj "list" #[] 0)).get? a=some (seqObj "list" #[] e1):=by
  refine substr (Heap.get?_push_ne _ _ _ (by refine substr (size_push' ..) (substr (Heap.size_update ..) ?_);exact Nat.ne_of_lt (Nat.lt_succ_of_lt ha))) (substr (Heap.get?_push_ne _ _ _ (by refine substr (Heap.size_update ..) ?_;exact Nat.ne_of_lt ha)) ?_)
  exact ho1
 show wpAny (model prog w) A _ P E { s with heap:=((s.heap.update a (Obj.mapSeq fun _=>#[])).push (seqObj "tuple" vs.toArray 0)).push (seqObj "list" #[] 0) }
 dsimp only
 have hn2:vs.toArray.size<2:=by refine substr List.size_toArray ?_;exact qvy h2
 refine substr (if_pos hn2) (substr (if_pos hn2) ?_)
 refine wpAny_bind (wpAny_pure ?_)
 refine substr (StateT.run_pure ..) ?_
 refine wpAny_bind (wpAny_pure ?_)
 dsimp only
 refine wpAny_bind (seqEpoch_at ho6 rfl ?_)
 have hout:Array.map (fun x=>x.2) (arrOf (SortSt.mk' general' (vs.toArray.zip vs.toArray) #[] 7 none))=vs.toArray:=qpr vs
 refine substr hout ?_
 refine wpAny_bind (listUpdate_at ho6 rfl ?_ (Nat.zero_le _) (by refine substr List.size_toArray ?_;exact qvz h2))
 simp only[bne_self_eq_false,Bool.false_eq_true,if_false]
 exact wpAny_pure h
theorem qij{l:Addr}{vs:List Value}{Q:Value->Shared->Prop}(hl:s.heap.IsList l vs.toArray)(h2:vs.length<2)
 (h:Q (.ref (s.heap.objs.size+1)) { s with heap:=sortedAll s.heap vs vs.toArray }):wpAny (model prog w) A (call (.builtin "sorted") [.ref l]) Q E s:=by
 have big:(1000:Nat)<=sizeLine:=by decide
 refine Calls.call_function_entry kind_sorted plain_sorted entry_sorted (args_sorted1 _) ?_
 unfold Builtin.«sorted»
 refine wpAny_bind (m:=checkCount "sorted" 1 1 _) (wpAny_pure ?_)
 refine wpAny_bind (collect_list hl ?_ (qhk h2 big))
 refine wpAny_bind (wpAny_newList ?_ (qhk h2 big))
 have hsz:((s.heap.push (seqObj "list" #[] 0)).update s.heap.objs.size (Obj.mapSeq (·++vs.toArray))).objs.size=s.heap.objs.size+1:=by
  refine substr (Heap.size_update ..) (substr (size_push' ..) rfl)
 have hoL:(((s.heap.push (seqObj "list" #[] 0)).update s.heap.objs.size (Obj.mapSeq (·++vs.toArray))).push (seqObj "list" vs.toArray 0)).get? (s.heap.objs.size+1)=some (seqObj "list" vs.toArray 0):=by
  refine substr hsz.symm ?_;exact Heap.get?_push_size _ rfl
 show wpAny _ _ _ _ _ { s with heap:=((s.heap.push (seqObj "list" #[] 0)).update s.heap.objs.size (Obj.mapSeq (·++vs.toArray))).push (seqObj "list" vs.toArray 0) }
 refine substr hsz ?_
 refine wpAny_bind (wpAny_holding (wpAny_call_entry slot_list_sort ⟨_,hoL,rfl⟩ entry_list_sort (qf6 hoL h2 (iEA _ rfl ?_)) (args_list_sort _)))
 exact wpAny_pure (iEA _ rfl h)
noncomputable def TupAt(h:Heap)(a:Addr)(t:Nat×Str×Nat):Prop:=∃ t1 t2 t3 n,h.get? a=some { cls:=.type "tuple",data:=.seq #[.int t.1 t1,.str t.2.1 t2,.int t.2.2 t3] n }
theorem qqS{a b:Addr}{x y:Nat×Str×Nat}{Q:Bool->Shared->Prop}(hx:TupAt s.heap a x)(hy:TupAt s.heap b y)(h:Q (tl x y) s):wpAny (model prog w) A (keyLt' (tuples' true) (.ref a) (.ref b)) Q E s:=by
 refine qch hx fun t1 t2 t3 n ex=>?_
 refine qch hy fun u1 u2 u3 m ey=>?_
 refine kat_lt ex rfl ey rfl ?_
 obtain⟨p,q,r⟩:=x
 obtain⟨p',q',r'⟩:=y
 unfold tl at h
 dsimp only at h
 have ei:∀ {i j:Nat},((i:Int)==(j:Int))=true->i=j:=fun e=>by have:=beq_iff_eq.mp e;exact qvA this
 have en:∀ {i j:Nat},((i:Int)==(j:Int))=false->¬ i=j:=fun e c=>by subst c;simp at e
 have el:∀ i j:Nat,decide ((i:Int)<(j:Int))=decide (i<j):=fun i j=>by
  by_cases c:i<j
  ·refine substr (decide_eq_true c) (substr (decide_eq_true (qnq c)) rfl)
  ·refine substr (decide_eq_false c) (substr (decide_eq_false (qnr c)) rfl)
 refine kat_cons (wpAny_eqBool_int (kat_go (fun e=>?_) fun e=>?_))
 ·have e:=ei e
  subst e
  rw[if_pos rfl] at h
  refine kat_yes (kat_cons (eqBool_str (kat_go (fun e2=>?_) fun e2=>?_)))
  ·have e2:q=q':=beq_iff_eq.mp e2
   subst e2
   rw[if_pos rfl] at h
   refine kat_yes (kat_cons (wpAny_eqBool_int (kat_go (fun e3=>?_) fun e3=>?_)))
   ·have e3:=ei e3
    subst e3
    refine kat_yes (kat_nil ?_)
    rw[decide_eq_false (Nat.lt_irrefl _)] at h
    exact h
   ·refine kat_no (kat_one _ _ (lt_int ?_))
    refine substr (el ..) ?_;exact h
  ·have e2:¬ q=q':=fun c=>by subst c;simp at e2
   rw[if_neg e2] at h
   exact kat_no (kat_one _ _ (lt_str h))
 ·rw[if_neg (en e)] at h
  refine kat_no (oneLt_int ?_)
  refine substr (el ..) ?_;exact h
noncomputable def TAll(H:AH):List Addr->List (Nat×Str×Nat)->Prop
 | [],[]=>True
 | a::as,t::ts=>H a=some (tup [I t.1,S t.2.1,I t.2.2])/\TAll H as ts
 | _,_=>False
theorem TAll.len{H:AH}:∀ {as:List Addr} {ts:List (Nat×Str×Nat)},TAll H as ts->as.length=ts.length
 | [],[],_=>rfl
 | a::as,t::ts,h=>by simp[TAll.len h.2]
 | [],_::_,h=>h.elim
 | _::_,[],h=>h.elim
theorem TAll.get{H:AH}:∀ {as:List Addr} {ts:List (Nat×Str×Nat)},TAll H as ts->∀ i,i<as.length->H (as.getD i 0)=some (tup [I (ts.getD i (0,emp,0)).1,S (ts.getD i (0,emp,0)).2.1,I (ts.getD i (0,emp,0)).2.2])
 | [],[],_,i,hi=>by simp at hi
 | a::as,t::ts,h,0,_=>h.1
 | a::as,t::ts,h,i+1,hi=>TAll.get h.2 i (by simpa using hi)
 | [],_::_,h,_,_=>h.elim
 | _::_,[],h,_,_=>h.elim
theorem TAll.pick{H:AH}{as:List Addr}{ts:List (Nat×Str×Nat)}(h:TAll H as ts):∀ p:List Nat,(∀ i∈p,i<as.length)->TAll H (p.map (as.getD · 0)) (p.map (ts.getD · (0,emp,0)))
 | [],_=>trivial
 | i::p,hp=>⟨h.get i (hp i (mem_cons_self ..)),TAll.pick h p fun j hj=>hp j (List.mem_cons_of_mem _ hj)⟩
theorem TAll.to{H H':AH}(k:∀ a d,H a=some d->H' a=some d):∀ {as:List Addr} {ts:List (Nat×Str×Nat)},TAll H as ts->TAll H' as ts
 | [],[],_=>trivial
 | a::as,t::ts,h=>⟨k _ _ h.1,TAll.to k h.2⟩
 | [],_::_,h=>h.elim
 | _::_,[],h=>h.elim
theorem map_getD{α:Type}(d:α):∀ l:List α,(List.range l.length).map (l.getD · d)=l:=fun l=>by
 refine List.ext_getElem (by simp) fun i h1 h2=>?_
 simp[h2]
theorem qeY:∀ {us:List Value} {as:List Addr},us.map norm=as.map Value.ref->us=as.map Value.ref
 | [],[],_=>rfl
 | u::us,a::as,h=>by
  simp only[map_cons,List.cons.injEq] at h
  refine substr (qz h.1) (substr (qeY h.2) ?_);rfl
 | [],_::_,h=>by simp at h
 | _::_,[],h=>by simp at h
theorem qiY{s:Shared}{a:Addr}{t:Nat×Str×Nat}(hs:At D s M H)(h:H a=some (tup [I t.1,S t.2.1,I t.2.2])):TupAt s.heap a t:=by
 refine qau (hs.own _ _ h) fun _ _ us k e hm=>?_
 refine qaC (qeg hm) fun v1 v2 v3 hvs3 h1 h2 h3=>?_
 obtain⟨t1,rfl⟩:=qD h1
 obtain⟨t2,rfl⟩:=qH h2
 obtain⟨t3,rfl⟩:=qD h3
 exact⟨t1,t2,t3,k,by refine substr e (substr hvs3.symm rfl)⟩
theorem qey(hs:At D s M H){vs:List Value}{out:Array Value}{xs:List Value}(hm:out.toList.map norm=xs):At D { s with heap:=sortedAll s.heap vs out } M (upd H (s.heap.objs.size+1) (lst xs))/\H (s.heap.objs.size+1)=none:=by
 obtain⟨e,he⟩:=sortedAll_at s.heap vs out
 have gone:∀ b,s.heap.objs.size<=b->H b=none/\D.h₀.get? b=none/\b≠D.L:=fun b hb=>(iAA (by
  cases hd:H b with
  | none=>rfl
  | some d=>obtain⟨o,ho⟩:=(hs.own _ _ hd).2.2.some;exact absurd (Heap.lt_size ho) (Nat.not_lt.mpr hb)) (hs.newNone (Heap.get?_none_of_le hb)) (Nat.ne_of_gt (Nat.lt_of_lt_of_le hs.ltL hb)))
 have g:=gone (s.heap.objs.size+1) (Nat.le_succ _)
 exact⟨(hs.grow (s':={ s with heap:=sortedAll s.heap vs out }) fun _ _=>sortedAll_old).add (d:=lst xs) g.2.2 g.2.1 ⟨_,_,he,hm⟩,g.1⟩
theorem qox{h:Heap}:∀ {as:List Addr} {ts:List (Nat×Str×Nat)},TAll H as ts->(∀ a t,H a=some (tup [I t.1,S t.2.1,I t.2.2])->TupAt h a t)->∃ fs,KatTups h (as.map Value.ref) fs/\fs.length=as.length/\∀ v∈fs,∃ i t,v=Value.int i t
 | [],[],_,_=>(qeb ([]) trivial rfl (fun v hv=>by simp at hv))
 | a::as,t::ts,hh,k=>by
  refine qbe (qox hh.2 k) fun fs h1 h2 h3=>?_
  refine qch (k a t hh.1) fun t1 t2 t3 n e=>?_
  refine(qeb (.int t.1 t1::fs) (KatTups.cons e rfl rfl rfl h1) (by simp[h2]) (fun v hv=>?_))
  rcases List.mem_cons.mp hv with rfl | hv
  ·exact iEE _ _ rfl
  ·exact h3 v hv
 | [],_::_,hh,_=>hh.elim
 | _::_,[],hh,_=>hh.elim
theorem qlg{l:Addr}{ads:List Addr}{ts:List (Nat×Str×Nat)}(hl:H l=some (lst (ads.map Value.ref)))(ht:TAll H ads ts)(hz:ads.length<64)
 (h:∀ r ads' ts',H r=none->TAll H ads' ts'->ts'.Perm ts->ts'.Pairwise leT->Φ (.ref r) M (upd H r (lst (ads'.map Value.ref)))):
 ∀ vs,vs.map norm=[.ref l]->WV (model prog w) D (call (.builtin "sorted") ([]++vs)) M H Φ E:=by
 intro vs hvs s hs
 (refine oEA (nm1 hvs) fun v e1' hv=>?_;obtain rfl:=e1')
 refine substr (qz hv) ?_
 refine oEA (hs.list hl) fun us hL hm=>?_
 have hus:=qeY hm
 subst hus
 have nref:∀ l:List Addr,(l.map Value.ref).map norm=l.map Value.ref:=fun l=>by refine substr map_map ?_;rfl
 by_cases h2:(ads.map Value.ref).length<2
 ·refine qij hL h2 ?_
  obtain⟨a1,a2⟩:=qey hs (vs:=ads.map Value.ref) (out:=(ads.map Value.ref).toArray) (xs:=ads.map Value.ref) (nref ads)
  rw[length_map] at h2
  refine⟨M,_,a1,h _ ads ts a2 ht (List.Perm.refl _) ?_⟩
  have hl2:=ht.len
  match ts,hl2 with
  | [],_=>exact .nil
  | [t],_=>exact List.pairwise_singleton ..
  | _::_::_,e=>simp only[length_cons] at e;exact(qvB h2 e).elim
 ·rw[length_map] at h2
  have hn:0<ads.length:=qvC h2
  have W:Weak (fun i j=>tl (ts.getD i (0,emp,0)) (ts.getD j (0,emp,0))):=⟨fun i=>qqR _,fun i j k a b=>qxz a b,fun i j a=>qxy a⟩
  obtain⟨p1,p2⟩:=qpp W (n:=ads.length) (qvD h2)
  have tk:∀ s':Shared,(∀ b o,s.heap.get? b=some o->s'.heap.get? b=some o)->∀ i,i<ads.length->TupAt s'.heap (ads.getD i 0) (ts.getD i (0,emp,0)):=fun s' k i hi=>by
   refine qch (qiY hs (ht.get i hi)) fun t1 t2 t3 m e=>?_
   exact⟨t1,t2,t3,m,k _ _ e⟩
  have gv:∀ i,i<ads.length->(ads.map Value.ref).getD i Value.none=.ref (ads.getD i 0):=fun i hi=>by simp[hi]
  refine qf5 (κ:=tuples' true) (R:=fun out=>out=List.toArray (((ev (fun i j=>tl (ts.getD i (0,emp,0)) (ts.getD j (0,emp,0))) (kas_sort ads.length)).toList).map fun i=>(ads.map Value.ref).getD i Value.none)) hL (by refine substr (length_map ..) ?_;exact qnV h2) (by refine substr (length_map ..) ?_;exact qvE hz) ?_ ?_ ?_ ?_
  ·intro A' E' s' Q k hQ
   refine qbe (qox (h:=s'.heap) ht fun a t e=>by
    obtain⟨t1,t2,t3,m,e⟩:=qiY hs e
    exact⟨t1,t2,t3,m,k _ _ e⟩) fun fs f1 f2 f3=>?_
   refine kat_kind (T:=.type "int") f1 (qvF h2 f2) (fun v hv=>?_) (by simp) ?_
   ·(refine oEE (f3 v hv) fun i t e2'=>?_;obtain rfl:=e2')
    exact Looks.of_pure rfl
   ·refine substr (show((Value.type "int") != Value.type "tuple")=true from by decide +kernel) ?_;exact hQ
  ·intro A' E' s' k
   refine wpAny_mono (kat_run (prog:=prog) (w:=w) (A:=A') (κ:=tuples' true) (s:=s') (E:=E') (ks:=ads.map Value.ref) (vs:=ads.map Value.ref) (Q:=fun st' s''=>s''=s'/\failedOf st'=none/\(arrOf st').map (·.2)=List.toArray (((ev (fun i j=>tl (ts.getD i (0,emp,0)) (ts.getD j (0,emp,0))) (kas_sort ads.length)).toList).map fun i=>(ads.map Value.ref).getD i Value.none))
    (G:=fun p s''=>s''=s'/\p=ev (fun i j=>tl (ts.getD i (0,emp,0)) (ts.getD j (0,emp,0))) (kas_sort ads.length)) rfl (by refine substr (length_map ..) ?_;exact qnV h2) (by refine substr (length_map ..) ?_;exact qvG hz) (fun p st' s'' hp har hf hG=>?_) ?_) (fun r s'' hr=>hr) fun _ _ x=>x
   ·obtain⟨rfl,rfl⟩:=hG
    exact iAA rfl hf (kat_snds rfl har)
   ·refine substr (length_map ..) ?_
    refine InT.wp (n:=ads.length) (fun i j C hi hj hC=>?_) (qpq hn) ⟨rfl,rfl⟩
    show wpAny _ _ (keyLt' (tuples' true) ((ads.map Value.ref).getD i Value.none) ((ads.map Value.ref).getD j Value.none)) C _ s'
    refine substr (gv i hi) (substr (gv j hj) ?_)
    exact qqS (tk s' k i hi) (tk s' k j hj) hC
  ·rintro out rfl
   refine substr List.size_toArray (substr (length_map ..) (substr Array.length_toList (substr p1.size_eq (substr List.size_toArray (substr List.length_range (substr (length_map ..) rfl))))))
  ·rintro out rfl
   generalize hp:ev (fun i j=>tl (ts.getD i (0,emp,0)) (ts.getD j (0,emp,0))) (kas_sort ads.length)=p at p1 p2
   have pl:p.toList.Perm (List.range ads.length):=by simpa using Array.perm_iff_toList_perm.mp p1
   have plt:∀ i∈p.toList,i<ads.length:=fun i hi=>List.mem_range.mp (pl.mem_iff.mp hi)
   have e1:(List.toArray (p.toList.map fun i=>(ads.map Value.ref).getD i Value.none)).toList.map norm=(p.toList.map (ads.getD · 0)).map Value.ref:=by
    refine substr List.toList_toArray (substr map_map (substr map_map ?_))
    refine List.map_congr_left fun i hi=>?_
    show norm ((ads.map Value.ref).getD i Value.none)=_
    refine substr (gv i (plt i hi)) ?_;rfl
   obtain⟨a1,a2⟩:=qey hs (vs:=ads.map Value.ref) e1
   refine⟨M,_,a1,h _ _ _ a2 (ht.pick p.toList plt) ?_ ?_⟩
   ·have:=pl.map (ts.getD · (0,emp,0))
    rw[ht.len,map_getD] at this
    exact this
   ·refine substr (propext List.pairwise_iff_getElem) ?_
    intro i j hi hj hij
    rw[length_map] at hi hj
    simp only[List.getElem_map]
    have hsz:p.size=ads.length:=by refine substr p1.size_eq ?_;simp
    rw[Array.length_toList] at hi hj
    have:=p2 i j (Nat.le_of_lt hij) (qvH hj hsz)
    have ei:kx p i=p.toList[i]:=by unfold kx;simp[Array.getD,hi]
    have ej:kx p j=p.toList[j]:=by unfold kx;simp[Array.getD,hj]
    rw[ei,ej] at this
    exact this
end
noncomputable def nmA(names:List Str)(r:Nat):Str:=names.getD r emp
theorem qoy{names:List Str}(h:Strict names):∀ {a b:Nat},a<names.length->b<names.length->ltS (nmA names a) (nmA names b)=decide (a<b):=by
 intro a b ha hb
 have key:∀ i j,i<j->j<names.length->ltS (nmA names i) (nmA names j)=true:=fun i j hij hj=>by
  have:=(List.pairwise_iff_getElem.mp h) i j (qnW hij hj) hj hij
  unfold nmA
  simp only[List.getD_eq_getElem?_getD,getElem?_eq_getElem hj,getElem?_eq_getElem (show i<names.length by exact qnW hij hj),Option.getD_some]
  exact this
 rcases Nat.lt_trichotomy a b with q | q | q
 ·refine substr (decide_eq_true q) ?_;exact key a b q hb
 ·subst q;refine substr (decide_eq_false (Nat.lt_irrefl _)) ?_;exact qbx _
 ·refine substr (decide_eq_false (qnF q)) ?_;exact qex (key b a q ha)
structure Rl(names:List Str)(st:SortSt)(ra:Array Nat):Prop where
 kind:kindOf st=oneType'
 ok:failedOf st=none
 size:(arrOf st).size=ra.size
 at_:∀(j r:Nat),ra[j]?=some r->r<names.length/\∃ t,(arrOf st)[j]?=some (.str (nmA names r) t,.str (nmA names r) t)
section
variable{A:Around}{s:Shared}{names:List Str}
theorem qgI(hs:Strict names){st:SortSt}{ra:Array Nat}(R:Rl names st ra){i j a b:Nat}(hi:ra[i]?=some a)(hj:ra[j]?=some b){Q:Option Bool->SortSt->Prop}(h:Q (some (decide (a<b))) st):wpS (model prog w) A E s (ltAt' i j) Q st:=by
 refine oAE (R.at_ i a hi) fun ha t e1=>?_
 refine oAE (R.at_ j b hj) fun hb u e2=>?_
 refine wpS_ltAtK (κ:=strKind) strKind_oneLt R.kind e1 e2 rfl rfl ?_
 have:strKind.blt (nmA names a).cps.toList (nmA names b).cps.toList=decide (a<b):=qoy hs ha hb
 refine substr this ?_;exact h
theorem Rl.bub{st:SortSt}{ra:Array Nat}(R:Rl names st ra){src d:Nat}(h1:src<ra.size)(h2:d<=src):Rl names (setArr st (bubble (arrOf st) src d)) (bubble ra src d):=by
 refine⟨R.kind,R.ok,by show(bubble (arrOf st) src d).size=_;refine substr (bubble_size ..) (substr (bubble_size ..) (substr R.size rfl)),fun j r hj=>?_⟩
 show _/\∃ t,(bubble (arrOf st) src d)[j]?=_
 have e1:=getElem?_bubble h1 d h2 j
 have e2:=getElem?_bubble (xs:=arrOf st) (by refine substr R.size ?_;exact h1) d h2 j
 rw[e1] at hj
 refine substr e2 ?_
 split at hj
 ·rename_i c;refine substr (if_pos c) ?_;exact R.at_ _ _ hj
 ·rename_i c;refine substr (if_neg c) ?_
  split at hj
  ·rename_i c2;refine substr (if_pos c2) ?_;exact R.at_ _ _ hj
  ·rename_i c2;refine substr (if_neg c2) ?_;exact R.at_ _ _ hj
theorem qfb(hs:Strict names){st:SortSt}{ra:Array Nat}(R:Rl names st ra){lo nrem:Nat}(hn:9<=nrem)(hp:∀ i,i<9->ra[lo+i]?=some (i%8)){Q:Option Nat->SortSt->Prop}(h:Q (some 8) st):wpS (model prog w) A E s (countRun' lo nrem) Q st:=by
 refine substr (countRun'_eq ..) ?_
 refine wpS_bind (wpS_mono (wpS_forRange (I:=fun x c st'=>st'=st/\c=(none,x)/\x<=8) (Q:=fun c st'=>st'=st/\c=(none,8)) ?step ?fin ?init) ?post)
 case init=>exact iAA rfl rfl (qvI)
 case fin=>
  intro c st' r2';refine oAA r2' fun _ _ hx=>?_
  exact(qvJ hn hx).elim
 case step=>
  intro x c st' h1 h2 r5';refine oAA r5' fun e0' e1' hx=>substr e0' (substr e1' ?_)
  dsimp only
  refine wpS_bind (qgI hs R (hp x (qvK hx)) (b:=(x-1)%8) (by refine substr (show lo+x-1=lo+(x-1) by exact qvL h1) ?_;exact hp (x-1) (qvM hx)) ?_)
  dsimp only
  by_cases h8:x=8
  ·subst h8
   refine substr (if_pos (by decide)) ?_
   exact wpS_pure ⟨rfl,rfl⟩
  ·refine substr (if_neg (by refine substr (Nat.mod_eq_of_lt (show x<8 by exact qvN hx h8)) (substr (Nat.mod_eq_of_lt (show x-1<8 by exact qvO hx)) ?_);simp)) ?_
   exact wpS_pure (iAA rfl rfl (qvP hx h8))
 case post=>
  rintro c st' e;refine substr e.1 (substr e.2 ?_)
  dsimp only
  refine substr (if_neg (by simp;exact qvQ hn)) (substr (if_pos (by decide)) ?_)
  refine wpS_bind (qgI hs R (a:=0) (b:=7) (hp 0 (qvR)) (hp 7 (qvS)) ?_)
  dsimp only
  refine substr (if_pos (by decide)) ?_
  exact wpS_pure h
noncomputable def gx(ra:Array Nat)(i:Nat):Nat:=ra.getD i 0
theorem qoz{ra:Array Nat}{i:Nat}(h:i<ra.size):ra[i]?=some (gx ra i):=by
 unfold gx;refine substr Array.getD_eq_getD_getElem? (substr (Array.getElem?_eq_getElem h) ?_);rfl
noncomputable def qez(ra:Array Nat)(lo k:Nat):Nat->Nat->Nat->Nat
 | 0,l,_=>l
 | f+1,l,r=>if l≥r then l else if decide (gx ra (lo+k)<gx ra (lo+(l+r)/2))=true then qez ra lo k f l ((l+r)/2) else qez ra lo k f ((l+r)/2+1) r
noncomputable def qft(lo:Nat):Nat->Nat->Array Nat->Array Nat
 | 0,_,ra=>ra
 | f+1,k,ra=>qft lo f (k+1) (bubble ra (lo+k) (lo+k-(lo+qez ra lo k k 0 k)))
theorem qqT{ra:Array Nat}{lo k f l r:Nat}:qez ra lo k (f+1) l r=if l≥r then l else if decide (gx ra (lo+k)<gx ra (lo+(l+r)/2))=true then qez ra lo k f l ((l+r)/2) else qez ra lo k f ((l+r)/2+1) r:=rfl
theorem qgY(hs:Strict names){st:SortSt}{ra:Array Nat}(R:Rl names st ra){lo n ok:Nat}(h1:1<=ok)(hok:ok<=n)(hn:lo+n<=ra.size){Q:Bool->SortSt->Prop}(h:∀ st',Rl names st' (qft lo (n-ok) ok ra)->pendingOf st'=pendingOf st->gallopOf st'=gallopOf st->Q true st'):
 wpS (model prog w) A E s (binarySort' lo n ok) Q st:=by
 refine substr (binarySort'_eq ..) ?_
 refine wpS_bind (wpS_mono (wpS_forRange (I:=fun k c st'=>c=(none,())/\pendingOf st'=pendingOf st/\gallopOf st'=gallopOf st/\∃ ra',Rl names st' ra'/\ra'.size=ra.size/\qft lo (n-k) k ra'=qft lo (n-ok) ok ra)
  (Q:=fun c st'=>c=(none,())/\pendingOf st'=pendingOf st/\gallopOf st'=gallopOf st/\Rl names st' (qft lo (n-ok) ok ra)) ?step ?fin ?init) ?post)
 case post=>
  intro c st' r2';refine qdq r2' fun e0' e1 e2 R'=>substr e0' ?_
  exact wpS_pure (h st' R' e1 e2)
 case init=>refine substr (show max ok 1=ok by exact qnU h1) ?_;exact qiy rfl rfl rfl ra R rfl rfl
 case fin=>
  intro c st' r2';refine qiA r2' fun hc e1 e2 ra' R' hz hb=>?_
  rw[show max (max ok 1) n=n by exact qvT h1 hok,Nat.sub_self] at hb
  refine(qdr hc e1 e2 ?_)
  refine substr hb.symm ?_;exact R'
 case step=>
  intro k c st' hak hkn r5';refine qiA r5' fun e0' e1 e2 ra' R' hz hb=>substr e0' ?_
  have hlk:lo+k<ra'.size:=qvU hn hkn hz
  obtain⟨tg,htg⟩:∃ tg,qez ra' lo k k 0 k=tg:=⟨_,rfl⟩
  refine wpS_bind (wpS_mono (wpS_forRange (I:=fun x c st''=>st''=st'/\∃ l r,c=(none,l,r)/\l<=r/\r<=k/\r-l<=k-x/\qez ra' lo k (k-x) l r=tg)
   (Q:=fun c st''=>st''=st'/\∃ l r,c=(none,l,r)/\l<=k/\l=tg) ?istep ?ifin ?iinit) ?ipost)
  case iinit=>exact qav rfl 0 k rfl (qnX) (qpP) (qvV) (by refine substr (Nat.sub_zero ..) ?_;exact htg)
  case ifin=>
   intro c st'' r2';refine qby r2' fun e0' l r e3' hlr hrk hm hsr=>substr e0' (substr e3' ?_)
   rw[show k-max 0 k=0 by exact qvW] at hsr
   exact qkA rfl l r rfl (qcL hlr hrk) hsr
  case istep=>
   intro x c st'' _ hxk r5';refine qby r5' fun e0' l r e3' hlr hrk hm hsr=>substr e0' (substr e3' ?_)
   dsimp only
   obtain⟨f,hf⟩:∃ f,k-x=f+1:=⟨k-x-1,by exact qno hxk⟩
   rw[hf] at hsr
   rw[qqT] at hsr
   by_cases hge:l≥r
   ·rw[if_pos hge] at hsr ⊢
    exact wpS_pure (qkA rfl l r rfl (qcL hlr hrk) hsr)
   ·rw[if_neg hge] at hsr ⊢
    refine wpS_bind (qgI hs R' (qoz hlk) (qoz (show lo+(l+r)/2<ra'.size by exact qvX hlk hrk hge)) ?_)
    dsimp only
    split at hsr
    ·rename_i hless
     refine substr (if_pos hless) ?_
     exact wpS_pure (qav rfl l ((l+r)/2) rfl (qnQ hge) (qnR hrk hge) (qvY hm) (by refine substr (show k-(x+1)=f by exact qnY hf) ?_;exact hsr))
    ·rename_i hless
     refine substr (if_neg hless) ?_
     exact wpS_pure (qav rfl ((l+r)/2+1) r rfl (qnS hge) (qd7 hrk) (qvZ hm) (by refine substr (show k-(x+1)=f by exact qnY hf) ?_;exact hsr))
  case ipost=>
   intro c st'' r2';refine qp6 r2' fun e0' l r e3' hlk2 hl=>substr e0' (substr e3' ?_)
   show wpS _ _ _ _ (do moveDown' (lo+k) (lo+l);pure (ForInStep.yield (none,()))) _ _
   refine substr (moveDown'_eq ..) ?_
   refine wpS_bind (wpS_modify (wpS_pure (qiy rfl e1 e2 _ (R'.bub hlk (qv0)) (by refine substr (bubble_size ..) ?_;exact hz) ?_)))
   refine substr hb.symm (substr (show n-k=n-(k+1)+1 by exact qv1 hkn) (substr hl (substr htg.symm ?_)))
   rfl
noncomputable def ra0:Array Nat:=List.toArray ((List.range 64).map (· % 8))
noncomputable def ra1:Array Nat:=List.toArray ((List.range 64).map fun j=>if j<32 then j/4 else j%8)
noncomputable def ra2:Array Nat:=List.toArray ((List.range 64).map fun j=>j%32/4)
theorem qxA:qft 0 24 8 ra0=ra1:=by decide +kernel
theorem qxB:qft 32 24 8 ra1=ra2:=by decide +kernel
end
noncomputable def qps:Bool->Keyed->Array Keyed->Nat->Nat->Nat->StateT SortSt Sem (Option Nat):=sortPriv% PySem.Builtin.gallop
noncomputable def qmn:Array Keyed->Array Keyed->StateT SortSt Sem (Array Keyed):=sortPriv% PySem.Builtin.mergeLo
section
variable{A:Around}{s:Shared}{names:List Str}
theorem qbY{arr:Array Keyed}{i:Nat}{p:Keyed}{st:SortSt}{Q:Keyed->SortSt->Prop}(h:arr[i]?=some p)(q:Q p st):wpS (model prog w) A E s (elem' arr i) Q st:=by
 refine substr (elem'_eq ..) (substr h ?_);exact wpS_pure q
noncomputable abbrev ky(names:List Str)(r:Nat)(p:Keyed):Prop:=∃ t,p=(.str (nmA names r) t,.str (nmA names r) t)
theorem qj7(hs:Strict names){a b:Nat}{x y:Keyed}(ha:a<names.length)(hb:b<names.length)(hx:ky names a x)(hy:ky names b y){st:SortSt}(hk:kindOf st=oneType'){Q:Option Bool->SortSt->Prop}(h:Q (some (decide (a<b))) st):wpS (model prog w) A E s (lt' x y) Q st:=by
 obtain⟨t,rfl⟩:=hx
 obtain⟨u,rfl⟩:=hy
 refine substr (lt'_eq ..) ?_
 refine wpS_bind (wpS_get ?_)
 refine substr hk (substr (keyLt'_oneType ..) ?_)
 refine wpS_bind (wpS_lift (wpAny_attempt (strKind_oneLt prog w A _ s _ _ (nmA names a).cps.toList (nmA names b).cps.toList rfl rfl ⟨rfl,?_⟩)))
 have:strKind.blt (nmA names a).cps.toList (nmA names b).cps.toList=decide (a<b):=qoy hs ha hb
 refine substr this ?_
 exact wpS_pure h
theorem qlh{left:Bool}{key:Keyed}{arr:Array Keyed}{base n hint cut:Nat}{st:SortSt}(hh:hint<n)(hc:cut<=n)
 (be:∀(i:Nat) {Q:Option Bool->SortSt->Prop},i<n->Q (some (decide (i<cut))) st->wpS (model prog w) A E s (do let x <- elem' arr (base+i);if left=true then lt' x key else do let r <- lt' key x;pure (r.map (!·))) Q st)
 {Q:Option Nat->SortSt->Prop} (h:Q (some cut) st):wpS (model prog w) A E s (qps left key arr base n hint) Q st:=by
 refine wpS_bind (wpS_mono (be hint (Q:=fun r st'=>r=some (decide (hint<cut))/\st'=st) hh ⟨rfl,rfl⟩) ?_)
 rintro r st' e;refine substr e.1 (substr e.2 ?_)
 dsimp only
 by_cases hr:hint<cut
 ·refine substr (if_pos (by refine substr (decide_eq_true hr) rfl)) ?_
  refine wpS_bind (wpS_mono (wpS_forRange (I:=fun x c st''=>st''=st/\∃ l o,c=(none,l,o)/\l<o/\x+1<=o/\hint+l<cut)
   (Q:=fun c st''=>st''=st/\∃ l o,c=(none,l,o)/\l<o/\hint+l<cut/\(o≥n-hint\/cut<=hint+o)) ?step ?fin (qdy rfl 0 1 rfl (qnZ) (qn0) (qv2 hr))) ?post)
  case fin=>
   intro c st'' r2';refine qgf r2' fun e0' l o e3' h1 h2 h3=>substr e0' (substr e3' ?_)
   exact qdy rfl l o rfl h1 h3 (.inl (qv3 h2))
  case step=>
   intro x c st'' _ hx r5';refine qgf r5' fun e0' l o e3' h1 h2 h3=>substr e0' (substr e3' ?_)
   dsimp only
   by_cases ho:o≥n-hint
   ·refine substr (if_pos ho) ?_;exact wpS_pure (qdy rfl l o rfl h1 h3 (.inl ho))
   ·refine substr (if_neg ho) ?_
    refine wpS_bind (wpS_mono (be (hint+o) (Q:=fun r st'=>r=some (decide (hint+o<cut))/\st'=st) (qv4 ho) ⟨rfl,rfl⟩) ?_)
    rintro r st3 e;refine substr e.1 (substr e.2 ?_)
    dsimp only
    by_cases hb:hint+o<cut
    ·refine substr (decide_eq_true hb) (substr (if_neg (by decide)) ?_)
     exact wpS_pure (qdy rfl o (2*o+1) rfl (qn1) (qn2 h2) hb)
    ·refine substr (decide_eq_false hb) (substr (if_pos (by decide)) ?_)
     exact wpS_pure (qdy rfl l o rfl h1 h3 (.inr (qv5 hb)))
  case post=>
   intro c st'' r2';refine qgf r2' fun e0' l o e3' h1 h2 h3=>substr e0' (substr e3' ?_)
   dsimp only
   refine wpS_bind (wpS_mono (wpS_forRange (I:=fun x c st3=>st3=st/\∃ l r,c=(none,l,r)/\l<=cut/\cut<=r/\r-l<=n-x/\r<=n)
    (Q:=fun c st3=>st3=st/\∃ l,c=(none,l,cut)) ?step ?fin (qav rfl _ _ rfl (qv6 h2) (qv7 hc h3) (qv8) (qv9 hh))) ?post)
   case fin=>
    intro c st3 r2';refine qby r2' fun e0' l r e3' g1 g2 g3 g4=>substr e0' (substr e3' ?_)
    have:r=cut:=by exact qn3 g1 g2 g3
    refine substr this ?_
    exact iAE rfl l rfl
   case step=>
    intro x c st3 _ hx r5';refine qby r5' fun e0' l r e3' g1 g2 g3 g4=>substr e0' (substr e3' ?_)
    dsimp only
    by_cases ho:l≥r
    ·refine substr (if_pos ho) ?_
     have:r=cut:=by exact qn4 g1 g2 ho
     refine substr this ?_
     exact wpS_pure (iAE rfl l rfl)
    ·refine substr (if_neg ho) ?_
     refine wpS_bind (wpS_mono (be (l+(r-l)/2) (Q:=fun q st'=>q=some (decide (l+(r-l)/2<cut))/\st'=st) (qn5 g4 ho) ⟨rfl,rfl⟩) ?_)
     rintro q st4 e;refine substr e.1 (substr e.2 ?_)
     dsimp only
     by_cases hb:l+(r-l)/2<cut
     ·refine substr (decide_eq_true hb) (substr (if_pos (by decide)) ?_)
      exact wpS_pure (qav rfl _ _ rfl (qn6 hb) g2 (qn7 g3) g4)
     ·refine substr (decide_eq_false hb) (substr (if_neg (by decide)) ?_)
      exact wpS_pure (qav rfl _ _ rfl g1 (qn8 hb) (qn9 g3) (qwa hc g1 g4))
   case post=>
    intro c st3 r2';refine oAE r2' fun e0' l e2'=>substr e0' (substr e2' ?_)
    exact wpS_pure h
 ·refine substr (if_neg (by refine substr (decide_eq_false hr) ?_;decide)) ?_
  refine wpS_bind (wpS_mono (wpS_forRange (I:=fun x c st''=>st''=st/\∃ l o,c=(none,l,o)/\l<o/\x+1<=o/\l<=hint/\cut<=hint-l)
   (Q:=fun c st''=>st''=st/\∃ l o,c=(none,l,o)/\l<o/\l<=hint/\cut<=hint-l/\(o≥hint+1\/hint-o<cut)) ?step ?fin (qav rfl 0 1 rfl (qnZ) (qn0) (qnX) (qwb hr))) ?post)
  case fin=>
   intro c st'' r2';refine qby r2' fun e0' l o e3' h1 h2 h3 h4=>substr e0' (substr e3' ?_)
   exact qav rfl l o rfl h1 h3 h4 (.inl (qwc hh h2))
  case step=>
   intro x c st'' _ hx r5';refine qby r5' fun e0' l o e3' h1 h2 h3 h4=>substr e0' (substr e3' ?_)
   dsimp only
   by_cases ho:o≥hint+1
   ·refine substr (if_pos ho) ?_;exact wpS_pure (qav rfl l o rfl h1 h3 h4 (.inl ho))
   ·refine substr (if_neg ho) ?_
    refine wpS_bind (wpS_mono (be (hint-o) (Q:=fun r st'=>r=some (decide (hint-o<cut))/\st'=st) (qwd hh) ⟨rfl,rfl⟩) ?_)
    rintro r st3 e;refine substr e.1 (substr e.2 ?_)
    dsimp only
    by_cases hb:hint-o<cut
    ·refine substr (decide_eq_true hb) (substr (if_pos (by decide)) ?_)
     exact wpS_pure (qav rfl l o rfl h1 h3 h4 (.inr hb))
    ·refine substr (decide_eq_false hb) (substr (if_neg (by decide)) ?_)
     exact wpS_pure (qav rfl o (2*o+1) rfl (qn1) (qn2 h2) (qwe ho) (qwf hb))
  case post=>
   intro c st'' r2';refine qby r2' fun e0' l o e3' h1 h2 h3 h4=>substr e0' (substr e3' ?_)
   dsimp only
   refine wpS_bind (wpS_mono (wpS_forRange (I:=fun x c st3=>st3=st/\∃ l r,c=(none,l,r)/\l<=cut/\cut<=r/\r-l<=n-x/\r<=n)
    (Q:=fun c st3=>st3=st/\∃ l,c=(none,l,cut)) ?step ?fin (qav rfl _ _ rfl (qwg h4) (qwh h3) (qwi hh) (qwj hh))) ?post)
   case fin=>
    intro c st3 r2';refine qby r2' fun e0' l r e3' g1 g2 g3 g4=>substr e0' (substr e3' ?_)
    have:r=cut:=by exact qn3 g1 g2 g3
    refine substr this ?_
    exact iAE rfl l rfl
   case step=>
    intro x c st3 _ hx r5';refine qby r5' fun e0' l r e3' g1 g2 g3 g4=>substr e0' (substr e3' ?_)
    dsimp only
    by_cases ho:l≥r
    ·refine substr (if_pos ho) ?_
     have:r=cut:=by exact qn4 g1 g2 ho
     refine substr this ?_
     exact wpS_pure (iAE rfl l rfl)
    ·refine substr (if_neg ho) ?_
     refine wpS_bind (wpS_mono (be (l+(r-l)/2) (Q:=fun q st'=>q=some (decide (l+(r-l)/2<cut))/\st'=st) (qn5 g4 ho) ⟨rfl,rfl⟩) ?_)
     rintro q st4 e;refine substr e.1 (substr e.2 ?_)
     dsimp only
     by_cases hb:l+(r-l)/2<cut
     ·refine substr (decide_eq_true hb) (substr (if_pos (by decide)) ?_)
      exact wpS_pure (qav rfl _ _ rfl (qn6 hb) g2 (qn7 g3) g4)
     ·refine substr (decide_eq_false hb) (substr (if_neg (by decide)) ?_)
      exact wpS_pure (qav rfl _ _ rfl g1 (qn8 hb) (qn9 g3) (qwk g4 ho))
   case post=>
    intro c st3 r2';refine oAE r2' fun e0' l e2'=>substr e0' (substr e2' ?_)
    exact wpS_pure h
end
theorem d4{q r x:Nat}(h:x=4*q+r)(hr:r<4):x/4=q:=by omega
theorem d8{q r y:Nat}(h:y+1=8*q+r)(hr:r<4):(y+1+4)/8=q:=by omega
theorem d8s{q r y:Nat}(h:y+1=8*q+r)(hr:¬ r<4)(h8:r<8):(y+1+4)/8=q+1:=by omega
theorem d4s{q r x:Nat}(h:x+4=4*q+r)(hr:¬ r<4)(h8:r<8):x/4=q:=by omega
theorem q6{q r x:Nat}(h:x=4*q+r)(hr:r<4)(he:x+1=28):q=6/\r=3:=by omega
theorem y50{q r y:Nat}(hy:y<=50)(h:y+1=8*q+r)(h8:r<8)(h3:¬ r=3):y+1<=50:=by omega
section
variable{A:Around}{s:Shared}{names:List Str}
theorem qj8(hs:Strict names)(hl:names.length=8){st:SortSt}(hk:kindOf st=oneType')(hg:gallopOf st=7){a b:Array Keyed}(za:a.size=28)(zb:b.size=28)
 (ha:∀ j,j<28->∃ p,a[j]?=some p/\ky names (j/4+1) p) (hb:∀ j,j<28->∃ p,b[j]?=some p/\ky names (j/4) p) {Q:Array Keyed->SortSt->Prop}
 (h:∀ out,out.size=56->(∀ j,j<56->∃ p,out[j]?=some p/\ky names ((j+4)/8) p)->Q out st):
 wpS (model prog w) A E s (qmn a b) Q st:=by
 refine wpS_bind (wpS_lift (wpAny_rule ⟨rfl,?_⟩))
 refine oEA (hb 0 (by decide)) fun p0 e0 k0=>?_
 refine wpS_bind (qbY e0 ?_)
 dsimp only
 refine substr zb (substr za ?_)
 refine substr (if_neg (by decide)) (substr (if_neg (by decide)) ?_)
 refine wpS_bind (wpS_get ?_)
 refine wpS_bind (wpS_mono (wpS_forRange (I:=fun x c st'=>x=0/\st'=st/\c=(none,#[p0],0,1,7))
  (Q:=fun c st'=>st'=st/\∃ out,c.1=some out/\out.size=56/\(∀ j,j<56->∃ p,out[j]?=some p/\ky names ((j+4)/8) p)) ?step ?fin (iAA rfl rfl (by have hg2:=hg;unfold PyProof.Rows.gallopOf at hg2;refine substr hg2 rfl))) ?post)
 case fin=>intro c st' r2';refine oAA r2' fun hx _ _=>?_;simp at hx
 case post=>
  intro c st' r2';(refine qof r2' fun e0' out e z hk2=>?_;obtain rfl:=e0')
  refine substr e ?_
  exact wpS_pure (h out z hk2)
 case step=>
  intro x c st' _ _ r5';refine oAA r5' fun e0' e1' e2'=>substr e0' (substr e1' (substr e2' ?_))
  dsimp only
  refine wpS_bind (wpS_mono (wpS_forRange (I:=fun y c st2=>st2=st/\y<=50/\∃ out ia ib ac bc q r,c=(none,out,ia,ib,ac,bc)/\y+1=8*q+r/\r<8/\(r<4->ia=4*q/\ib=4*q+r/\bc<=r)/\(4<=r->ia+4=4*q+r/\ib=4*q+4/\ac+4<=r) /\
   out.size=y+1/\(∀ j,j<y+1->∃ p,out[j]?=some p/\ky names ((j+4)/8) p)/\ac<=4/\bc<=4)
   (Q:=fun c st2=>st2=st/\∃ out,c.1=some out/\out.size=56/\(∀ j,j<56->∃ p,out[j]?=some p/\ky names ((j+4)/8) p)) ?istep ?ifin ?iinit) ?ipost)
  case iinit=>exact(qaH rfl (qwl) (#[p0]) 0 1 0 0 0 1 rfl rfl (qwm) (fun _=>(iAA rfl rfl (qwn))) (fun h=>by exact qwo h) rfl (fun j hj=>(iEA p0 (by have:j=0:=(qoa hj);subst this;rfl) (by have:j=0:=(qoa hj);subst this;exact k0))) (qeJ) (qeJ))
  case ifin=>intro c st2 r2';refine oAA r2' fun _ hy _=>?_;simp at hy
  case ipost=>
   intro c st2 r2';refine qof r2' fun e0' out e z hk2=>?_
   refine substr e (wpS_pure (qoe e0' out rfl z hk2))
  case istep=>
   intro y c st2 _ _ r5';refine qed r5' fun e0' hy out ia ib ac bc q r e9' hqr hr8 h3 h4 hz hout h1 h2=>substr e0' (substr e9' ?_)
   dsimp only
   have hib:ib<28:=by
    by_cases hr:r<4
    ·have:=h3 hr;exact qwp hy hqr hr this.2.1
    ·have:=h4 (qjy hr);exact qwq hy hqr hr this.2.1
   have hia:ia<28:=by
    by_cases hr:r<4
    ·have:=h3 hr;exact qwr hy hqr this.1
    ·have:=h4 (qjy hr);exact qws hy hqr hr8 this.1
   refine oEA (hb ib hib) fun pb eb kb=>?_
   refine oEA (ha ia hia) fun pa ea ka=>?_
   refine wpS_bind (qbY eb (wpS_bind (qbY ea (wpS_bind (qj7 hs (qwt hl hib) (qwu hl hia) kb ka hk ?_)))))
   dsimp only
   have push:∀ p,ky names ((y+1+4)/8) p->∀ j,j<y+1+1->∃ q,(out.push p)[j]?=some q/\ky names ((j+4)/8) q:=fun p hp j hj=>by
    by_cases hjy:j<y+1
    ·refine oEA (hout j hjy) fun q e k=>?_
     exact iEA q (by refine substr Array.getElem?_push (substr (if_neg (qwv hz hjy)) ?_);exact e) k
    ·have:j=y+1:=by exact qww hj hjy
     subst this
     exact iEA p (by refine substr Array.getElem?_push (substr (if_pos hz.symm) rfl)) hp
   by_cases hr:r<4
   ·refine oAA (h3 hr) fun g1 g2 g3=>?_
    refine substr (if_pos (by refine substr decide_eq_true_eq (substr (d4 g2 hr) (substr (d4 (r:=0) g1 (by decide)) ?_));exact Nat.lt_succ_self _)) ?_
    refine wpS_bind (qbY eb ?_)
    have kb':ky names ((y+1+4)/8) pb:=by refine substr (d8 hqr hr) (substr (d4 g2 hr).symm ?_);exact kb
    by_cases he:ib+1=28
    ·refine substr (if_pos (by simpa using he)) ?_
     obtain⟨q6',r3⟩:=q6 g2 hr he
     have hia24:ia=24:=by rw[q6'] at g1;exact g1
     have hy50:y=50:=by rw[q6',r3] at hqr;exact Nat.succ.inj hqr
     have hz51:out.size=51:=by rw[hy50] at hz;exact hz
     refine substr hia24 (wpS_pure (qoe rfl _ rfl ?_ ?_))
     ·simp only[Array.size_append,Array.size_push,Array.size_extract,hz51,za,zb];exact qwx he
     ·intro j hj
      refine substr Array.append_assoc (substr Array.getElem?_append ?_)
      have hz2:(out.push pb).size=52:=by refine substr (Array.size_push ..) (substr hz51 rfl)
      refine substr hz2 ?_
      by_cases hj2:j<52
      ·refine substr (if_pos hj2) ?_;exact push pb kb' j (by rw[hy50];exact qwy hj2)
      ·refine substr (if_neg hj2) (substr Array.getElem?_append ?_)
       have hz3:(a.extract 24 28).size=4:=by refine substr Array.size_extract (substr za ?_);rfl
       refine substr hz3 (substr (if_pos (qwz hj)) (substr Array.getElem?_extract ?_))
       refine oEA (ha (24+(j-52)) (qwA hj)) fun p e k=>?_
       refine(iEA p ?_ ?_)
       ·refine substr za (substr (if_pos (by refine substr (Nat.min_self ..) ?_;exact qwB hj)) ?_);exact e
       ·refine substr (show(j+4)/8=(24+(j-52))/4+1 by exact ad1 _ hj hj2) ?_;exact k
    ·refine substr (if_neg (by simpa using he)) (substr (if_neg (qob h2)) ?_)
     by_cases hr3:r=3
     ·refine wpS_pure (qaH rfl (qwC hqr hib g2 he hr3) _ ia (ib+1) 0 (bc+1) q 4 rfl (qwD hqr hr3) (qwE) (fun h=>by exact qwF h) (fun h=>by exact qwG g1 g2 hr3) (by refine substr (Array.size_push ..) (substr hz rfl)) (push pb kb') (qeJ) (qwH g3 hr3))
     ·refine wpS_pure (qaH rfl (y50 hy hqr hr8 hr3) _ ia (ib+1) 0 (bc+1) q (r+1) rfl (qoc hqr) (qwI hr) (fun h=>by exact qwJ g1 g2 g3) (fun h=>by exact qwK hr g1 g2 h) (by refine substr (Array.size_push ..) (substr hz rfl)) (push pb kb') (qeJ) (qwL hr g3))
   ·refine oAA (h4 (qjy hr)) fun g1 g2 g3=>?_
    refine substr (if_neg (by refine substr decide_eq_true_eq (substr (d4s g1 hr hr8) (substr (d4 (q:=q+1) (r:=0) g2 (by decide)) ?_));exact Nat.lt_irrefl _)) ?_
    refine wpS_bind (qbY ea ?_)
    have ka':ky names ((y+1+4)/8) pa:=by refine substr (d8s hqr hr hr8) (substr (d4s g1 hr hr8).symm ?_);exact ka
    refine substr (if_neg (by simp;exact qwM hy hqr hr8 g1)) (substr (if_neg (qob h1)) ?_)
    by_cases hr7:r=7
    ·refine wpS_pure (qaH rfl (y50 hy hqr hr8 (fun e=>hr (by refine substr e ?_;decide))) _ (ia+1) ib (ac+1) 0 (q+1) 0 rfl (qwN hqr hr7) (qwO) (fun h=>by exact qwP g1 g2 hr7) (fun h=>by exact qwQ h) (by refine substr (Array.size_push ..) (substr hz rfl)) (push pa ka') (qwR g3 hr7) (qeJ))
    ·refine wpS_pure (qaH rfl (y50 hy hqr hr8 (fun e=>hr (by refine substr e ?_;decide))) _ (ia+1) ib (ac+1) 0 q (r+1) rfl (qoc hqr) (qwS hr8 hr7) (fun h=>by exact qwT hr h) (fun h=>by exact qwU g1 g2 g3) (by refine substr (Array.size_push ..) (substr hz rfl)) (push pa ka') (qwV hr8 g3) (qeJ))
end
section
variable{A:Around}{s:Shared}{names:List Str}
theorem qqU:∀ j:Nat,j<64->ra2[j]?=some (j%32/4):=by decide +kernel
theorem Rl.ky{st:SortSt}{ra:Array Nat}(R:Rl names st ra){j r:Nat}(h:ra[j]?=some r):∃ p,(arrOf st)[j]?=some p/\ky names r p:=by
 refine oAE (R.at_ j r h) fun _ t e=>?_
 exact qzi _ e t rfl
theorem qpt{σ:Type}{M:Model}{x st:σ}{Q:PUnit->σ->Prop}(h:Q ⟨⟩ x):wpS M A E s (set x:StateT σ Sem PUnit) Q st:=by
 unfold wpS;refine substr (StateT.run_set ..) ?_;exact wpAny_pure ⟨rfl,h⟩
theorem qli{α:Type}(base:Nat):∀(l:List α) (k:Nat) (arr:Array α) (j:Nat),base+k+l.length<=arr.size->
 ((l.zipIdx k).foldl (fun a x=>a.setIfInBounds (base+x.2) x.1) arr)[j]?=if base+k<=j/\j<base+k+l.length then l[j-(base+k)]? else arr[j]?
 | [],k,arr,j,_=>by
  refine substr List.zipIdx_nil (substr List.foldl_nil (substr (if_neg (by simp only[List.length_nil];exact qwW)) rfl))
 | x::l,k,arr,j,hz=>by
  rw[length_cons] at hz
  refine substr List.zipIdx_cons (substr List.foldl_cons (substr (qli base l (k+1) _ j (by refine substr Array.size_setIfInBounds ?_;exact qwX hz)) (substr length_cons ?_)))
  by_cases h0:j=base+k
  ·subst h0
   refine substr (if_neg (qwY)) (substr (if_pos (qwZ)) (substr (Nat.sub_self ..) (substr Array.getElem?_setIfInBounds (substr (if_pos rfl) (substr (if_pos (by omega)) ?_)))));rfl
  ·by_cases h1:base+(k+1)<=j/\j<base+(k+1)+l.length
   ·refine substr (if_pos h1) (substr (if_pos (qw0 h1.1 h1.2)) (substr (show j-(base+k)=(j-(base+(k+1)))+1 by exact qw1 h1.1) (substr List.getElem?_cons_succ rfl)))
   ·refine substr (if_neg h1) (substr (if_neg (qw2 h0 h1)) (substr Array.getElem?_setIfInBounds (substr (if_neg (Ne.symm h0)) rfl)))
theorem qj9(hs:Strict names)(hl:names.length=8){st:SortSt}{pw:Nat}(R:Rl names st ra2)(hp:pendingOf st=#[(0,32,pw),(32,32,0)])(hg:gallopOf st=7){Q:Bool->SortSt->Prop}
 (h:∀ st',pendingOf st'=#[(0,64,pw)]->failedOf st'=none->(arrOf st').size=64->(∀ j,j<64->∃ p,(arrOf st')[j]?=some p/\ky names (j/8) p)->Q true st'):wpS (model prog w) A E s (mergeAt' 0) Q st:=by
 refine wpS_bind (wpS_get ?_)
 have hp2:PyProof.Rows.pendingOf st=#[(0,32,pw),(32,32,0)]:=hp
 unfold PyProof.Rows.pendingOf at hp2
 dsimp only
 refine substr hp2 ?_
 refine wpS_bind (qpt ?_)
 have hz:(arrOf st).size=64:=by refine substr R.size ?_;rfl
 have hk:kindOf st=oneType':=R.kind
 have ar:∀ j,j<64->∃ p,(arrOf st)[j]?=some p/\ky names (j%32/4) p:=fun j hj=>R.ky (qqU j hj)
 have beF:∀ {key:Keyed} {r base cut:Nat} {st2:SortSt},kindOf st2=oneType'->r<8->ky names r key->(∀ i,i<32->base+i<64/\decide (r<(base+i)%32/4)=!decide (i<cut))->∀(i:Nat) {Q:Option Bool->SortSt->Prop},i<32->Q (some (decide (i<cut))) st2->
  wpS (model prog w) A E s (do let x <- elem' (arrOf st) (base+i);if false=true then lt' x key else do let r <- lt' key x;pure (r.map (!·))) Q st2:=by
  intro key r base cut st2 hk2 hr hky hc i Q hi hq
  obtain⟨c1,c2⟩:=hc i hi
  refine oEA (ar _ c1) fun p e k=>?_
  refine wpS_bind (qbY e ?_)
  refine substr (if_neg (by decide)) ?_
  refine wpS_bind (qj7 hs (qhd hl hr) (qod hl) hky k hk2 (wpS_pure ?_))
  refine substr c2 ?_
  have e2:(Option.map (fun x=>!x) (some (!decide (i<cut))))=some (decide (i<cut)):=by
   show some (!!decide (i<cut))=_
   refine substr (Bool.not_not ..) rfl
  refine substr e2 ?_;exact hq
 have beT:∀ {key:Keyed} {r base cut:Nat} {st2:SortSt},kindOf st2=oneType'->r<8->ky names r key->(∀ i,i<32->base+i<64/\decide ((base+i)%32/4<r)=decide (i<cut))->∀(i:Nat) {Q:Option Bool->SortSt->Prop},i<32->Q (some (decide (i<cut))) st2->
  wpS (model prog w) A E s (do let x <- elem' (arrOf st) (base+i);if true=true then lt' x key else do let r <- lt' key x;pure (r.map (!·))) Q st2:=fun hk2 hr hky hc i Q hi hq=>by
  obtain⟨c1,c2⟩:=hc i hi
  refine oEA (ar _ c1) fun p e k=>?_
  refine wpS_bind (qbY e ?_)
  refine substr (if_pos rfl) ?_
  exact qj7 hs (qod hl) (qhd hl hr) k hky hk2 (by refine substr c2 ?_;exact hq)
 refine oEA (ar 32 (by decide)) fun p32 e32 k32=>?_
 refine oEA (ar 31 (by decide)) fun p31 e31 k31=>?_
 have k1:kindOf (SortSt.mk' (kindOf st) (arrOf st) ((#[(0,32,pw),(32,32,0)].setIfInBounds 0 (0,32+32,pw)).eraseIdxIfInBounds (0+1)) (gallopOf st) (failedOf st))=oneType':=hk
 have k2:gallopOf (SortSt.mk' (kindOf st) (arrOf st) ((#[(0,32,pw),(32,32,0)].setIfInBounds 0 (0,32+32,pw)).eraseIdxIfInBounds (0+1)) (gallopOf st) (failedOf st))=7:=hg
 have k3:failedOf (SortSt.mk' (kindOf st) (arrOf st) ((#[(0,32,pw),(32,32,0)].setIfInBounds 0 (0,32+32,pw)).eraseIdxIfInBounds (0+1)) (gallopOf st) (failedOf st))=none:=R.ok
 have k4:arrOf (SortSt.mk' (kindOf st) (arrOf st) ((#[(0,32,pw),(32,32,0)].setIfInBounds 0 (0,32+32,pw)).eraseIdxIfInBounds (0+1)) (gallopOf st) (failedOf st))=arrOf st:=rfl
 have k5:pendingOf (SortSt.mk' (kindOf st) (arrOf st) ((#[(0,32,pw),(32,32,0)].setIfInBounds 0 (0,32+32,pw)).eraseIdxIfInBounds (0+1)) (gallopOf st) (failedOf st))=#[(0,64,pw)]:=by
  show(#[(0,32,pw),(32,32,0)].setIfInBounds 0 (0,32+32,pw)).eraseIdxIfInBounds (0+1)=_
  apply Array.toList_inj.mp
  simp[Array.eraseIdxIfInBounds]
 show wpS _ _ _ _ _ _ (SortSt.mk' (kindOf st) (arrOf st) ((#[(0,32,pw),(32,32,0)].setIfInBounds 0 (0,32+32,pw)).eraseIdxIfInBounds (0+1)) (gallopOf st) (failedOf st))
 generalize SortSt.mk' (kindOf st) (arrOf st) ((#[(0,32,pw),(32,32,0)].setIfInBounds 0 (0,32+32,pw)).eraseIdxIfInBounds (0+1)) (gallopOf st) (failedOf st)=st1 at k1 k2 k3 k4 k5
 refine wpS_bind (qbY e32 ?_)
 refine wpS_bind (qlh (left:=false) (base:=0) (n:=32) (hint:=0) (cut:=4) (by decide) (by decide) (beF k1 (by decide) k32 (by decide)) ?_)
 dsimp only
 refine substr (if_neg (by decide)) ?_
 refine wpS_bind (qbY e31 ?_)
 refine wpS_bind (qlh (left:=true) (base:=32) (n:=32) (hint:=31) (cut:=28) (by decide) (by decide) (beT k1 (by decide) k31 (by decide)) ?_)
 dsimp only
 refine substr (if_neg (by decide)) (substr (if_pos (by decide)) ?_)
 refine wpS_bind (qj8 hs hl k1 k2 (a:=(arrOf st).extract 4 32) (b:=(arrOf st).extract 32 60) (by refine substr Array.size_extract (substr hz ?_);rfl) (by refine substr Array.size_extract (substr hz ?_);rfl) (fun j hj=>?_) (fun j hj=>?_) fun out zo ho=>?_)
 ·refine oEA (ar (4+j) (qw3 hj)) fun p e k=>?_
  refine(iEA p ?_ ?_)
  ·refine substr Array.getElem?_extract (substr hz (substr (if_pos (qw4 hj)) ?_));exact e
  ·refine substr (show j/4+1=(4+j)%32/4 by exact ad2 _ hj) ?_;exact k
 ·refine oEA (ar (32+j) (qw5 hj)) fun p e k=>?_
  refine(iEA p ?_ ?_)
  ·refine substr Array.getElem?_extract (substr hz (substr (if_pos (qw6 hj)) ?_));exact e
  ·refine substr (show j/4=(32+j)%32/4 by exact ad3 _ hj) ?_;exact k
 refine wpS_bind (wpS_modify (wpS_bind (wpS_get ?_)))
 have hf2:=k3
 unfold PyProof.Rows.failedOf at hf2
 have zl:out.toList.length=56:=by refine substr Array.length_toList (substr zo rfl)
 refine wpS_pure ?_
 dsimp only
 refine substr hf2 ?_
 refine h _ k5 rfl ?_ fun j hj=>?_
 ·show(List.foldl (fun(a:Array Keyed) (x:Keyed×Nat)=>a.setIfInBounds (4+x.2) x.1) (arrOf st1) out.toList.zipIdx).size=64
  refine substr k4 ?_
  have:∀(l:List (Keyed×Nat)) (a:Array Keyed),(l.foldl (fun(a:Array Keyed) (x:Keyed×Nat)=>a.setIfInBounds (4+x.2) x.1) a).size=a.size:=by
   intro l
   induction l with
   | nil=>intro a;rfl
   | cons x l ih=>intro a;refine substr List.foldl_cons (substr (ih ..) (substr Array.size_setIfInBounds rfl))
  refine substr (this ..) (substr hz rfl)
 ·show ∃ p,(List.foldl (fun(a:Array Keyed) (x:Keyed×Nat)=>a.setIfInBounds (4+x.2) x.1) (arrOf st1) out.toList.zipIdx)[j]?=some p/\_
  refine substr k4 (substr (qli 4 out.toList 0 (arrOf st) j (by refine substr zl (substr hz ?_);decide)) (substr zl ?_))
  by_cases hc:4+0<=j/\j<4+0+56
  ·refine substr (if_pos hc) ?_
   refine oEA (ho (j-4) (qw7 hc.2)) fun p e k=>?_
   refine(iEA p ?_ ?_)
   ·refine substr e.symm (substr Array.getElem?_toList rfl)
   ·refine substr (show j/8=(j-4+4)/8 by exact qw8) ?_;exact k
  ·refine substr (if_neg hc) ?_
   refine oEA (ar j hj) fun p e k=>?_
   refine(iEA p e ?_)
   refine substr (show j/8=j%32/4 by exact ad4 _ hj hc) ?_;exact k
end
section
variable{A:Around}{s:Shared}{names:List Str}
theorem qlj:minRun' 64 64 0=32:=by decide +kernel
theorem qxC:power' 64 32 96 64=1:=by decide +kernel
theorem qqV:∀ i:Nat,i<9->ra0[0+i]?=some (i%8):=by decide +kernel
theorem qqW:∀ i:Nat,i<9->ra1[32+i]?=some (i%8):=by decide +kernel
theorem qpu(hs:Strict names)(hl:names.length=8){st:SortSt}(R:Rl names st ra0)(hp:pendingOf st=#[])(hg:gallopOf st=7){Q:Unit->SortSt->Prop}
 (h:∀ st',failedOf st'=none->(arrOf st').size=64->(∀ j,j<64->∃ p,(arrOf st')[j]?=some p/\ky names (j/8) p)->Q () st'):wpS (model prog w) A E s sortRuns' Q st:=by
 refine substr sortRuns'_eq ?_
 refine wpS_bind (wpS_get ?_)
 dsimp only
 have hz:(arrOf st).size=64:=R.size.trans rfl
 refine substr hz (substr qlj ?_)
 refine wpS_bind (wpS_mono (wpS_forRange
  (I:=fun x c st'=>(x=0/\c=(none,0)/\st'=st)\/(x=1/\c=(none,32)/\Rl names st' ra1/\pendingOf st'=#[(0,32,0)]/\gallopOf st'=7)\/(2<=x/\c=(none,64)/\Rl names st' ra2/\pendingOf st'=#[(0,32,1),(32,32,0)]/\gallopOf st'=7))
  (Q:=fun c st'=>c=(none,64)/\Rl names st' ra2/\pendingOf st'=#[(0,32,1),(32,32,0)]/\gallopOf st'=7) ?step ?fin (.inl (iAA rfl rfl rfl))) ?post)
 case fin=>
  rintro c st' (⟨hx,_⟩ | ⟨hx,_⟩ | ⟨_,h1,h2⟩)
  ·simp at hx
  ·simp at hx
  ·exact⟨h1,h2⟩
 case step=>
  rintro x c st' _ hx (e | e | e)
  ·refine substr e.1 (substr e.2.1 (substr e.2.2 ?_))
   dsimp only
   refine substr (if_neg (by decide)) ?_
   refine wpS_bind (qfb hs R (lo:=0) (nrem:=64-0) (by decide) qqV ?_)
   dsimp only
   refine substr (if_pos (by decide)) ?_
   refine wpS_bind (wpS_lift (wpAny_rule ⟨rfl,?_⟩))
   refine wpS_bind (qgY hs R (lo:=0) (n:=32) (ok:=8) (by decide) (by decide) (by show 32<=ra0.size;decide +kernel) fun st2 R2 e1 e2=>?_)
   rw[show(32-8:Nat)=24 from rfl,qxA] at R2
   simp only[Bool.not_true,Bool.false_eq_true,if_false]
   refine wpS_bind (wpS_get ?_)
   refine substr e1 (substr hp ?_)
   refine substr (show(#[]:Array (Nat×Nat×Nat)).back?=none from rfl) ?_
   dsimp only
   refine wpS_bind (wpS_modify (wpS_pure (.inr (.inl (qjz (by first | rfl | trivial | simp) (by first | rfl | simp) ⟨R2.kind,R2.ok,R2.size,R2.at_⟩ ?_ (e2.trans hg))))))
   show(pendingOf st2).push _=_
   refine substr e1 (substr hp ?_);rfl
  ·refine oAA e fun e1' e2' z=>oAA z fun R1 p1 g1=>substr e1' (substr e2' ?_)
   dsimp only
   refine substr (if_neg (by decide)) ?_
   refine wpS_bind (qfb hs R1 (lo:=32) (nrem:=64-32) (by decide) qqW ?_)
   dsimp only
   refine substr (if_pos (by decide)) ?_
   refine wpS_bind (wpS_lift (wpAny_rule ⟨rfl,?_⟩))
   refine wpS_bind (qgY hs R1 (lo:=32) (n:=32) (ok:=8) (by decide) (by decide) (by show 64<=ra1.size;decide +kernel) fun st2 R2 e1 e2=>?_)
   rw[show(32-8:Nat)=24 from rfl,qxB] at R2
   simp only[Bool.not_true,Bool.false_eq_true,if_false]
   refine wpS_bind (wpS_get ?_)
   refine substr e1 (substr p1 ?_)
   refine substr (show(#[(0,32,0)]:Array (Nat×Nat×Nat)).back?=some (0,32,0) from rfl) ?_
   dsimp only
   refine wpS_bind (wpS_mono (wpS_forRange (I:=fun _ c st3=>st3=st2/\c=(none,())) (Q:=fun c st3=>st3=st2/\c=(none,())) ?_ (fun _ _ hh=>hh) ⟨rfl,rfl⟩) ?_)
   ·rintro x c st3 _ _ e;refine substr e.1 (substr e.2 ?_)
    refine wpS_bind (wpS_get ?_)
    refine substr (if_neg (by refine substr e1 (substr p1 ?_);decide)) ?_
    exact wpS_pure ⟨rfl,rfl⟩
   ·rintro c st3 ⟨rfl,rfl⟩
    dsimp only
    refine wpS_bind (wpS_modify (wpS_bind (wpS_modify (wpS_pure (.inr (.inr (qjz (by first | trivial | simp) (by first | rfl | simp) ⟨R2.kind,R2.ok,R2.size,R2.at_⟩ ?_ (e2.trans g1))))))))
    show((pendingOf st3).modify ((pendingOf st3).size-1) fun x=>(x.1,x.2.1,power' 64 (2*0+32) (2*0+32+32+min (64-32) 32) 64)).push (32,min (64-32) 32,0)=_
    refine substr e1 (substr p1 (substr (show power' 64 (2*0+32) (2*0+32+32+min (64-32) 32) 64=1 from qxC) ?_))
    decide +kernel
  ·refine oAA e fun hx2 e2' z=>oAA z fun R2 p2 g2=>substr e2' ?_
   dsimp only
   refine substr (if_pos (Nat.le_refl _)) ?_
   exact wpS_pure (qdr rfl R2 p2 g2)
 case post=>
  intro c st' r2';refine qdq r2' fun e0' R2 p2 g2=>substr e0' ?_
  dsimp only
  refine wpS_bind (wpS_mono (wpS_forRange (I:=fun x c st2=>c=(none,())/\((x=0/\st2=st')\/(1<=x/\pendingOf st2=#[(0,64,1)]/\failedOf st2=none/\(arrOf st2).size=64/\(∀ j,j<64->∃ p,(arrOf st2)[j]?=some p/\ky names (j/8) p))))
   (Q:=fun c st2=>c=(none,())/\failedOf st2=none/\(arrOf st2).size=64/\(∀ j,j<64->∃ p,(arrOf st2)[j]?=some p/\ky names (j/8) p)) ?step ?fin ⟨rfl,.inl ⟨rfl,rfl⟩⟩) ?post)
  case fin=>
   rintro c st2 ⟨rfl,⟨hx,_⟩ | ⟨_,_,h1⟩⟩
   ·simp at hx
   ·exact⟨rfl,h1⟩
  case post=>
   intro c st2 r2';refine qdq r2' fun e0' h1 h2 h3=>substr e0' ?_
   exact wpS_pure (h _ h1 h2 h3)
  case step=>
   rintro x c st2 _ _ ⟨e,e' | ⟨_,h0,h1⟩⟩
   ·refine substr e'.1 (substr e (substr e'.2 ?_))
    refine wpS_bind (wpS_get ?_)
    refine substr p2 ?_
    refine substr (if_neg (by decide)) ?_
    refine wpS_bind (qj9 hs hl R2 p2 g2 fun st3 q1 q2 q3 q4=>?_)
    simp only[Bool.not_true,Bool.false_eq_true,if_false]
    exact wpS_pure ⟨rfl,.inr (qjz (Nat.le_refl _) q1 q2 q3 q4)⟩
   ·refine substr e ?_
    refine wpS_bind (wpS_get ?_)
    refine substr h0 (substr (if_pos (by decide)) ?_)
    exact wpS_pure ⟨rfl,h1⟩
end
theorem ex8{α:Type}{P:List α->Prop}{l:List α}(hl:l.length=8)(k:∀ a b c d e f g h,P [a,b,c,d,e,f,g,h]):P l:=by
 have st:∀ {n:Nat} {P:List α->Prop} {l:List α},l.length=n+1->(∀ a r,r.length=n->P (a::r))->P l:=fun {n P l} h k=>by
  cases l with
  | nil=>cases h
  | cons a r=>exact k a r (Nat.succ.inj h)
 refine st hl fun a r h=>st (P:=fun r=>P (a::r)) h fun b r h=>st (P:=fun r=>P (a::b::r)) h fun c r h=>st (P:=fun r=>P (a::b::c::r)) h fun d r h=>st (P:=fun r=>P (a::b::c::d::r)) h fun e r h=>st (P:=fun r=>P (a::b::c::d::e::r)) h fun f r h=>st (P:=fun r=>P (a::b::c::d::e::f::r)) h fun g r h=>st (P:=fun r=>P (a::b::c::d::e::f::g::r)) h fun i r h=>?_
 exact(List.eq_nil_of_length_eq_zero h)▸k a b c d e f g i
theorem qqX{names:List Str}(hl:names.length=8):rp (fun _=>8) names=(List.range 64).map fun j=>nmA names (j/8):=by
 refine ex8 (P:=fun l=>rp (fun _=>8) l=(List.range 64).map fun j=>nmA l (j/8)) hl ?_
 intro a b c d e f g h;rfl
section
variable{names:List Str}
theorem qka{l:Addr}{xs:List Str}(hL:H l=some (lst (xs.map S)))(hs:Strict names)(hl:names.length=8)(hlen:xs.length=64)(hx:∀ j,j<64->xs[j]?=some (nmA names (j%8)))
 (h:∀ r,H r=none->Φ (.ref r) M (upd H r (lst ((rp (fun _=>8) names).map S)))):∀ vs,vs.map norm=[.ref l]->WV (model prog w) D (call (.builtin "sorted") ([]++vs)) M H Φ E:=by
 intro vs hvs s hs'
 (refine oEA (nm1 hvs) fun v e1' hv=>?_;obtain rfl:=e1')
 refine substr (qz hv) ?_
 refine oEA (hs'.list hL) fun us hLs hm=>?_
 have hul:us.length=64:=by refine substr (length_map (f:=norm)).symm (substr hm (substr (length_map ..) (substr hlen rfl)))
 have hSA:StrsAre us xs:=qcm hm
 have item:∀ j,j<64->∃ t,us[j]?=some (.str (nmA names (j%8)) t):=fun j hj=>by
  have e:(us.map norm)[j]?=some (S (nmA names (j%8))):=by refine substr hm (substr getElem?_map (substr (hx j hj) ?_));rfl
  rw[getElem?_map] at e
  refine oEA (Option.map_eq_some_iff.mp e) fun v hv hn=>?_
  obtain⟨t,rfl⟩:=qH hn
  exact⟨t,hv⟩
 refine qf5 (κ:=oneType') (R:=fun out=>out.toList.map norm=(rp (fun _=>8) names).map S) hLs (quU hul) (quV hul) ?_ ?_ ?_ ?_
 ·intro A' E' s2 Q k hQ
  obtain⟨v1,v2,rest,rfl⟩:∃ v1 v2 rest,us=v1::v2::rest:=by
   match us,hul with
   | v1::v2::rest,_=>exact qp4 v1 v2 rest rfl
  refine substr (keyKind_strs hSA) ?_
  exact wpAny_pure hQ
 ·intro A' E' s2 k
  have R:Rl names (SortSt.mk' oneType' (us.toArray.zip us.toArray) #[] 7 none) ra0:=by
   refine⟨rfl,rfl,?_,fun j r hj=>?_⟩
   ·show(us.toArray.zip us.toArray).size=_
    refine substr Array.size_zip (substr List.size_toArray (substr hul ?_));rfl
   ·have hj64:j<64:=by
     have:=(Array.getElem?_eq_some_iff.mp hj).1
     exact this
    have hr:r=j%8:=by
     have:∀ j:Nat,j<64->ra0[j]?=some (j%8):=by decide +kernel
     rw[this j hj64] at hj
     injection hj with hj;exact hj.symm
    subst hr
    refine⟨by exact quW hl,?_⟩
    obtain⟨t,e⟩:=item j hj64
    refine⟨t,?_⟩
    show(us.toArray.zip us.toArray)[j]?=_
    have hj2:j<us.length:=quX hul hj64
    have e2:us[j]=.str (nmA names (j%8)) t:=by
     rw[getElem?_eq_getElem hj2] at e
     injection e
    refine substr (Array.getElem?_eq_getElem (by refine substr Array.size_zip (substr List.size_toArray ?_);exact quY hul hj64)) ?_
    simp[e2]
  refine wpAny_mono (qpu (prog:=prog) (w:=w) (A:=A') (E:=E') (s:=s2) hs hl R rfl rfl (Q:=fun _ st'=>failedOf st'=none/\((arrOf st').map (·.2)).toList.map norm=(rp (fun _=>8) names).map S) fun st' q1 q2 q3=>⟨q1,?_⟩) (fun r s3 hr=>hr) fun _ _ x=>x
  refine substr (qqX hl) ?_
  refine List.ext_getElem? fun j=>?_
  refine substr Array.toList_map (substr map_map (substr map_map (substr getElem?_map (substr getElem?_map ?_))))
  by_cases hj:j<64
  ·(refine qzg (q3 j hj) fun p e t e3'=>?_;obtain rfl:=e3')
   refine substr Array.getElem?_toList (substr e (substr (List.getElem?_range hj) ?_))
   rfl
  ·refine substr (List.getElem?_eq_none (by refine substr Array.length_toList (substr q2 ?_);exact qnJ hj)) (substr (List.getElem?_eq_none (by refine substr List.length_range ?_;exact qnJ hj)) ?_)
   rfl
 ·intro out ho
  have:=congrArg List.length ho
  rw[length_map,length_map,qqX hl,length_map,List.length_range,Array.length_toList] at this
  exact quZ hul this
 ·intro out ho
  obtain⟨a1,a2⟩:=qey hs' (vs:=us) ho
  exact⟨M,_,a1,h _ a2⟩
end
section
open PySem.Calls Builtin
set_option linter.unusedSimpArgs false
section
variable{w0:World}
theorem mc_eq:findIn (KF0 w0) (.ref 166) "__eq__"=some (some (.builtin "tuple.__eq__")):=by rfl
theorem qpv:builtinKind "tuple.__eq__"=some .slot:=by decide +kernel
theorem qmo:splitId "tuple.__eq__"=some ("tuple", "__eq__"):=by decide +kernel
theorem qiv:isSubtype (.type "tuple") (.ref 166)=pure false:=by refine substr (isSubtype_type ..) ?_;kernel_rfl
theorem qqY{prog:Program}{w:World}{A:Around}{Q:PySem.Fin->Shared->Prop}{E:Value->Shared->Prop}{h:Heap}{g:Array GenState}{d:Drawn}{tk:Nat}{os:OsState}{r a dx:Addr}{i j:Int}{x:Str}{t1 t2 t3 u1 u2 u3:Tok}{n:Nat}
 (hr:h.get? r=some { cls:=.ref 166,dict:=some dx,data:=.seq #[.int i t1,.int j t2,.str x t3] }) (ha:h.get? a=some { cls:=.type "tuple",data:=.seq #[.int i u1,.int j u2,.str x u3] n })
 (hq:Q (.done (.ret (.bool true))) ⟨h,g,d,tk,os⟩):
 wpAny (model prog w) A (Builtin.«tuple.__eq__» ⟨[.ref r,.ref a],[]⟩) Q E ⟨h,g,d,tk,os⟩:=by
 have L1:Looks (model prog w) h (isInstance (.ref a) (.type "tuple")) true:=((Looks.ld ha).andThen .now).andThen (Looks.of_pure AutoSeq1.sub_tuple_tuple)
 unfold Builtin.«tuple.__eq__»
 iterate 30 lk
 refine wpAny_load ha (wpAny_pure (wpAny_pure ?_))
 refine wpAny_bind ?_
 have ez:[Value.int i t1,Value.int j t2,Value.str x t3].zip (#[Value.int i u1,Value.int j u2,Value.str x u3]:Array Value).toList=[(Value.int i t1,Value.int i u1),(Value.int j t2,Value.int j u2),(Value.str x t3,Value.str x u3)]:=rfl
 refine substr ez (substr (List.forIn_cons ..) ?_)
 refine wpAny_bind (wpAny_bind (wpAny_eqBool_int ?_))
 refine substr (show(!(i==i))=false by simp) (substr (if_neg (by decide)) ?_)
 refine wpAny_pure ?_
 dsimp only
 refine substr (List.forIn_cons ..) ?_
 refine wpAny_bind (wpAny_bind (wpAny_eqBool_int ?_))
 refine substr (show(!(j==j))=false by simp) (substr (if_neg (by decide)) ?_)
 refine wpAny_pure ?_
 dsimp only
 refine substr (List.forIn_cons ..) ?_
 refine wpAny_bind (wpAny_bind (eqBool_str ?_))
 refine substr (show(!(x==x))=false by simp) (substr (if_neg (by decide)) ?_)
 refine wpAny_pure ?_
 dsimp only
 refine substr List.forIn_nil ?_
 exact wpAny_pure (wpAny_pure hq)
theorem qqZ{A:Around}{s:Shared}{r a dx:Addr}{i j:Int}{x:Str}{t1 t2 t3 u1 u2 u3:Tok}{n:Nat}(X:(KF0 w0).In s.heap)
 (hr:s.heap.get? r=some { cls:=.ref 166,dict:=some dx,data:=.seq #[.int i t1,.int j t2,.str x t3] }) (ha:s.heap.get? a=some { cls:=.type "tuple",data:=.seq #[.int i u1,.int j u2,.str x u3] n }) (hu:A.units<cLine):
 RcAt A s (.ref r) (.ref a) true:=fun prog w E Q h=>by
 obtain⟨hh,g,d,tk,os⟩:=s
 have T1:Looks (model prog w) hh (typeOf (.ref r)) (.ref 166):=(Looks.ld hr).andThen .now
 have T2:Looks (model prog w) hh (typeOf (.ref a)) (.type "tuple"):=(Looks.ld ha).andThen .now
 have T3:Looks (model prog w) hh (isInstance (.ref r) (.type "tuple")) true:=T1.andThen (looks_mroIn X (qk6 (w:=w0)))
 have T4:Looks (model prog w) hh (specialOf (.ref r) "__eq__") (some (.builtin "tuple.__eq__")):=T1.andThen (looks_findIn X (mc_eq (w0:=w0)))
 have hb:Shared.TypeIs ⟨hh,g,d,tk,os⟩ (.ref a) "tuple":=⟨_,ha,rfl⟩
 unfold richCompare
 refine wpAny_holding (wpAny_bind (wpAny_cRoomFor_or (.inr hu) ?_))
 refine substr (show oneThing? .Eq (.ref r) (.ref a)=none from rfl) ?_
 dsimp only
 refine wpAny_bind (T1.at (wpAny_bind (T2.at ?_)))
 refine substr (show((Value.ref 166) != Value.type "tuple")=true from rfl) (substr (if_pos rfl) ?_)
 refine wpAny_bind (wpAny_of_eq qiv ?_)
 refine substr (if_neg Bool.false_ne_true) ?_
 refine wpAny_bind ?_
 show wpAny _ _ (tryCompare (.ref r) "__eq__" (.ref a)) _ _ _
 unfold tryCompare callSpecialIfBound? bindSpecialIfBound?
 have bs:bindSpecial (.builtin "tuple.__eq__") (.ref r)=pure (.builtin "tuple.__eq__",[.ref r]):=F.slot_tuple_eq.bind (.ref r)
 have fin:∀ {Q2:Option Value->Shared->Prop},Q2 (some (.bool true)) ⟨hh,g,d,tk,os⟩->wpAny (model prog w) A (call (.builtin "tuple.__eq__") ([.ref r]++[.ref a]) >>= fun v=>pure (some v)) Q2 E ⟨hh,g,d,tk,os⟩:=fun hq2=>by
  refine wpAny_bind (wpAny_call (codeAny_call_builtin F.slot_tuple_eq.plain F.entry_tuple_eq (@check_slot (model prog w) _ _ _ "tuple.__eq__" "tuple" "__eq__" (.ref r) [.ref a] [] _ qpv qmo T3 (F.args_tuple_eq_2 _ _) (qqY hr ha (wpAny_pure hq2)))))
 refine wpAny_bind (wpAny_holding (wpAny_bind (wpAny_bind (T4.at ?_))))
 dsimp only
 refine substr bs ?_
 refine wpAny_bind (wpAny_askSetting (wpAny_ite ?_))
 split
 ·refine wpAny_bind (wpAny_pure (wpAny_pure ?_))
  exact fin (wpAny_pure (wpAny_pure h))
 ·refine wpAny_tryCatch (wpAny_bind (wpAny_pure (wpAny_pure ?_)))
  exact fin (wpAny_pure (wpAny_pure h))
noncomputable def WAll(H:AH):List Addr->List (Nat×Nat×Str)->Prop
 | [],[]=>True
 | a::as,t::ts=>H a=some (tup [I t.1,I t.2.1,S t.2.2])/\WAll H as ts
 | _,_=>False
theorem WAll.len{H:AH}:∀ {as:List Addr} {ts:List (Nat×Nat×Str)},WAll H as ts->as.length=ts.length
 | [],[],_=>rfl
 | a::as,t::ts,h=>by simp[WAll.len h.2]
 | [],_::_,h=>h.elim
 | _::_,[],h=>h.elim
theorem WAll.to{H H':AH}(k:∀ a d,H a=some d->H' a=some d):∀ {as:List Addr} {ts:List (Nat×Nat×Str)},WAll H as ts->WAll H' as ts
 | [],[],_=>trivial
 | a::as,t::ts,h=>⟨k _ _ h.1,WAll.to k h.2⟩
 | [],_::_,h=>h.elim
 | _::_,[],h=>h.elim
theorem WAll.app{H:AH}:∀ {rs:List Addr} {os:List (Nat×Nat×Str)} {r:Addr} {o:Nat×Nat×Str},WAll H rs os->H r=some (tup [I o.1,I o.2.1,S o.2.2])->WAll H (rs++[r]) (os++[o])
 | [],[],_,_,_,k=>⟨k,trivial⟩
 | r::rs,o::os,_,_,h,k=>⟨h.1,WAll.app h.2 k⟩
 | [],_::_,_,_,h,_=>h.elim
 | _::_,[],_,_,h,_=>h.elim
theorem qiZ(ok:Ok (KF w.params) glob q7 D n){s:Shared}(hs:At D s M H)(hu:D.A.in1.units<cLine):∀ {as bs:List Addr} {ts:List (Nat×Nat×Str)},MisAll H as ts->WAll H bs ts->∀ j (h1:j<as.length) (h2:j<bs.length),EqAt D.A.in1 s (.ref as[j]) (.ref bs[j]) true
 | a::as,b::bs,t::ts,hm,hw,0,_,_=>by
  refine qch hm.1 fun dx t1 t2 t3 e=>?_
  have g1:s.heap.get? a=some _:=(hs.own _ _ e).2.2
  refine qau (hs.own _ _ hw.1) fun _ _ us k e2 hmm=>?_
  refine qaC (qeg hmm) fun v1 v2 v3 hvs3 q1 q2 q3=>?_
  obtain⟨u1,rfl⟩:=qD q1
  obtain⟨u2,rfl⟩:=qD q2
  obtain⟨u3,rfl⟩:=qH q3
  have hu3:us=#[.int t.1 u1,.int t.2.1 u2,.str t.2.2 u3]:=by refine substr hvs3.symm rfl
  subst hu3
  refine qR hs.fr fun g m T0 F R=>?_
  refine EqAt.of_refs (fun q=>?_) (qqZ (w0:=w) ((ok.X T0).keeps F.keep) g1 e2 hu)
  have q:a=b:=q
  have:=hw.1
  rw[<- q,e] at this;cases this
 | a::as,b::bs,t::ts,hm,hw,j+1,h1,h2=>by
  have:=qiZ ok hs hu hm.2 hw.2 j (by simpa using h1) (by simpa using h2)
  simpa using this
 | [],_,_,_,_,j,h1,_=>by simp at h1
 | _::_,[],_,_,_,j,_,h2=>by simp at h2
 | _::_,_::_,[],hm,_,_,_,_=>hm.elim
theorem qpw(ok:Ok (KF w.params) glob q7 D n)(hn:1<=n){l b:Addr}{ads bds:List Addr}{out:List (Nat×Nat×Str)}(hl:H l=some (lst (ads.map Value.ref)))(hm:MisAll H ads out)(hb:H b=some (lst (bds.map Value.ref)))(hw:WAll H bds out)(h:Φ (.bool false) M H):
 ∀ v u,norm v=.ref l->norm u=.ref b->WV (model prog w) D (compareOp .NotEq v u) M H Φ E:=by
 intro v u hv hu' s hs
 have hu1:=ok.units
 refine substr (qz hv) (substr (qz hu') ?_)
 refine oEA (hs.list hl) fun us hL hmu=>?_
 refine oEA (hs.list hb) fun ws hB hmw=>?_
 have:=qeY hmu
 subst this
 have:=qeY hmw
 subst this
 have e1:=hm.len
 have e2:=hw.len
 refine RcNeAt.lists (e:=fun _=>true) hL hB (by simp;exact qyT e1 e2) (qyU hu1) (fun j h1 h2=>?_) prog w _ _ ⟨M,H,hs,?_⟩
 ·have:=qiZ ok hs (by show D.A.units+1<_;exact qyV hn hu1) hm hw j (by simpa using h1) (by simpa using h2)
  simpa using this
 ·have:(List.range (ads.map Value.ref).toArray.size).all (fun _=>true)=true:=by simp
  refine substr this ?_;exact h
end
end
theorem qmp(hh:D.A.handled=none){it l:Addr}{zs:List Addr}{elts:List Expr}{kk:Nat}{pos:Pos}:Iter (model prog w) D (.Tuple elts kk pos) (.ref it) (fun a=>a=it) (fun a=>a=it\/a=l) zs.length
 (fun k H=>it≠l/\H it=some (qax l k)/\H l=some (lst (zs.map Value.ref))) (fun k p H=>∃ a,zs[k]?=some a/\p=.ref a) where
 frame:=fun q' hf=>oAA q' fun h0 h1 h2=>⟨h0,hf _ (.inl rfl) _ h1,hf _ (.inr rfl) _ h2⟩
 live:=fun q' a ha=>oAA q' fun h0 h1 _=>⟨_,ha▸h1⟩
 item:=by
  intro k M H E hk q' s hs
  refine oAA q' fun h0 h1 h2=>?_
  refine oEA (hs.list h2) fun vs hL hm=>?_
  have hvl:vs.length=zs.length:=by have:=congrArg List.length hm;simpa using this
  obtain⟨v,hv⟩:∃ v,vs[k]?=some v:=⟨_,getElem?_eq_getElem (ar1 hk hvl)⟩
  obtain⟨a,ha⟩:∃ a,zs[k]?=some a:=⟨_,getElem?_eq_getElem hk⟩
  have hva:norm v=.ref a:=by
   have:=congrArg (fun l=>l[k]?) hm
   simp only[getElem?_map,hv,ha,Option.map_some,Option.some.injEq] at this
   exact this
  have hv2:v=.ref a:=qz hva
  subst hv2
  refine wpAny_pyNext_list_item (hs.listIt h1) hL (by simpa using hv) fun h' hi hsb=>?_
  have hat:=hs.change (d':=qax l (k+1)) h1 hsb hi
  refine⟨M,_,hat,_,rfl,fun s' hs'=>?_⟩
  refine wpAny_letOwnedTupleGo_listiter (hs'.listIt (l:=l) (i:=k+1) upd_same) ⟨M,_,hs',rfl,⟨h0,upd_same,(qe (Ne.symm h0)).trans h2⟩,fun b d hb e=>(qe hb).trans e,a,ha,rfl⟩
 done:=by
  intro M H E q' s hs
  refine oAA q' fun h0 h1 h2=>?_
  refine oEA (hs.list h2) fun vs hL hm=>?_
  have hvl:vs.length=zs.length:=by have:=congrArg List.length hm;simpa using this
  refine wpAny_pyNext_list_end hh (hs.listIt h1) hL (by simp[hvl]) fun h' hsb=>?_
  exact⟨M,_,hs.ext h1 hsb,rfl,rfl,fun a d ha e=>(qb1 ha).trans e⟩
 self:=by
  intro k M H E q' s hs
  refine oAA q' fun h0 h1 _=>?_
  exact wpAny_pyIter_listiter (hs.listIt h1) ⟨M,H,hs,rfl,rfl,rfl⟩
theorem qmq(hh:D.A.handled=none){elts:List Expr}{kk:Nat}{p:Pos}{e:Expr}{fr:Addr->Prop}{zs:List Addr}
 (h:WV (model prog w) D (eval e env) M H (fun q M1 H1=>M1=M/\Sub H H1/\∃ l,q=.ref l/\H1 l=some (lst (zs.map Value.ref))/\(H l=none\/fr l)) E):
 qaf prog w D env (.Tuple elts kk p) e M H zs.length (fun k v _=>∃ a,zs[k]?=some a/\v=.ref a) fr E:=by
 unfold qaf
 refine qM h fun q M1 H1 q'=>qkC q' fun hM hS l hq hl hor=>?_
 intro y hy
 refine qej hl (fun it hit=>?_) y (hy.trans hq)
 have ne:it≠l:=Ne.symm (qG hit hl)
 refine⟨hM,hS.trans (Sub.upd hit),_,_,_,qmp hh (l:=l),fun a ha=>?_,fun a ha=>?_,ne,upd_same,qx hit hl⟩
 ·subst ha;exact⟨hS.none hit,_,upd_same⟩
 ·rcases ha with rfl | rfl
  ·exact⟨.inl (hS.none hit),_,upd_same⟩
  ·exact⟨hor,_,qx hit hl⟩
theorem TAll.app{H:AH}:∀ {rs:List Addr} {os:List (Nat×Str×Nat)} {r:Addr} {o:Nat×Str×Nat},TAll H rs os->H r=some (tup [I o.1,S o.2.1,I o.2.2])->TAll H (rs++[r]) (os++[o])
 | [],[],_,_,_,k=>⟨k,trivial⟩
 | r::rs,o::os,_,_,h,k=>⟨h.1,TAll.app h.2 k⟩
 | [],_::_,_,_,h,_=>h.elim
 | _::_,[],_,_,h,_=>h.elim
theorem TAll.at{H:AH}:∀ {as:List Addr} {ts:List (Nat×Str×Nat)} {k:Nat} {a:Addr},TAll H as ts->as[k]?=some a->∃ t,ts[k]?=some t/\H a=some (tup [I t.1,S t.2.1,I t.2.2])
 | b::as,t::ts,0,a,h,e=>by simp at e;subst e;exact⟨t,rfl,h.1⟩
 | b::as,t::ts,k+1,a,h,e=>by
  refine oEA (TAll.at h.2 (by simpa using e)) fun u hu g=>?_
  exact⟨u,by simpa using hu,g⟩
 | [],_,_,_,_,e=>by simp at e
 | _::_,[],_,_,h,_=>h.elim
theorem WAll.at{H:AH}:∀ {as:List Addr} {ts:List (Nat×Nat×Str)} {k:Nat} {a:Addr},WAll H as ts->as[k]?=some a->∃ t,ts[k]?=some t/\H a=some (tup [I t.1,I t.2.1,S t.2.2])
 | b::as,t::ts,0,a,h,e=>by simp at e;subst e;exact⟨t,rfl,h.1⟩
 | b::as,t::ts,k+1,a,h,e=>by
  refine oEA (WAll.at h.2 (by simpa using e)) fun u hu g=>?_
  exact⟨u,by simpa using hu,g⟩
 | [],_,_,_,_,e=>by simp at e
 | _::_,[],_,_,h,_=>h.elim
noncomputable def TkAt(H:AH)(L:Addr)(ps:List (List Nat)):Prop:=∃ as:List Addr,H L=some (lst (as.map Value.ref))/\as.length=ps.length/\∀(k:Nat) (a:Addr) (p:List Nat),as[k]?=some a->ps[k]?=some p->H a=some (lst (p.map fun q:Nat=>I (q:Int)))
theorem TkAt.to{H H':AH}{L:Addr}{ps:List (List Nat)}(s:Sub H H')(h:TkAt H L ps):TkAt H' L ps:=by
 refine qbe h fun as h1 h2 h3=>?_
 exact⟨as,s _ _ h1,h2,fun k a p e1 e2=>s _ _ (h3 k a p e1 e2)⟩
theorem qeZ{α β:Type}{f:α->Bool}(g:α->β){l:List α}{q:Nat}{x:α}(h:l[q]?=some x)(hb:f x=true):((l.take (q+1)).filter f).map g=((l.take q).filter f).map g++[g x]:=by
 refine substr List.take_add_one (substr h (substr (List.filter_append ..) (substr map_append ?_)));simp[hb]
theorem qe0{α β:Type}{f:α->Bool}(g:α->β){l:List α}{q:Nat}{x:α}(h:l[q]?=some x)(hb:f x=false):((l.take (q+1)).filter f).map g=((l.take q).filter f).map g:=by
 refine substr List.take_add_one (substr h (substr (List.filter_append ..) (substr map_append ?_)));simp[hb]
noncomputable def lawDef:List Stmt:=fdx [] (fun _ _ b _=>b) Challenge.pw_ij0114_01.main.body.getLast?
noncomputable def lawKs:List (String×NameKind):=[("script",.local),("cells",.local),("signs",.cell),("rows",.cell),("names",.local),("odd",.local),("even",.local),("single",.local),("chain",.local),("takers",.local),("lone",.local),("oftener",.local),("fewer",.local),("told",.local),("wanted",.local),
 ("_law_signs",.globalImplicit),("sum",.globalImplicit),("sorted",.globalImplicit),("range",.globalImplicit),("_law_piled",.globalImplicit),("zip",.globalImplicit),("sorted_list_difference",.globalImplicit),("_count_diff_all_purpose",.globalImplicit),("unorderable_list_difference",.globalImplicit),("reversed",.globalImplicit)]
noncomputable def toldOf(f:Str->List Nat)(names:List Str):List (Nat×Str×Nat):=(names.filter fun x=>decide (f x≠[])).map fun x=>((f x).headD 0,x,(f x).length)
noncomputable def wantOf(t:Nat×Str×Nat):Nat×Nat×Str:=(2^t.2.2/2,2^t.2.2/2-1,t.2.1)
theorem qmr(k:Nat)(hk:k<=3)(h1:1<=k):((2:Int)^((k:Int).toNat)).fdiv 2=((2^k/2:Nat):Int)/\((2:Int)^((k:Int).toNat)).fdiv 2-1=((2^k/2-1:Nat):Int):=by
 have:∀ k:Nat,k<4->1<=k->((2:Int)^((k:Int).toNat)).fdiv 2=((2^k/2:Nat):Int)/\((2:Int)^((k:Int).toNat)).fdiv 2-1=((2^k/2-1:Nat):Int):=by decide
 exact this k (qm7 hk) h1
theorem qbq{H:AH}{l:Addr}{xs ys:List Value}(h1:H l=some (lst xs))(h2:H l=some (lst ys)):xs=ys:=by rw[h1] at h2;cases h2;rfl
theorem qms{l:List Nat}(h:l≠[]):l[0]?=some (l.headD 0):=by cases l with | nil=>exact absurd rfl h | cons a r=>rfl
inductive TdR(ts:Nat->List (Nat×Str×Nat))(k:Nat)(ys:List Value)(Hk:AH):Prop
 | mk(as:List Addr)(h:ys=as.map Value.ref)(t:TAll Hk as (ts k))
theorem qmt(ok:Ok (KF w.params) glob q7 D (n+6))(ke:KE env lawKs)(hlo:env.locals=D.L){Nn Tk:Addr}{names:List Str}{f:Str->List Nat}{Φ:Flow->Loc->AH->Prop}
 (w1:look "names" M=some (.ref Nn)) (w2:look "takers" M=some (.ref Tk)) (hN:H Nn=some (lst (names.map S))) (hT:TkAt H Tk (names.map f)) (hl:names.length<=8) (hf:∀ x∈names,(f x).length<=3)
 (h:∀ r as' ts' Hs,Sub H Hs->Hs r=some (lst (as'.map Value.ref))->TAll Hs as' ts'->ts'.Perm (toldOf f names)->ts'.Pairwise leT->WS (model prog w) D (execs (lawDef.drop 13) env) (put "told" (.ref r) M) Hs Φ E):
 WS (model prog w) D (execs (lawDef.drop 12) env) M H Φ E:=by
 have big:(1000000:Nat)<=sizeLine:=by decide
 refine qbe hT fun tas hTk htl htf=>?_
 rw[length_map] at htl
 refine qI (qF ?_)
 walk_at "n"
 refine qY (qp qu (qd ?_))
 refine qiM (n:=min (names.map S).length (tas.map Value.ref).length) (fr:=fun a=>a=Nn\/a=Tk) (TdR fun k=>toldOf f (names.take k)) [(".0",.local),("name",.local),("places",.local),("len",.globalImplicit)] ke (qat (ks0:=[(".0",.local),("name",.local),("places",.local),("len",.globalImplicit)]) (by rfl) (by decide)) (by rfl) (by decide) (by decide) (by decide)
  (qc3 ok.hand (by
   walk_at "n"
   refine⟨rfl,?_⟩
   walk_at "n"
   refine⟨rfl,?_⟩
   walk_at "n"
   exact(qea rfl rfl Sub.refl (qbA ok.hand hN) (qbA ok.hand hTk) (fun a ha=>.inr ha))) rfl) (by simp;exact qha hl) ⟨[],rfl,by refine substr List.take_zero ?_;trivial⟩ ?_ ?_
 ·rintro k ys Hk Hc Lc Mc v hk hyl ⟨as,rfl,hta⟩ s1 s2 hLc hnL cenv cke hcl hcc ⟨T,p,q,hv,hT,⟨ys,hys,hc⟩,⟨zs,hzs,hd⟩⟩
  have e1:=qbq hys (s2 _ _ (s1 _ _ hN))
  have e2:=qbq hzs (s2 _ _ (s1 _ _ hTk))
  subst e1 e2
  (refine oEA (qai hc) fun x hx e2'=>?_;obtain rfl:=e2')
  (refine oEA (qai hd) fun ta hta' e2'=>?_;obtain rfl:=e2')
  have hxm:x∈names:=mem_of_getElem? hx
  have hfa:Hk ta=some (lst ((f x).map fun q:Nat=>I (q:Int))):=s1 _ _ (htf k ta (f x) hta' (by refine substr getElem?_map (substr hx ?_);rfl))
  have hfc:=s2 _ _ hfa
  have htL:ta≠Lc:=fun e=>by rw[<- e,hfa] at hnL;exact o_sn hnL
  have hlen:=hf x hxm
  refine qbP (D:=D) ok.hand hT ?_ _ hv
  refine qj ?_;walk_at "s"
  refine qj ?_;walk_at "s"
  refine qN ?_
  refine qcP (qao ?_)
  walk_at "n"
  refine qfO (by walk_at "h") (by refine substr (length_map ..) ?_;exact qda hlen) ⟨fun hb=>?_,fun hb=>?_⟩
  ·have hne:f x≠[]:=by intro e;rw[e] at hb;simp at hb
   have hg:=qms hne
   refine qaa (qd (qW ?_))
   walk_at "n"
   refine qw (qb0 (p:=I ((f x).headD 0:Nat)) (l:=ta) (by walk_at "h") (by decide) (by decide) (by refine substr (show(0:Int).toNat=0 from rfl) (substr getElem?_map (substr hg ?_));rfl) (qd ?_))
   walk_at "n"
   refine qd (qF ?_)
   walk_at "n"
   refine qY (qp qu (qd ?_))
   walk_at "n"
   refine qi (qbl (l:=ta) (by walk_at "h") (by refine substr (length_map ..) ?_;exact qda hlen) (qi ⟨qJ rfl,fun r hr=>?_⟩))
   refine substr (length_map ..) ?_
   have hr2:Hc r=none:=qaL (qaL hr)
   have hr0:Hk r=none:=s2.none hr2
   have hrL:r≠Lc:=fun e=>by rw[e,hLc] at hr2;exact o_sn hr2
   have hsub:Sub Hk (upd Hk r (tup [I ((f x).headD 0:Nat),S x,I (f x).length])):=Sub.upd hr0
   refine⟨rfl,by walk_at "k",⟨_,by walk_at "h"⟩,_,hsub,?_,?_,as++[r],by simp,?_⟩
   ·intro a d e
    unfold upd at e
    split at e
    ·rename_i q;cases e;refine substr q ?_;exact upd_same
    ·rename_i q
     exact(qe q).trans ((qe fun e'=>by rw[e'] at e;rw[hnL] at e;exact o_ns e).trans ((qe fun e'=>by rw[e'] at e;rw[hnL] at e;exact o_ns e).trans (s2 _ _ e)))
   ·intro a d e
    unfold upd at e
    split at e
    ·rename_i q;refine substr q ?_;exact .inr hr2
    ·exact .inl e
   ·have:toldOf f (names.take (k+1))=toldOf f (names.take k)++[((f x).headD 0,x,(f x).length)]:=qeZ _ hx (by simpa using hne)
    refine substr this ?_
    exact(hta.to (fun a d e=>hsub a d e)).app upd_same
  ·have he:f x=[]:=by simpa using hb
   refine⟨rfl,by walk_at "k",⟨_,by walk_at "h"⟩,as,rfl,?_⟩
   have:toldOf f (names.take (k+1))=toldOf f (names.take k):=qe0 _ hx (by simpa using he)
   refine substr this ?_;exact hta
 rintro acc ys Hk s1 hacc ⟨as,rfl,hta⟩
 rw[show min (names.map S).length (tas.map Value.ref).length=names.length by simp;exact qhb htl,List.take_length] at hta
 have hal:as.length<=8:=by
  refine substr hta.len ?_;unfold toldOf;refine substr (length_map ..) ?_;exact Nat.le_trans (List.length_filter_le _ _) hl
 refine qi (qlg (ads:=as) (ts:=toldOf f names) upd_same (hta.to fun a d e=>Sub.upd hacc a d e) (qsg hal) fun r as' ts' hr ht' hp hs=>?_)
 walk_at "s"
 exact h r as' ts' _ ((s1.trans (Sub.upd hacc)).trans (Sub.upd hr)) upd_same (ht'.to fun a d e=>Sub.upd hr a d e) hp hs
inductive WdR(ts:Nat->List (Nat×Nat×Str))(k:Nat)(ys:List Value)(Hk:AH):Prop
 | mk(ws:List Addr)(h:ys=ws.map Value.ref)(t:WAll Hk ws (ts k))
theorem qkb(ok:Ok (KF w.params) glob q7 D (n+6))(ke:KE env lawKs)(hlo:env.locals=D.L){r:Addr}{as:List Addr}{ts:List (Nat×Str×Nat)}{Φ:Flow->Loc->AH->Prop}
 (w1:look "told" M=some (.ref r)) (hr:H r=some (lst (as.map Value.ref))) (ht:TAll H as ts) (hl:ts.length<=8) (hf:∀ t∈ts,1<=t.2.2/\t.2.2<=3)
 (h:∀ W ws Hs,Sub H Hs->H W=none->Hs W=some (lst (ws.map Value.ref))->WAll Hs ws (ts.map wantOf)->WS (model prog w) D (execs (lawDef.drop 14) env) (put "wanted" (.ref W) M) Hs Φ E):
 WS (model prog w) D (execs (lawDef.drop 13) env) M H Φ E:=by
 have big:(1000000:Nat)<=sizeLine:=by decide
 have hal:=ht.len
 refine qqs (n:=as.length) (fr:=fun a=>a=r) (WdR fun k=>(ts.take k).map wantOf) [(".0",.local),("first",.local),("name",.local),("size",.local)] ke hlo (by rfl) (.inl rfl) (qat (ks0:=[(".0",.local),("first",.local),("name",.local),("size",.local)]) (by rfl) (by decide)) (by rfl) (by decide) (by decide) (by decide)
  (qmq ok.hand (by
   walk_at "n"
   exact(qci rfl Sub.refl r rfl hr (.inr rfl)))) (qm8 hl hal) ⟨[],rfl,by refine substr List.take_zero ?_;trivial⟩ ?_ ?_
 ·intro k ys Hk Hc Lc Mc v hk hyl r9' s1 s2 hLc hnL cenv cke hcl hcc r18';obtain⟨ws,rfl,hwa⟩:=r9';refine oEA r18' fun T hT hv=>?_
  refine oEA (ht.at hT) fun t htk htT=>?_
  obtain⟨f1,f2⟩:=hf t (mem_of_getElem? htk)
  obtain⟨i1,i2'⟩:=qmr t.2.2 f2 f1
  have i2:((2^t.2.2/2:Nat):Int)-1=((2^t.2.2/2-1:Nat):Int):=by refine substr i1.symm ?_;exact i2'
  have hp:((2:Int)^((t.2.2:Int).toNat)).natAbs<1073741824:=by
   have:∀ k:Nat,k<4->((2:Int)^((k:Int).toNat)).natAbs<1073741824:=by decide
   exact this t.2.2 (qm7 f2)
  refine qql (D:=D) ok.hand (s2 _ _ (s1 _ _ htT)) ?_ _ hv
  refine qj ?_;walk_at "s"
  refine qj ?_;walk_at "s"
  refine qj ?_;walk_at "s"
  refine qN ?_
  refine qco ⟨fun _=>?_,fun h=>by cases h⟩
  refine qaa (qd (qK (qK (qw ?_))))
  walk_at "n"
  refine qdO (qdp) (qm9 f2) (by decide) (qw (qc1 (by decide) (PyProof.noPylong_small (by decide)) ?_))
  refine qd (qK (qK (qK (qw ?_))))
  walk_at "n"
  refine qdO (qdp) (qm9 f2) (by decide) (qw (qc1 (by decide) (PyProof.noPylong_small (by decide)) (qw (qjE (qd ?_)))))
  walk_at "n"
  refine qi ⟨qJ rfl,fun q hq=>?_⟩
  refine substr i1 (substr i2 ?_)
  have hr2:Hc q=none:=qaL (qaL (qaL hq))
  have hr0:Hk q=none:=s2.none hr2
  have hrL:q≠Lc:=fun e=>by rw[e,hLc] at hr2;exact o_sn hr2
  have hsub:Sub Hk (upd Hk q (tup [I (2^t.2.2/2:Nat),I (2^t.2.2/2-1:Nat),S t.2.1])):=Sub.upd hr0
  refine⟨rfl,by walk_at "k",⟨_,by walk_at "h"⟩,_,hsub,?_,?_,ws++[q],by simp,?_⟩
  ·intro a d e
   unfold upd at e
   split at e
   ·rename_i q';cases e;refine substr q' ?_;exact upd_same
   ·rename_i q'
    have na:a≠Lc:=fun e'=>by rw[e'] at e;rw[hnL] at e;exact o_ns e
    exact(qe q').trans ((qe na).trans ((qe na).trans ((qe na).trans (s2 _ _ e))))
  ·intro a d e
   unfold upd at e
   split at e
   ·rename_i q';refine substr q' ?_;exact .inr hr2
   ·exact .inl e
  ·refine substr (qcu wantOf htk) ?_
   exact(hwa.to (fun a d e=>hsub a d e)).app upd_same
 intro acc ys Hk s1 hacc r5';obtain⟨ws,rfl,hwa⟩:=r5'
 rw[hal,List.take_length] at hwa
 exact h acc ws _ (s1.trans (Sub.upd hacc)) (s1.none hacc) upd_same (hwa.to fun a d e=>Sub.upd hacc a d e)
theorem WAll.keep{H H':AH}(k:∀ a xs,H a=some (tup xs)->H' a=some (tup xs)):∀ {as:List Addr} {ts:List (Nat×Nat×Str)},WAll H as ts->WAll H' as ts
 | [],[],_=>trivial
 | a::as,t::ts,h=>⟨k _ _ h.1,WAll.keep k h.2⟩
 | [],_::_,h=>h.elim
 | _::_,[],h=>h.elim
theorem qi0{H:AH}{a:Addr}{xs ys:List Value}{P:Prop}(h1:H a=some (tup xs))(h2:H a=some (lst ys)):P:=by
 rw[h1] at h2
 injection h2 with h2
 injection h2 with h2
 injection h2 with h2
 exact absurd h2 (by decide)
theorem qpx{α:Type}{l:List α}{k:Nat}(hk:k<l.length):l.reverse[k]?=l[l.length-1-k]?:=List.getElem?_reverse hk
theorem qpy(ok:Ok (KF w.params) glob q7 D (n+6))(hn:8<=n)(ke:KE env lawKs)(hlo:env.locals=D.L){W O Ev:Addr}{ws:List Addr}{od ev:List Str}{ts:List (Nat×Nat×Str)}{Φ:Flow->Loc->AH->Prop}
 (w1:look "wanted" M=some (.ref W)) (w2:look "odd" M=some (.ref O)) (w3:look "even" M=some (.ref Ev)) (hW:H W=some (lst (ws.map Value.ref))) (hw:WAll H ws ts) (hl:ts.length<=8)
 (hO:H O=some (lst (od.map S))) (hE:H Ev=some (lst (ev.map S))) (hne:O≠Ev) (hWO:W≠O) (hWE:W≠Ev) (lo:od.length<=1000) (le:ev.length<=1000) (hs:∀ t∈ts,PyData.strOk t.2.2=true)
 (hcd:cdP od ev=ts) (huld:qaK od.reverse [] ev=((ts.map (·.2.2)).reverse,[]))
 (h:∀ M' H',Φ (.ret (.bool true)) M' H'):
 WS (model prog w) D (execs (lawDef.drop 14) env) M H Φ E:=by
 have big:(1000000:Nat)<=sizeLine:=by decide
 have hwl:=hw.len
 have hu:D.A.units+64<cLine:=by have:=ok.units;exact qfA hn this
 refine qbp (qO (qF ?_))
 walk_at "n"
 refine qad (qp (qan ok (by rfl)) (qd ?_))
 walk_at "n"
 refine qd ?_
 walk_at "n"
 refine qi (qmh (n:=n+2) ok hO hE lo le fun R ads Hs sH hR hM=>?_)
 walk_at "n"
 rw[hcd] at hM
 refine qpw ok (qsh) hR hM (sH _ _ hW) (hw.to fun a d e=>sH a d e) (asB ⟨fun e=>by(cases e),fun _=>?_⟩)
 refine qy ?_
 have hO':=sH _ _ hO
 have hE':=sH _ _ hE
 have hW':=sH _ _ hW
 have hw':=hw.to (H':=Hs) fun a d e=>sH a d e
 clear hO hE hW hw hR hM sH
 refine qaw (qcx (qF ?_))
 walk_at "n"
 refine qad (qp (qan ok (by rfl)) (qd ?_))
 walk_at "n"
 refine qd ?_
 walk_at "n"
 refine qi (qqI (n:=n+5) ok hne hO' hE' lo le fun T ms H2 hT hms hE2 hk=>?_)
 rw[huld] at hms hE2
 have hW2:=hk _ _ hWO hWE hW'
 have hw2:WAll H2 ws ts:=hw'.keep fun a xs e=>hk a _ (fun q=>qi0 (q▸e) hO') (fun q=>qi0 (q▸e) hE') e
 clear hk hO' hE' hW' hw'
 refine qaa (qd ?_)
 refine qa4 (n:=(ws.map Value.ref).length) (fr:=fun a=>a=W) (fun k=>((ts.reverse.map (·.2.2)).take k).map S) [(".0",.local),("row",.local)] ke (qat (ks0:=[(".0",.local),("row",.local)]) (by rfl) (by decide)) (by rfl) (by decide) (by decide) (by decide)
  (qqp ok.hand (by
   walk_at "n"
   refine⟨rfl,?_⟩
   walk_at "n"
   exact(iAA rfl rfl Sub.refl)) hW2 rfl) (by refine substr (length_map ..) ?_;exact qm8 hl hwl) (by refine substr List.take_zero ?_;rfl) ?_ ?_
 ·intro k Hc Lc Mc v hk hS hLc hnL cenv cke hcl hcc r13';refine oEA r13' fun ys hys hy=>?_
  have e1:=qbq hys (hS _ _ hW2)
  subst e1
  rw[length_map] at hk
  rw[length_map,getElem?_map] at hy
  refine oEA (Option.map_eq_some_iff.mp hy) fun a ha hav=>?_
  refine oEA (hw2.at ha) fun t ht htT=>?_
  have htc:=hS _ _ htT
  have naL:a≠Lc:=fun e=>by rw[<- e,htT] at hnL;exact o_sn hnL
  refine qar hav.symm ?_
  walk_at "s"
  refine qco ⟨fun _=>?_,fun h=>by cases h⟩
  refine qW ?_
  walk_at "n"
  refine qw (qoj (l:=a) (xs:=[I t.1,I t.2.1,S t.2.2]) (j:=2) (p:=S t.2.2) (by walk_at "h") (by decide) (by decide) (by rfl) (by rfl) ⟨rfl,by walk_at "k",⟨_,by walk_at "h"⟩,?_⟩)
  refine qcu S ?_
  refine substr getElem?_map (substr (qpx (qlE hwl hk)) (substr hwl.symm (substr ht ?_)));rfl
 intro acc hacc
 refine substr (length_map ..) (substr (show(ts.reverse.map (·.2.2)).take ws.length=ts.reverse.map (·.2.2) from List.take_of_length_le (by simp;exact qna hwl)) ?_)
 refine qd (qae (qi ⟨qJ rfl,fun e0 he0=>qi ⟨qJ rfl,fun q hq=>?_⟩⟩))
 have s3:Sub H2 (upd (upd (upd H2 acc (lst ((ts.reverse.map (·.2.2)).map S))) e0 (lst [])) q (tup [.ref acc,.ref e0])):=((Sub.upd hacc).trans (Sub.upd he0)).trans (Sub.upd hq)
 have a3:(upd (upd (upd H2 acc (lst ((ts.reverse.map (·.2.2)).map S))) e0 (lst [])) q (tup [.ref acc,.ref e0])) acc=some (lst ((ts.reverse.map (·.2.2)).map S)):=qx hq (qx he0 upd_same)
 have e3:(upd (upd (upd H2 acc (lst ((ts.reverse.map (·.2.2)).map S))) e0 (lst [])) q (tup [.ref acc,.ref e0])) e0=some (lst ([].map S)):=qx hq upd_same
 have q3:(upd (upd (upd H2 acc (lst ((ts.reverse.map (·.2.2)).map S))) e0 (lst [])) q (tup [.ref acc,.ref e0])) q=some (tup [.ref acc,.ref e0]):=upd_same
 generalize upd (upd (upd H2 acc (lst ((ts.reverse.map (·.2.2)).map S))) e0 (lst [])) q (tup [.ref acc,.ref e0])=H3 at s3 a3 e3 q3
 have hst:∀ x∈(ts.map (·.2.2)).reverse,PyData.strOk x=true:=fun x hx=>by
  (refine oEA (List.mem_map.mp (List.mem_reverse.mp hx)) fun t ht e2'=>?_;obtain rfl:=e2')
  exact hs t ht
 have sh:∀ xs:List Str,(∀ x∈xs,PyData.strOk x=true)->shaped (.tuple [.list (xs.map PyData.str),.list ([].map PyData.str)])=true:=fun xs hx=>qbO hx (fun _ h=>by simp at h)
 refine qon (qdE (s3 _ _ hT) (qa3 (qaz (s3 _ _ hms) qaE) (qa3 (qaz (s3 _ _ hE2) qaE) qcn))) (qdE q3 (qa3 (qaz a3 qaE) (qa3 (qaz e3 qaE) qcn))) (sh _ hst) (sh _ (fun x hx=>hst x (by refine substr (Eq.symm List.map_reverse) ?_;exact hx))) hu ?_
 refine substr qfi (substr List.map_reverse (substr (decide_eq_true ⟨rfl,rfl⟩) ?_))
 exact h _ _
noncomputable def til:Str:=Str.ofString "~~~~~"
theorem qgZ{l:Addr}{xs:List Str}{names:List Str}{g:Str->Nat}{Φ:Value->Loc->AH->Prop}(hl:H l=some (lst (xs.map S)))(hs:Strict names)(hc:∀ x,xs.count x=g x*names.count x)(hlen:xs.length<=64)(hn:names.length=8)
 (h64:xs.length=64->(∀ j,j<64->xs[j]?=some (nmA names (j%8)))/\rp (fun _=>8) names=rp g names) (h:∀ r,H r=none->Φ (.ref r) M (upd H r (lst ((rp g names).map S)))):
 ∀ vs,vs.map norm=[.ref l]->WV (model prog w) D (call (.builtin "sorted") ([]++vs)) M H Φ E:=by
 by_cases h1:xs.length=64
 ·obtain⟨k1,k2⟩:=h64 h1
  exact qka hl hs hn h1 k1 fun r hr=>by refine substr k2 ?_;exact h r hr
 ·refine qew hl (qsi hlen h1) fun r zs hr hp hz=>?_
  have:zs=rp g names:=qlb hs (fun x=>by refine substr (hp.count_eq ..) (substr (hc ..) rfl)) (qdY _ hz)
  refine substr this ?_;exact h r hr
theorem qkc{Φ:Bool->Loc->AH->Prop}{b:Bool}(e:b=true)(h:AsB Φ (.bool false) M H):AsB Φ (.bool (!b)) M H:=by refine substr e ?_;exact h
theorem qlk(f:Str->Nat)(ns:List Str)(xs:List Str)(hc:∀ x,xs.count x=f x*ns.count x):(rp f ns).length=xs.length:=
 (List.perm_iff_count.mpr fun x=>by refine substr (hc ..) (substr (qfn ..) rfl):(rp f ns).Perm xs).length_eq
theorem qpz(ok:Ok (KF w.params) glob q7 D (n+6))(hn:8<=n)(ke:KE env lawKs)(hlo:env.locals=D.L){O Ev Lo:Addr}{od ev lone names:List Str}{fo fe:Str->Nat}{Φ:Flow->Loc->AH->Prop}
 (w1:look "odd" M=some (.ref O)) (w2:look "even" M=some (.ref Ev)) (w3:look "lone" M=some (.ref Lo))
 (hO:H O=some (lst (od.map S))) (hE:H Ev=some (lst (ev.map S))) (hL:H Lo=some (lst (lone.map S))) (hst:Strict (names++[til])) (h8:names.length=8)
 (co:∀ x,od.count x=fo x*names.count x) (ce:∀ x,ev.count x=fe x*names.count x) (lo:od.length<=32) (le:ev.length<64)
 (h64:od.length=32->(∀ j,j<64->(od++od)[j]?=some (nmA names (j%8)))/\rp (fun _=>8) names=rp (fun x=>2*fo x) names)
 (hl1:names.filter (fun n=>decide (0<2*fo n)&&decide (fe n=0))=lone) (hl2:names.filter (fun n=>decide (0<fe n)&&decide (2*fo n=0))=[])
 (hs:∀ x∈names,PyData.strOk x=true)
 (h:∀ M' Hs,Sub H Hs->(∀ x,x ≠ "oftener"->x ≠ "fewer"->look x M'=look x M)->WS (model prog w) D (execs (lawDef.drop 12) env) M' Hs Φ E):
 WS (model prog w) D (execs (lawDef.drop 9) env) M H Φ E:=by
 have big:(1000000:Nat)<=sizeLine:=by decide
 have hu:D.A.units+64<cLine:=by have:=ok.units;exact qfA hn this
 have hsn:Strict names:=(List.pairwise_append.mp hst).1
 have co2:∀ x,(od++od).count x=2*fo x*names.count x:=fun x=>by refine substr List.count_append (substr (co ..) ?_);refine substr (Nat.mul_assoc ..) ?_;exact as2
 have l1:=qlk _ _ _ co2
 have l2:=qlk _ _ _ ce
 rw[length_append] at l1
 refine qdF ok.hand ke (by rfl) (by rfl) (qaa (qd (qK (qF ?_))))
 walk_at "n"
 refine qY (qp qu (qd (qK ?_)))
 walk_at "n"
 walk_at "n"
 refine qc2 hO hO (by simp;exact qsj lo big) fun r hr=>qi ?_
 refine substr map_append.symm ?_
 have s1:Sub H (upd H r (lst ((od++od).map S))):=Sub.upd hr
 have e1:(upd H r (lst ((od++od).map S))) r=some (lst ((od++od).map S)):=upd_same
 generalize upd H r (lst ((od++od).map S))=H1 at s1 e1
 refine qgZ (g:=fun x=>2*fo x) e1 hsn co2 (by refine substr length_append ?_;exact qsk lo) h8 (fun e=>h64 (by rw[length_append] at e;exact qsl e)) fun r1 hr1=>?_
 have s2:Sub H (upd H1 r1 (lst ((rp (fun x=>2*fo x) names).map S))):=s1.trans (Sub.upd hr1)
 have e2:(upd H1 r1 (lst ((rp (fun x=>2*fo x) names).map S))) r1=some (lst ((rp (fun x=>2*fo x) names).map S)):=upd_same
 generalize upd H1 r1 (lst ((rp (fun x=>2*fo x) names).map S))=H2 at s2 e2
 refine qae (qd (qQ (qi ⟨qJ rfl,fun r2 hr2=>?_⟩)))
 refine qc2 (xs:=(rp (fun x=>2*fo x) names).map S) (ys:=[S til]) (qx hr2 e2) upd_same (by simp;exact qsm lo big l1) fun A hA=>?_
 refine substr (show(rp (fun x=>2*fo x) names).map S++[S til]=(rp (fun x=>2*fo x) names++[til]).map S by simp) ?_
 have s3:Sub H (upd (upd H2 r2 (lst [S til])) A (lst ((rp (fun x=>2*fo x) names++[til]).map S))):=(s2.trans (Sub.upd hr2)).trans (Sub.upd hA)
 have e3:(upd (upd H2 r2 (lst [S til])) A (lst ((rp (fun x=>2*fo x) names++[til]).map S))) A=some (lst ((rp (fun x=>2*fo x) names++[til]).map S)):=upd_same
 show WSp (model prog w) D _ _ _ _ (upd (upd H2 r2 (lst [S til])) A (lst ((rp (fun x=>2*fo x) names++[til]).map S))) _ _
 generalize upd (upd H2 r2 (lst [S til])) A (lst ((rp (fun x=>2*fo x) names++[til]).map S))=H3 at s3 e3
 clear e1 s1 e2 s2 hr hr1 hr2 hA
 refine qd (qK (qF ?_))
 walk_at "n"
 refine qY (qp qu (qd ?_))
 walk_at "n"
 refine qi (qgZ (g:=fe) (s3 _ _ hE) hsn ce (qsn le) h8 (fun e=>by exact(qso le e).elim) fun r1 hr1=>?_)
 have s4:Sub H3 (upd H3 r1 (lst ((rp fe names).map S))):=Sub.upd hr1
 have e4:(upd H3 r1 (lst ((rp fe names).map S))) r1=some (lst ((rp fe names).map S)):=upd_same
 generalize upd H3 r1 (lst ((rp fe names).map S))=H4 at s4 e4
 refine qae (qd (qQ (qi ⟨qJ rfl,fun r2 hr2=>?_⟩)))
 refine qc2 (xs:=(rp fe names).map S) (ys:=[S til]) (qx hr2 e4) upd_same (by simp;exact qsp le big l2) fun B hB=>?_
 refine substr (show(rp fe names).map S++[S til]=(rp fe names++[til]).map S by simp) ?_
 have s5:Sub H3 (upd (upd H4 r2 (lst [S til])) B (lst ((rp fe names++[til]).map S))):=(s4.trans (Sub.upd hr2)).trans (Sub.upd hB)
 have e5:(upd (upd H4 r2 (lst [S til])) B (lst ((rp fe names++[til]).map S))) B=some (lst ((rp fe names++[til]).map S)):=upd_same
 show WSp (model prog w) D _ _ _ _ (upd (upd H4 r2 (lst [S til])) B (lst ((rp fe names++[til]).map S))) _ _
 generalize upd (upd H4 r2 (lst [S til])) B (lst ((rp fe names++[til]).map S))=H5 at s5 e5
 refine qi ⟨qJ rfl,fun T hT=>⟨T,_,_,rfl,upd_same,?_⟩⟩
 refine qj ?_;walk_at "s"
 refine qj ?_;walk_at "s"
 refine qN ?_
 have s6:Sub H (upd H5 T (tup [.ref A,.ref B])):=(s3.trans s5).trans (Sub.upd hT)
 have a6:(upd H5 T (tup [.ref A,.ref B])) A=some (lst ((rp (fun x=>2*fo x) names++[til]).map S)):=qx hT (s5 _ _ e3)
 have b6:(upd H5 T (tup [.ref A,.ref B])) B=some (lst ((rp fe names++[til]).map S)):=qx hT e5
 generalize upd H5 T (tup [.ref A,.ref B])=H6 at s6 a6 b6
 clear s4 s5 e4 e5 e3 hT hB hr1 hr2 s3
 have m1:look "oftener" (put "oftener" (.ref A) (put "fewer" (.ref B) M))=some (.ref A):=by walk_at "l"
 have m2:look "fewer" (put "oftener" (.ref A) (put "fewer" (.ref B) M))=some (.ref B):=by walk_at "l"
 have m3:look "lone" (put "oftener" (.ref A) (put "fewer" (.ref B) M))=some (.ref Lo):=by walk_at "l"
 have mm:∀ x,x ≠ "oftener"->x ≠ "fewer"->look x (put "oftener" (.ref A) (put "fewer" (.ref B) M))=look x M:=fun x n1 n2=>qbE n1 (qbE n2 rfl)
 generalize put "oftener" (.ref A) (put "fewer" (.ref B) M)=M6 at m1 m2 m3 mm
 have hsl:∀ x∈lone,PyData.strOk x=true:=fun x hx=>hs x (by rw[<- hl1] at hx;exact(List.mem_filter.mp hx).1)
 have p1:=qgE (fun x=>2*fo x) fe til names _ hst (Nat.le_refl _)
 have p2:=qgE fe (fun x=>2*fo x) til names _ hst (Nat.le_refl _)
 rw[hl1,hl2] at p1
 rw[hl1,hl2] at p2
 refine qbp (qO (qF ?_))
 walk_at "n"
 refine qad (qp (qan ok (by rfl)) (qd ?_))
 walk_at "n"
 refine qd ?_
 walk_at "n"
 refine qi (qh2 (n:=n+5) ok a6 b6 (by simp;exact qnb lo l1) (by simp;exact qnc le l2) fun T ms us H7 s7 _ _ _ hT hm hu7=>?_)
 rw[p1] at hm hu7
 refine qaa (qd ?_)
 walk_at "n"
 refine qd (qae (qi ⟨qJ rfl,fun e0 he0=>qi ⟨qJ rfl,fun q hq=>?_⟩⟩))
 have s8:Sub H7 (upd (upd H7 e0 (lst [])) q (tup [.ref Lo,.ref e0])):=(Sub.upd he0).trans (Sub.upd hq)
 refine qjM (qdE (s8 _ _ hT) (qa3 (qaz (s8 _ _ hm) qaE) (qa3 (qaz (s8 _ _ hu7) qaE) qcn))) (qdE (upd_same) (qa3 (qaz (s8 _ _ (s7 _ _ (s6 _ _ hL))) qaE) (qa3 (qaz (qx hq upd_same) qcn) qcn))) (qbO hsl (fun _ h=>by simp at h)) (qbO (ys:=[]) hsl (fun _ h=>by simp at h)) hu ?_
 refine qkc ((qfi (d:=[])).trans (decide_eq_true ⟨rfl,rfl⟩)) ?_
 refine asB ⟨fun e=>by(cases e),fun _=>qy ?_⟩
 have s9:Sub H6 (upd (upd H7 e0 (lst [])) q (tup [.ref Lo,.ref e0])):=s7.trans s8
 generalize upd (upd H7 e0 (lst [])) q (tup [.ref Lo,.ref e0])=H8 at s9
 clear s7 s8 hm hu7 hT he0 hq
 have s10:=s6.trans s9
 have a8:=s9 _ _ a6
 have b8:=s9 _ _ b6
 clear a6 b6 s6 s9
 refine qbp (qO (qF ?_))
 walk_at "n"
 refine qad (qp (qan ok (by rfl)) (qd ?_))
 walk_at "n"
 refine qd ?_
 walk_at "n"
 refine qi (qh2 (n:=n+5) ok b8 a8 (by simp;exact qnc le l2) (by simp;exact qnb lo l1) fun T ms us H7 s7 _ _ _ hT hm hu7=>?_)
 rw[p2] at hm hu7
 refine qaa (qd (qae (qi ⟨qJ rfl,fun e0 he0=>qd ?_⟩)))
 walk_at "n"
 refine qi ⟨qJ rfl,fun q hq=>?_⟩
 have s8:Sub H7 (upd (upd H7 e0 (lst [])) q (tup [.ref e0,.ref Lo])):=(Sub.upd he0).trans (Sub.upd hq)
 refine qjM (qdE (s8 _ _ hT) (qa3 (qaz (s8 _ _ hm) qaE) (qa3 (qaz (s8 _ _ hu7) qaE) qcn))) (qdE (upd_same) (qa3 (qaz (qx hq upd_same) qcn) (qa3 (qaz (s8 _ _ (s7 _ _ (s10 _ _ hL))) qaE) qcn))) (qbO (fun _ h=>by simp at h) hsl) (qbO (xs:=[]) (fun _ h=>by simp at h) hsl) hu ?_
 refine qkc ((qfi (c:=[])).trans (decide_eq_true ⟨rfl,rfl⟩)) ?_
 refine asB ⟨fun e=>by(cases e),fun _=>qy ?_⟩
 exact h M6 _ (s10.trans (s7.trans s8)) mm
theorem qmu{β:Type}{f:Nat->Bool}{q:Nat}(g:Nat->β)(hb:f q=true):((List.range (q+1)).filter f).map g=((List.range q).filter f).map g++[g q]:=by
 refine substr List.range_succ (substr (List.filter_append ..) (substr map_append ?_));simp[hb]
theorem qmv{β:Type}{f:Nat->Bool}{q:Nat}(g:Nat->β)(hb:f q=false):((List.range (q+1)).filter f).map g=((List.range q).filter f).map g:=by
 refine substr List.range_succ (substr (List.filter_append ..) (substr map_append ?_));simp[hb]
noncomputable def plP(rows:List Str)(x:Str):List Nat:=(List.range rows.length).filter fun p=>decide (clashes (rows.getD p emp) x=[])
inductive TkR(names:List Str)(f:Str->List Nat)(k:Nat)(ys:List Value)(Hk:AH):Prop
 | mk(as:List Addr)(h:ys=as.map Value.ref)(l:as.length=k)(t:∀(j:Nat) (a:Addr) (x:Str),as[j]?=some a->names[j]?=some x->Hk a=some (lst ((f x).map fun q:Nat=>I (q:Int))))
theorem qkd(ok:Ok (KF w.params) glob q7 D (n+6))(hn:8<=n)(ke:KE env lawKs)(hlo:env.locals=D.L){cr R Nn:Addr}{rows names:List Str}{Φ:Flow->Loc->AH->Prop}
 (hcr:env.cells.lookup (Str.ofString "rows")=some cr) (w1:look "names" M=some (.ref Nn)) (hC:H cr=some (.cell (some (.ref R)))) (hR:H R=some (lst (rows.map S))) (hN:H Nn=some (lst (names.map S))) (l3:rows.length=3) (l8:names.length<=8)
 (hcl:∀ r∈rows,∀ m∈names,∀ x∈clashes r m,PyData.strOk x=true) (hsz:∀ r∈rows,r.cps.size<=1000000)
 (h:∀ Tk Hs,Sub H Hs->TkAt Hs Tk (names.map (plP rows))->WS (model prog w) D (execs (lawDef.drop 6) env) (put "takers" (.ref Tk) M) Hs Φ E):
 WS (model prog w) D (execs (lawDef.drop 5) env) M H Φ E:=by
 have big:(1000000:Nat)<=sizeLine:=by decide
 refine qxt (z:=Str.ofString "name") (n:=(names.map S).length) (fr:=fun a=>a=Nn) (TkR names (plP rows))
  [(".0",.local),("name",.cell),("enumerate",.globalImplicit),("rows",.free)] ke hlo (by rfl) (.inl rfl) (qal ?_) (by rfl) (by decide) (fun n=>by rfl) (fun h=>by rfl) (by decide)
  (qce ok.hand (by walk_at "n";exact(qci rfl Sub.refl Nn rfl hN (.inr rfl)))) (by refine substr (length_map ..) ?_;exact qsr l8) ⟨[],rfl,rfl,fun j a x e=>by simp at e⟩ ?_ ?_
 ·intro p hp hfr
  simp at hp
  rcases hp with rfl | rfl | rfl | rfl<;>first | (cases hfr;done) | (refine substr hcr ?_;rfl)
 ·rintro k ys Hk Hc Lc c Mc v hk hyl ⟨as,rfl,hal,has⟩ s1 s2 hLc hnL ⟨u,hcu⟩ hnc hcL cenv cke hcl' hcc hv
  refine oEA (qai hv) fun x hx hxv=>?_
  have hxm:=mem_of_getElem? hx
  have hc1:cenv.cells.lookup (Str.ofString "name")=some c:=by refine substr hcc ?_;exact lookup_cons_self
  have hc2:cenv.cells.lookup (Str.ofString "rows")=some cr:=by
   refine substr hcc (substr List.lookup_cons ?_)
   have e:(Str.ofString "rows" == Str.ofString "name")=false:=by decide +kernel
   refine substr e (substr (qL rfl) (substr (qL rfl) (substr (qL rfl) (substr (qZ hcr) ?_))))
   exact lookup_cons_self
  have hCk:=s1 _ _ hC
  have hRk:=s1 _ _ hR
  have crc:cr≠c:=fun e=>by rw[e,hnc] at hCk;exact o_ns hCk
  have Rc:R≠c:=fun e=>by rw[e,hnc] at hRk;exact o_ns hRk
  have hCc:=s2 _ _ hCk
  have hRc:=s2 _ _ hRk
  refine qar hxv.symm ?_
  walk_at "s"
  refine qco ⟨fun _=>?_,fun h=>by cases h⟩
  have hC3:(upd Hc c (.cell (some (S x)))) cr=some (.cell (some (.ref R))):=by walk_at "h"
  have hR3:(upd Hc c (.cell (some (S x)))) R=some (lst (rows.map S)):=by walk_at "h"
  have hc3:(upd Hc c (.cell (some (S x)))) c=some (.cell (some (S x))):=upd_same
  refine qa4 (n:=(rows.map S).length) (fr:=fun a=>a=R) (fun q=>((List.range q).filter fun p=>decide (clashes (rows.getD p emp) x=[])).map fun p:Nat=>I (p:Int)) [(".0",.local),("place",.local),("row",.local),("_law_under",.globalImplicit),("name",.free)] cke (qal ?_) (by rfl) (by decide) (by decide) (by rfl)
   (qoU ok.hand (by
    walk_at "n"
    refine⟨rfl,?_⟩
    walk_at "n"
    exact(iAA rfl rfl Sub.refl)) hR3 rfl) (by refine substr (length_map ..) ?_;exact qjl l3) (by rfl) ?_ ?_
  ·intro p hp hfr
   simp at hp
   rcases hp with rfl | rfl | rfl | rfl | rfl<;>first | (cases hfr;done) | (refine substr hc1 ?_;rfl)
  ·intro j Hj Lj Mj vj hj hSj hLj hnLj denv dke dcl dcc r13';refine qoH r13' fun T p hTv hT zs hzs hz=>?_
   have e1:=qbq hzs (hSj _ _ hR3)
   subst e1
   (refine oEA (qai hz) fun row hrow e2'=>?_;obtain rfl:=e2')
   have hrm:=mem_of_getElem? hrow
   have hcj:=hSj _ _ hc3
   have hjL:c≠Lj:=fun e=>by rw[<- e,hc3] at hnLj;exact o_sn hnLj
   have hd1:denv.cells.lookup (Str.ofString "name")=some c:=by
    refine substr dcc (substr (qL rfl) (substr (qL rfl) (substr (qL rfl) (substr (qL rfl) (substr (qZ hc1) ?_)))))
    exact lookup_cons_self
   refine qbP (D:=D) ok.hand hT ?_ _ hTv
   refine qj ?_;walk_at "s"
   refine qj ?_;walk_at "s"
   refine qN ?_
   refine qcP (qao (qF ?_))
   walk_at "n"
   refine qad (qp (qan ok (by rfl)) (qd ?_))
   walk_at "n"
   refine qd ?_
   walk_at "n"
   have hg:rows.getD j emp=row:=by refine substr List.getD_eq_getElem?_getD (substr hrow ?_);rfl
   refine qi (ql0 (n:=n+5) ok (qss hn) (hcl row hrm x hxm) (hsz row hrm) (qcA ⟨fun hb=>?_,fun hb=>?_⟩))
   ·walk_at "n"
    exact⟨rfl,by walk_at "k",⟨_,by walk_at "h"⟩,qmu _ (by refine substr hg ?_;exact hb)⟩
   ·exact⟨rfl,by walk_at "k",⟨_,by walk_at "h"⟩,qmv _ (by refine substr hg ?_;exact hb)⟩
  intro acc hacc
  refine substr (length_map ..) ?_
  have hr2:Hc acc=none:=qaL hacc
  have hr0:Hk acc=none:=s2.none hr2
  have hrL:acc≠Lc:=fun e=>by rw[e,hLc] at hr2;exact o_sn hr2
  have hrc:acc≠c:=fun e=>by rw[e,hcu] at hr2;exact o_sn hr2
  have hsub:Sub Hk (upd Hk acc (lst ((plP rows x).map fun q:Nat=>I (q:Int)))):=Sub.upd hr0
  refine⟨rfl,by walk_at "k",⟨⟨_,by walk_at "h"⟩,_,by walk_at "h"⟩,_,hsub,?_,?_,as++[acc],by simp,by simp[hal],?_⟩
  ·intro a d e
   unfold upd at e
   split at e
   ·rename_i q;cases e;refine substr q ?_;exact upd_same
   ·rename_i q
    exact(qe q).trans ((qe fun e'=>by rw[e'] at e;rw[hnc] at e;exact o_ns e).trans (s2 _ _ e))
  ·intro a d e
   unfold upd at e
   split at e
   ·rename_i q;refine substr q ?_;exact .inr hr2
   ·exact .inl e
  ·intro j a y ha hy
   rcases Nat.lt_or_ge j as.length with hj | hj
   ·rw[List.getElem?_append_left hj] at ha
    exact hsub _ _ (has j a y ha hy)
   ·rw[List.getElem?_append_right hj] at ha
    have e0:j-as.length=0:=by
     rcases Nat.eq_zero_or_pos (j-as.length) with h | h
     ·exact h
     ·rw[List.getElem?_eq_none (show 1<=j-as.length from h)] at ha;exact o_ns ha
    rw[e0] at ha
    have:a=acc:=by simpa using ha.symm
    have hjk:j=k:=qst hal hj e0
    refine substr this ?_
    rw[hjk,hx] at hy
    cases hy
    exact upd_same
 intro acc ys Hk s1 hacc r5';obtain⟨as,rfl,hal,has⟩:=r5'
 rw[length_map] at hal
 exact h acc _ (s1.trans (Sub.upd hacc)) ⟨as,upd_same,by refine substr hal (substr (length_map ..) rfl),fun j a p ha hp=>by
  rw[getElem?_map] at hp
  (refine oEA (Option.map_eq_some_iff.mp hp) fun x hx e2'=>?_;obtain rfl:=e2')
  exact qx hacc (has j a x ha hx)⟩
theorem qll(ok:Ok (KF w.params) glob q7 D (n+6))(hn:8<=n)(ke:KE env lawKs)(hlo:env.locals=D.L){Nn Tk C:Addr}{names cs:List Str}{f:Str->List Nat}{Φ:Flow->Loc->AH->Prop}
 (w1:look "names" M=some (.ref Nn)) (w2:look "takers" M=some (.ref Tk)) (hN:H Nn=some (lst (names.map S))) (hT:TkAt H Tk (names.map f)) (hl:names.length<=8) (hf:∀ x∈names,(f x).length<=3)
 (w3:look "chain" M=some (.ref C)) (hC:H C=some (lst (cs.map S))) (he:cs=names.filter fun x=>decide (f x≠[])) (hs:∀ x∈names,PyData.strOk x=true)
 (h:∀ Hs,Sub H Hs->WS (model prog w) D (execs (lawDef.drop 7) env) M Hs Φ E):
 WS (model prog w) D (execs (lawDef.drop 6) env) M H Φ E:=by
 have big:(1000000:Nat)<=sizeLine:=by decide
 have hu:D.A.units+64<cLine:=by have:=ok.units;exact qfA hn this
 refine qbe hT fun tas hTk htl htf=>?_
 rw[length_map] at htl
 refine qbp (qO ?_)
 walk_at "n"
 refine qa4 (n:=min (names.map S).length (tas.map Value.ref).length) (fr:=fun a=>a=Nn\/a=Tk) (fun k=>((names.take k).filter fun x=>decide (f x≠[])).map S) [(".0",.local),("name",.local),("places",.local)] ke (qat (ks0:=[(".0",.local),("name",.local),("places",.local)]) (by rfl) (by decide)) (by rfl) (by decide) (by decide) (by decide)
  (qc3 ok.hand (by
   walk_at "n"
   refine⟨rfl,?_⟩
   walk_at "n"
   refine⟨rfl,?_⟩
   walk_at "n"
   exact(qea rfl rfl Sub.refl (qbA ok.hand hN) (qbA ok.hand hTk) (fun a ha=>.inr ha))) rfl) (by simp;exact qha hl) (by refine substr List.take_zero ?_;rfl) ?_ ?_
 ·rintro k Hc Lc Mc v hk s2 hLc hnL cenv cke hcl hcc ⟨T,p,q,hv,hT,⟨ys,hys,hc⟩,⟨zs,hzs,hd⟩⟩
  have e1:=qbq hys (s2 _ _ hN)
  have e2:=qbq hzs (s2 _ _ hTk)
  subst e1 e2
  (refine oEA (qai hc) fun x hx e2'=>?_;obtain rfl:=e2')
  (refine oEA (qai hd) fun ta hta' e2'=>?_;obtain rfl:=e2')
  have hxm:x∈names:=mem_of_getElem? hx
  have hfa:H ta=some (lst ((f x).map fun q:Nat=>I (q:Int))):=htf k ta (f x) hta' (by refine substr getElem?_map (substr hx ?_);rfl)
  have hfc:=s2 _ _ hfa
  have htL:ta≠Lc:=fun e=>by rw[<- e,hfa] at hnL;exact o_sn hnL
  have hlen:=hf x hxm
  refine qbP (D:=D) ok.hand hT ?_ _ hv
  refine qj ?_;walk_at "s"
  refine qj ?_;walk_at "s"
  refine qN ?_
  refine qcP (qao ?_)
  walk_at "n"
  refine qfO (by walk_at "h") (by refine substr (length_map ..) ?_;exact qda hlen) ⟨fun hb=>?_,fun hb=>?_⟩
  ·walk_at "n"
   exact⟨rfl,by walk_at "k",⟨_,by walk_at "h"⟩,qeZ S hx (by cases e:f x with | nil=>(rw[e] at hb;simp at hb) | cons a r=>simp)⟩
  ·exact⟨rfl,by walk_at "k",⟨_,by walk_at "h"⟩,qe0 S hx (by cases e:f x with | nil=>simp | cons a r=>(rw[e] at hb;simp at hb))⟩
 intro acc hacc
 refine substr (show min (names.map S).length (tas.map Value.ref).length=names.length by simp;exact qhb htl) (substr List.take_length ?_)
 have hsc:∀ x∈cs,PyData.strOk x=true:=fun x hx=>hs x (by rw[he] at hx;exact(List.mem_filter.mp hx).1)
 refine substr he.symm ?_
 refine qkL (Sub.upd hacc _ _ hC) upd_same hsc hsc hu (qkc (decide_eq_true rfl) (asB ⟨fun e=>by(cases e),fun _=>qy ?_⟩))
 exact h _ (Sub.upd hacc)
theorem qke(ok:Ok (KF w.params) glob q7 D (n+6))(hn:8<=n)(ke:KE env lawKs)(hlo:env.locals=D.L){Nn Tk C:Addr}{names cs:List Str}{f:Str->List Nat}{Φ:Flow->Loc->AH->Prop}
 (w1:look "names" M=some (.ref Nn)) (w2:look "takers" M=some (.ref Tk)) (hN:H Nn=some (lst (names.map S))) (hT:TkAt H Tk (names.map f)) (hl:names.length<=8) (hf:∀ x∈names,(f x).length<=3)
 (w3:look "single" M=some (.ref C)) (hC:H C=some (lst (cs.map S))) (he:cs=names.filter fun x=>decide ((f x).length%2≠0)) (hs:∀ x∈names,PyData.strOk x=true)
 (h:∀ Hs,Sub H Hs->WS (model prog w) D (execs (lawDef.drop 8) env) M Hs Φ E):
 WS (model prog w) D (execs (lawDef.drop 7) env) M H Φ E:=by
 have big:(1000000:Nat)<=sizeLine:=by decide
 have hu:D.A.units+64<cLine:=by have:=ok.units;exact qfA hn this
 refine qbe hT fun tas hTk htl htf=>?_
 rw[length_map] at htl
 refine qbp (qO ?_)
 walk_at "n"
 refine qa4 (n:=min (names.map S).length (tas.map Value.ref).length) (fr:=fun a=>a=Nn\/a=Tk) (fun k=>((names.take k).filter fun x=>decide ((f x).length%2≠0)).map S) [(".0",.local),("name",.local),("places",.local),("len",.globalImplicit)] ke (qat (ks0:=[(".0",.local),("name",.local),("places",.local),("len",.globalImplicit)]) (by rfl) (by decide)) (by rfl) (by decide) (by decide) (by decide)
  (qc3 ok.hand (by
   walk_at "n"
   refine⟨rfl,?_⟩
   walk_at "n"
   refine⟨rfl,?_⟩
   walk_at "n"
   exact(qea rfl rfl Sub.refl (qbA ok.hand hN) (qbA ok.hand hTk) (fun a ha=>.inr ha))) rfl) (by simp;exact qha hl) (by refine substr List.take_zero ?_;rfl) ?_ ?_
 ·rintro k Hc Lc Mc v hk s2 hLc hnL cenv cke hcl hcc ⟨T,p,q,hv,hT,⟨ys,hys,hc⟩,⟨zs,hzs,hd⟩⟩
  have e1:=qbq hys (s2 _ _ hN)
  have e2:=qbq hzs (s2 _ _ hTk)
  subst e1 e2
  (refine oEA (qai hc) fun x hx e2'=>?_;obtain rfl:=e2')
  (refine oEA (qai hd) fun ta hta' e2'=>?_;obtain rfl:=e2')
  have hxm:x∈names:=mem_of_getElem? hx
  have hfa:H ta=some (lst ((f x).map fun q:Nat=>I (q:Int))):=htf k ta (f x) hta' (by refine substr getElem?_map (substr hx ?_);rfl)
  have hfc:=s2 _ _ hfa
  have htL:ta≠Lc:=fun e=>by rw[<- e,hfa] at hnL;exact o_sn hnL
  have hlen:=hf x hxm
  refine qbP (D:=D) ok.hand hT ?_ _ hv
  refine qj ?_;walk_at "s"
  refine qj ?_;walk_at "s"
  refine qN ?_
  refine qcP (qao (qK (qF ?_)))
  walk_at "n"
  refine qY (qp qu (qd ?_))
  walk_at "n"
  refine qi (qbl (l:=ta) (by walk_at "h") (by refine substr (length_map ..) ?_;exact qda hlen) ?_)
  refine substr (length_map ..) ?_
  refine qw (qdf (by decide) (qjL ?_))
  have hm:((((f x).length:Int).fmod 2) != 0)=decide ((f x).length%2≠0):=by
   refine substr (Int.fmod_eq_emod_of_nonneg _ (by decide)) ?_
   rcases Nat.mod_two_eq_zero_or_one (f x).length with h | h
   ·refine substr (show(((f x).length:Int)%2)=((((f x).length)%2:Nat):Int) from rfl) (substr h ?_);rfl
   ·refine substr (show(((f x).length:Int)%2)=((((f x).length)%2:Nat):Int) from rfl) (substr h ?_);rfl
  refine substr hm ?_
  refine⟨fun hb=>?_,fun hb=>?_⟩
  ·walk_at "n"
   exact⟨rfl,by walk_at "k",⟨_,by walk_at "h"⟩,qeZ S hx hb⟩
  ·exact⟨rfl,by walk_at "k",⟨_,by walk_at "h"⟩,qe0 S hx hb⟩
 intro acc hacc
 refine substr (show min (names.map S).length (tas.map Value.ref).length=names.length by simp;exact qhb htl) (substr List.take_length ?_)
 have hsc:∀ x∈cs,PyData.strOk x=true:=fun x hx=>hs x (by rw[he] at hx;exact(List.mem_filter.mp hx).1)
 refine substr he.symm ?_
 refine qkL (Sub.upd hacc _ _ hC) upd_same hsc hsc hu (qkc (decide_eq_true rfl) (asB ⟨fun e=>by(cases e),fun _=>qy ?_⟩))
 exact h _ (Sub.upd hacc)
theorem qmw(ok:Ok (KF w.params) glob q7 D (n+6))(hn:8<=n)(ke:KE env lawKs)(hlo:env.locals=D.L){Nn Tk C:Addr}{names cs:List Str}{f:Str->List Nat}{Φ:Flow->Loc->AH->Prop}
 (w1:look "names" M=some (.ref Nn)) (w2:look "takers" M=some (.ref Tk)) (hN:H Nn=some (lst (names.map S))) (hT:TkAt H Tk (names.map f)) (hl:names.length<=8) (hf:∀ x∈names,(f x).length<=3)
 (h:∀ Lo Hs,Sub H Hs->Hs Lo=some (lst ((names.filter fun x=>decide ((f x).length=1)).map S))->WS (model prog w) D (execs (lawDef.drop 9) env) (put "lone" (.ref Lo) M) Hs Φ E):
 WS (model prog w) D (execs (lawDef.drop 8) env) M H Φ E:=by
 have big:(1000000:Nat)<=sizeLine:=by decide
 have hu:D.A.units+64<cLine:=by have:=ok.units;exact qfA hn this
 refine qbe hT fun tas hTk htl htf=>?_
 rw[length_map] at htl
 refine qqt (n:=min (names.map S).length (tas.map Value.ref).length) (fr:=fun a=>a=Nn\/a=Tk) (fun k=>((names.take k).filter fun x=>decide ((f x).length=1)).map S) [(".0",.local),("name",.local),("places",.local),("len",.globalImplicit)] ke hlo (by rfl) (.inl rfl) (qat (ks0:=[(".0",.local),("name",.local),("places",.local),("len",.globalImplicit)]) (by rfl) (by decide)) (by rfl) (by decide) (by decide) (by decide)
  (qc3 ok.hand (by
   walk_at "n"
   refine⟨rfl,?_⟩
   walk_at "n"
   refine⟨rfl,?_⟩
   walk_at "n"
   exact(qea rfl rfl Sub.refl (qbA ok.hand hN) (qbA ok.hand hTk) (fun a ha=>.inr ha))) rfl) (by simp;exact qha hl) (by refine substr List.take_zero ?_;rfl) ?_ ?_
 ·rintro k Hc Lc Mc v hk s2 hLc hnL cenv cke hcl hcc ⟨T,p,q,hv,hT,⟨ys,hys,hc⟩,⟨zs,hzs,hd⟩⟩
  have e1:=qbq hys (s2 _ _ hN)
  have e2:=qbq hzs (s2 _ _ hTk)
  subst e1 e2
  (refine oEA (qai hc) fun x hx e2'=>?_;obtain rfl:=e2')
  (refine oEA (qai hd) fun ta hta' e2'=>?_;obtain rfl:=e2')
  have hxm:x∈names:=mem_of_getElem? hx
  have hfa:H ta=some (lst ((f x).map fun q:Nat=>I (q:Int))):=htf k ta (f x) hta' (by refine substr getElem?_map (substr hx ?_);rfl)
  have hfc:=s2 _ _ hfa
  have htL:ta≠Lc:=fun e=>by rw[<- e,hfa] at hnL;exact o_sn hnL
  have hlen:=hf x hxm
  refine qbP (D:=D) ok.hand hT ?_ _ hv
  refine qj ?_;walk_at "s"
  refine qj ?_;walk_at "s"
  refine qN ?_
  refine qcP (qO (qF ?_))
  walk_at "n"
  refine qY (qp qu (qd ?_))
  walk_at "n"
  refine qi (qbl (l:=ta) (by walk_at "h") (by refine substr (length_map ..) ?_;exact qda hlen) ?_)
  refine substr (length_map ..) ?_
  refine qw (qds (asB ?_))
  have hm:(((f x).length:Int)==1)=decide ((f x).length=1):=by
   rcases Nat.lt_or_ge 1 (f x).length with h | h
   ·refine substr (decide_eq_false (qsu h)) ?_;exact beq_eq_false_iff_ne.mpr (qsv h)
   ·rcases(show(f x).length=0\/(f x).length=1 by exact qsw h) with h | h<;>refine substr h ?_<;>rfl
  refine substr hm ?_
  refine⟨fun hb=>?_,fun hb=>?_⟩
  ·walk_at "n"
   exact⟨rfl,by walk_at "k",⟨_,by walk_at "h"⟩,qeZ S hx hb⟩
  ·exact⟨rfl,by walk_at "k",⟨_,by walk_at "h"⟩,qe0 S hx hb⟩
 intro acc hacc
 refine substr (show min (names.map S).length (tas.map Value.ref).length=names.length by simp;exact qhb htl) (substr List.take_length ?_)
 exact h acc _ (Sub.upd hacc) upd_same
noncomputable def qah(is:List Int):List Nat:=((is.take 3).map (fun i:Int=>(i.fmod 1000000000).toNat)++[7,6,27]).take 3
noncomputable def sgP(cells:List Nat):Str:=qX ((cells.map fun c=>c/108).sum) 2
noncomputable def qkf(sg:Str)(c p:Nat):Nat:=((qm++sg).cps[c/3^p%3]?).getD 0
noncomputable def qd0(sg:Str)(c:Nat):Str:=Txt.join emp ((List.range 3).map fun p=>qC (qkf sg c p))
noncomputable def qd1(sg:Str)(c p:Nat):Nat:=(sg.cps[c/2^p%2]?).getD 0
noncomputable def nameP(sg:Str)(c:Nat):Str:=Txt.join emp ((List.range 3).map fun p=>qC (qd1 sg c p))
theorem fdm(c b p:Nat):(((c:Int).fdiv ((b:Int)^(((p:Nat):Int).toNat))).fmod (b:Int))=((c/b^p%b:Nat):Int):=by
 refine substr (show(((p:Nat):Int).toNat)=p from rfl) (substr (Int.natCast_pow ..).symm (substr (Int.fdiv_eq_ediv_of_nonneg _ (Int.natCast_nonneg _)) (substr (Int.fmod_eq_emod_of_nonneg _ (Int.natCast_nonneg _)) ?_)))
 rfl
noncomputable def qkg(D:Dyn)(a:Addr)(xs:List Value):Prop:=∀ s M H,At D s M H->∃ vs:List Value,s.heap.IsList a vs.toArray/\vs.map norm=xs
theorem qpA{value slice:Expr}{l:Addr}{xs:List Value}{lo hi:Option Int}{Φ:Value->Loc->AH->Prop}(hl:qkg D l xs)(hz:xs.length<=sizeLine)
 (h:∀ r,H r=none->Φ (.ref r) M (upd H r (lst (pick xs lo hi)))):
 ∀ r,H r=none->∀ v u,norm v=.ref l->norm u=.ref r->WV (model prog w) D (subscriptTail value slice v u) M (upd H r (.flds "slice" [qbz lo,qbz hi,.none])) Φ E:=by
 intro r hr v u hv hu s hs
 refine substr (qz hv) (substr (qz hu) ?_)
 refine qR (hs.slice upd_same) fun a b hsl ha hb=>?_
 have hs':=hs.sub (Sub.upd (d:=.flds "slice" [qbz lo,qbz hi,.none]) hr)
 refine oEA (hl _ _ _ hs') fun vs hL hm=>?_
 have hlen:vs.length=xs.length:=by refine substr hm.symm (substr (length_map ..) rfl)
 have p1:IsPart (partValue a) lo:=ha▸qcl
 have p2:IsPart (partValue b) hi:=hb▸qcl
 refine qcC hL.typeIs slot_list_getitem.lookup (wpAny_getItem_list_slice hL (vl:=partValue a) (vu:=partValue b) (vs:=.none) hsl p1 p2 .none (by simp) ?_ (by simpa [hlen] using hz))
 refine⟨_,_,hs'.alloc (d:=lst (pick xs lo hi)) rfl fun h e=>⟨_,_,e,?_⟩,h _ hs'.fresh⟩
 refine substr hm.symm ?_
 exact qhB vs _ _
theorem qlm(ok:Ok (KF w.params) glob q7 D (n+6))(ke:KE env lawKs)(hlo:env.locals=D.L){Sc:Addr}{is:List Int}{Φ:Flow->Loc->AH->Prop}
 (w1:look "script" M=some (.ref Sc)) (hS:qkg D Sc (is.map I)) (hl:is.length<=63)
 (h:∀ C Hs,Sub H Hs->Hs C=some (lst ((qah is).map fun i:Nat=>I (i:Int)))->WS (model prog w) D (execs (lawDef.drop 1) env) (put "cells" (.ref C) M) Hs Φ E):
 WS (model prog w) D (execs (lawDef.drop 0) env) M H Φ E:=by
 have big:(1000000:Nat)<=sizeLine:=by decide
 have hpk:∀ xs:List Value,pick xs none (some 3)=xs.take 3:=fun xs=>by
  refine substr (qgn ..) ?_
  show(xs.drop 0).take (min 3 xs.length-0)=xs.take 3
  refine substr List.drop_zero (substr (Nat.sub_zero ..) ?_)
  rcases Nat.le_total 3 xs.length with h | h
  ·refine substr (Nat.min_eq_left h) rfl
  ·refine substr (Nat.min_eq_right h) (substr (List.take_of_length_le (Nat.le_refl _)) (substr (List.take_of_length_le h) rfl))
 have htl:(is.take 3).length<=3:=by refine substr length_take ?_;exact Nat.min_le_left _ _
 refine qI (qW (qK ?_))
 refine qa4 (n:=((is.take 3).map I).length) (fr:=fun _=>False) (fun k=>((is.take 3).take k).map fun i:Int=>I (((i.fmod 1000000000).toNat:Nat):Int)) [(".0",.local),("cell",.local),("int",.globalImplicit)] ke (qat (ks0:=[(".0",.local),("cell",.local),("int",.globalImplicit)]) (by rfl) (by decide)) (by rfl) (by decide) (by decide) (by decide)
  (qce ok.hand (qW (by
   walk_at "n"
   refine qaN (qcd (qaj (qw ?_)))
   refine fun r hr v u hv hu=>qpA (lo:=none) (hi:=some 3) hS (by refine substr (length_map ..) ?_;exact qsx hl big) (Φ:=fun q M1 H1=>M1=M/\Sub H H1/\∃ l,q=.ref l/\H1 l=some (lst ((is.take 3).map I))/\(H l=none\/False)) ?_ r hr v u hv hu
   intro r hr
   exact(qci rfl (Sub.upd hr) r rfl (by refine substr (hpk ..) (substr upd_same (substr List.map_take rfl))) (.inl hr))))) (by refine substr (length_map ..) ?_;exact qm5 htl) (by rfl) ?_ ?_
 ·rintro k Hc Lc Mc v hk s2 hLc hnL cenv cke hcl hcc hv
  refine oEA (qai hv) fun i hi hiv=>?_
  refine qar hiv.symm ?_
  walk_at "s"
  refine qco ⟨fun _=>?_,fun h=>by cases h⟩
  refine qK (qF ?_)
  walk_at "n"
  refine v_type (qp qaJ (qd ?_))
  walk_at "n"
  refine qi (qxo (qK (qw (qw (qdO (by decide) (by decide) (by decide) (qdf (by decide) ?_))))))
  refine⟨rfl,by walk_at "k",⟨_,by walk_at "h"⟩,?_⟩
  refine substr (qcu _ hi) ?_
  have e:((10:Int)^(9:Int).toNat)=1000000000:=by decide
  refine substr e (substr (Int.toNat_of_nonneg (Int.fmod_nonneg_of_pos _ (by decide))) rfl)
 intro acc hacc
 refine substr (length_map ..) (substr List.take_length ?_)
 refine qae (qd (qw (qd (qw (qd (qw (qi ⟨qJ rfl,fun r2 hr2=>?_⟩)))))))
 refine qc2 (qx hr2 upd_same) upd_same (by simp;exact qne big) fun r3 hr3=>?_
 have e4:((is.take 3).map fun i:Int=>I (((i.fmod 1000000000).toNat:Nat):Int))++[I 7,I 6,I 27]=((is.take 3).map (fun i:Int=>(i.fmod 1000000000).toNat)++[7,6,27]).map fun i:Nat=>I (i:Int):=by
  refine substr map_append (substr map_map ?_);rfl
 refine substr e4 ?_
 refine qaN (qcd (qaj (qw ?_)))
 refine fun r hr v u hv hu=>qdQ (lo:=none) (hi:=some 3) upd_same (by simp;exact qne big) (fun C hC=>?_) r hr v u hv hu
 walk_at "s"
 refine h C _ ((((Sub.upd hacc).trans (Sub.upd hr2)).trans (Sub.upd hr3)).trans (Sub.upd hC)) ?_
 refine substr upd_same (substr (hpk ..) (substr (Eq.symm List.map_take) ?_));rfl
theorem qm1:qm.length=1:=by decide +kernel
theorem qkh:emp.length=0:=by decide +kernel
theorem qln{x:Str}{i:Nat}(h:i<x.length):(seqIndex? ((i:Nat):Int) x.length).bind (x.cps[·]?)=some ((x.cps[i]?).getD 0):=by
 refine substr (qbT h) ?_
 have h':i<x.cps.size:=h
 show x.cps[i]?=_
 simp[h']
theorem qmx(ok:Ok (KF w.params) glob q7 D (n+6))(ke:KE env lawKs)(hlo:env.locals=D.L){C cs cr:Addr}{cells:List Nat}{Φ:Flow->Loc->AH->Prop}
 (w1:look "cells" M=some (.ref C)) (hC:H C=some (lst (cells.map fun i:Nat=>I (i:Int)))) (hl:cells.length=3) (hcs:env.cells.lookup (Str.ofString "signs")=some cs) (hcr:env.cells.lookup (Str.ofString "rows")=some cr)
 (h1:H cs=some (.cell none)) (h2:H cr=some (.cell none)) (hne:cr≠cs) (hsg:(sgP cells).length=2)
 (h:∀ R Hs,Hs C=some (lst (cells.map fun i:Nat=>I (i:Int)))->Hs cs=some (.cell (some (S (sgP cells))))->Hs cr=some (.cell (some (.ref R)))->Hs R=some (lst ((cells.map (qd0 (sgP cells))).map S))->WS (model prog w) D (execs (lawDef.drop 3) env) M Hs Φ E):
 WS (model prog w) D (execs (lawDef.drop 1) env) M H Φ E:=by
 have big:(1000000:Nat)<=sizeLine:=by decide
 refine qI (qF ?_)
 walk_at "n"
 refine qad (qp (qan ok (by rfl)) (qd (qF ?_)))
 walk_at "n"
 refine qY (qp qu (qd ?_))
 refine qa4 (n:=(cells.map fun i:Nat=>I (i:Int)).length) (fr:=fun a=>a=C) (fun k=>(cells.take k).map fun c:Nat=>I ((c/108:Nat):Int)) [(".0",.local),("cell",.local)] ke (qat (ks0:=[(".0",.local),("cell",.local)]) (by rfl) (by decide)) (by rfl) (by decide) (by decide) (by decide)
  (qce ok.hand (by walk_at "n";exact(qci rfl Sub.refl C rfl hC (.inr rfl)))) (by refine substr (length_map ..) ?_;exact qjl hl) (by rfl) ?_ ?_
 ·rintro k Hc Lc Mc v hk s2 hLc hnL cenv cke hcl hcc hv
  refine oEA (qai hv) fun c hc hcv=>?_
  refine qar hcv.symm ?_
  walk_at "s"
  refine qco ⟨fun _=>?_,fun h=>by cases h⟩
  refine qK ?_
  walk_at "n"
  refine qw (qc1 (by decide) (PyProof.noPylong_small (by decide)) ⟨rfl,by walk_at "k",⟨_,by walk_at "h"⟩,?_⟩)
  refine substr (qcu _ hc) (substr (Int.fdiv_eq_ediv_of_nonneg _ (by decide)) ?_);rfl
 intro acc hacc
 refine substr (length_map ..) (substr List.take_length ?_)
 refine qi (qol (ns:=cells.map fun c:Nat=>((c/108:Nat):Int)) ok.hand (by refine substr upd_same (substr map_map ?_);rfl) ?_)
 rw[qfq (fun c=>c/108)]
 refine qd (qw (qi (ql3 (n:=n+5) (amt:=2) ok (by decide) ?_)))
 have ncs:cs≠acc:=fun e=>by rw[<- e,h1] at hacc;exact o_sn hacc
 have ncr:cr≠acc:=fun e=>by rw[<- e,h2] at hacc;exact o_sn hacc
 have hC1:=Sub.upd hacc (d:=lst (cells.map fun c:Nat=>I ((c/108:Nat):Int))) _ _ hC
 have h11:=Sub.upd hacc (d:=lst (cells.map fun c:Nat=>I ((c/108:Nat):Int))) _ _ h1
 have h21:=Sub.upd hacc (d:=lst (cells.map fun c:Nat=>I ((c/108:Nat):Int))) _ _ h2
 generalize upd H acc (lst (cells.map fun c:Nat=>I ((c/108:Nat):Int)))=H1 at hC1 h11 h21
 clear hC h1 h2
 have nC:C≠cs:=fun e=>by rw[e,h11] at hC1;cases hC1
 walk_at "s"
 show WS (model prog w) D _ _ (upd H1 cs (.cell (some (S (sgP cells))))) _ _
 have hC2:(upd H1 cs (.cell (some (S (sgP cells))))) C=some (lst (cells.map fun i:Nat=>I (i:Int))):=(qe nC).trans hC1
 have h12:(upd H1 cs (.cell (some (S (sgP cells))))) cs=some (.cell (some (S (sgP cells)))):=upd_same
 have h22:(upd H1 cs (.cell (some (S (sgP cells))))) cr=some (.cell none):=(qe hne).trans h21
 generalize upd H1 cs (.cell (some (S (sgP cells))))=H2 at hC2 h12 h22
 clear hC1 h11 h21
 generalize sgP cells=sg at *
 have hrl:(qm++sg).length=3:=by refine substr (Str.length_append ..) (substr qm1 (substr hsg rfl))
 refine qI ?_ ?hsw
 case hsw=>
  show(pure (env.blockKind==.function&&env.kindOf (Str.ofString "rows")==some .local&&_&&_):Sem Bool)=pure false
  have e2:(env.kindOf (Str.ofString "rows")==some NameKind.local)=false:=by refine substr (ke.of (show qt "rows" lawKs=some .cell by rfl)) ?_;rfl
  rw[e2,Bool.and_false,Bool.false_and,Bool.false_and]
 refine qhN (z:=Str.ofString "cell") (n:=(cells.map fun i:Nat=>I (i:Int)).length) (fr:=fun a=>a=C) (fun k ys Hk=>Hk=H2/\ys=(cells.take k).map fun c=>S (qd0 sg c)) [(".0",.local),("cell",.cell),("range",.globalImplicit),("signs",.free)] ke (qal ?_) (by rfl) (by decide) (fun n=>by rfl) (fun h=>by rfl) (by decide)
  (qce ok.hand (by walk_at "n";exact(qci rfl Sub.refl C rfl hC2 (.inr rfl)))) (by refine substr (length_map ..) ?_;exact qjl hl) ⟨rfl,by refine substr List.take_zero ?_;rfl⟩ ?_ ?_
 ·intro p hp hfr
  simp at hp
  rcases hp with rfl | rfl | rfl | rfl<;>first | (cases hfr;done) | (refine substr hcs ?_;rfl)
 ·rintro k ys Hk Hc Lc c Mc v hk hyl ⟨rfl,rfl⟩ s1 s2 hLc hnL ⟨u,hcu⟩ hnc hcL cenv cke hcl' hcc hv
  refine oEA (qai hv) fun x hx hxv=>?_
  have hc1:cenv.cells.lookup (Str.ofString "cell")=some c:=by refine substr hcc ?_;exact lookup_cons_self
  have hc2:cenv.cells.lookup (Str.ofString "signs")=some cs:=by
   refine substr hcc (substr List.lookup_cons ?_)
   have e:(Str.ofString "signs" == Str.ofString "cell")=false:=by decide +kernel
   refine substr e (substr (qL rfl) (substr (qL rfl) (substr (qL rfl) (substr (qZ hcs) ?_))))
   exact lookup_cons_self
  have nsc:cs≠c:=fun e=>by rw[e,hnc] at h12;exact o_ns h12
  have h13:=s2 _ _ h12
  refine qar hxv.symm ?_
  walk_at "s"
  refine qco ⟨fun _=>?_,fun h=>by cases h⟩
  have h14:(upd Hc c (.cell (some (I (x:Int))))) cs=some (.cell (some (S sg))):=by walk_at "h"
  have h15:(upd Hc c (.cell (some (I (x:Int))))) c=some (.cell (some (I (x:Int)))):=upd_same
  refine qcc F.slot_str_join F.type_str_join (qQ ⟨emp,rfl,fun v hv=>qp qu (qd ?_)⟩)
  refine qa4 (n:=(3:Int).toNat) (fr:=fun _=>False) (fun q=>(List.range q).map fun p=>S (qC (qkf sg x p))) [(".0",.local),("place",.local),("cell",.free),("signs",.free)] cke (qal ?_) (by rfl) (by decide) (by decide) (by rfl)
   (qcD ok.hand (N:=3) (by walk_at "n";exact⟨rfl,qw (iAA rfl rfl Sub.refl)⟩) (by decide) (by decide) rfl) (by decide) (by rfl) ?_ ?_
  ·intro p hp hfr
   simp at hp
   rcases hp with rfl | rfl | rfl | rfl<;>first | (cases hfr;done) | (refine substr hc1 ?_;rfl) | (refine substr hc2 ?_;rfl)
  ·rintro j Hj Lj Mj vj hj hSj hLj hnLj denv dke dcl dcc hvj
   have hj3:j<3:=hj
   have h1j:=hSj _ _ h14
   have h2j:=hSj _ _ h15
   have hjL:c≠Lj:=fun e=>by rw[<- e,h15] at hnLj;exact o_sn hnLj
   have hjL2:cs≠Lj:=fun e=>by rw[<- e,h14] at hnLj;exact o_sn hnLj
   have hd1:denv.cells.lookup (Str.ofString "cell")=some c:=by
    refine substr dcc (substr (qL rfl) (substr (qL rfl) (substr (qZ hc1) (substr (qZ hc2) (substr qdl (substr List.lookup_cons ?_))))))
    have e:(Str.ofString "cell" == Str.ofString "signs")=false:=by decide +kernel
    refine substr e ?_;exact lookup_cons_self
   have hd2:denv.cells.lookup (Str.ofString "signs")=some cs:=by
    refine substr dcc (substr (qL rfl) (substr (qL rfl) (substr (qZ hc1) (substr (qZ hc2) (substr qdl ?_)))))
    exact lookup_cons_self
   refine qar hvj ?_
   walk_at "s"
   refine qco ⟨fun _=>?_,fun h=>by cases h⟩
   refine qW (qK (qQ ?_))
   walk_at "n"
   refine qfG (by refine substr (show(Str.ofString "?").length=1 from qm1) (substr hsg ?_);exact qJ rfl) (qK (qK ?_))
   walk_at "n"
   refine qK (qw ?_)
   walk_at "n"
   have hp:∀ j:Nat,j<3->((3:Int)^((j:Int).toNat))≠0/\((3:Int)^((j:Int).toNat)).natAbs<1073741824:=by decide
   refine qdO (qdp) (qjj hj3) (by decide) (qc1 (hp j hj3).1 (PyProof.noPylong_small (hp j hj3).2) (qw (qdf (by decide) ?_)))
   refine substr (show(3:Int)=((3:Nat):Int) from rfl) (substr (fdm ..) ?_)
   have hlt:x/3^j%3<(qm++sg).length:=by refine substr hrl ?_;exact Nat.mod_lt _ (by decide)
   refine qdP (c:=qkf sg x j) (by exact as3) (by exact as4) (qln hlt) ⟨rfl,by walk_at "k",⟨_,by walk_at "h"⟩,?_⟩
   refine substr List.range_succ (substr map_append ?_);rfl
  intro acc hacc
  refine qi (qel (ys:=(List.range 3).map fun p=>qC (qkf sg x p)) (by refine substr upd_same (substr map_map ?_);rfl) ?_ ?_ v hv)
  ·refine substr (ones ..) (substr qkh (substr (length_map ..) (substr List.length_range ?_)));decide
  have hr2:Hc acc=none:=qaL hacc
  have hrL:acc≠Lc:=fun e=>by rw[e,hLc] at hr2;exact o_sn hr2
  have hrc:acc≠c:=fun e=>by rw[e,hcu] at hr2;exact o_sn hr2
  refine⟨rfl,by walk_at "k",⟨⟨_,by walk_at "h"⟩,_,by walk_at "h"⟩,_,Sub.refl,?_,fun a d e=>.inl e,rfl,by refine substr (qcu _ hx) ?_;rfl⟩
  intro a d e
  refine qx hacc ((qe fun e'=>by rw[e',hnc] at e;exact o_ns e).trans (s2 _ _ e))
 rintro acc ys Hk s1 hacc ⟨rfl,rfl⟩
 refine substr (length_map ..) (substr List.take_length ?_)
 have n3:C≠cr:=fun e=>by rw[e,h22] at hC2;cases hC2
 have na:acc≠cr:=fun e=>by rw[e,h22] at hacc;exact o_sn hacc
 walk_at "s"
 refine h acc _ ?_ ?_ upd_same ?_
 ·exact(qe n3).trans (qx hacc hC2)
 ·exact(qe (Ne.symm hne)).trans (qx hacc h12)
 ·refine(qe na).trans ?_
  refine substr upd_same (substr map_map ?_);rfl
theorem qki{β:Type}(f:Nat->β)(x:Nat):(List.range (x+1)).map f=(List.range x).map f++[f x]:=by refine substr List.range_succ (substr map_append ?_);rfl
theorem qlo(ok:Ok (KF w.params) glob q7 D (n+6))(ke:KE env lawKs)(hlo:env.locals=D.L){cs:Addr}{sg:Str}{Φ:Flow->Loc->AH->Prop}
 (hcs:env.cells.lookup (Str.ofString "signs")=some cs) (h12:H cs=some (.cell (some (S sg)))) (hsg:sg.length=2)
 (h:∀ Nn zs Hs,Sub H Hs->Hs Nn=some (lst (zs.map S))->zs.Perm ((List.range 8).map (nameP sg))->sortedS zs=true->WS (model prog w) D (execs (lawDef.drop 4) env) (put "names" (.ref Nn) M) Hs Φ E):
 WS (model prog w) D (execs (lawDef.drop 3) env) M H Φ E:=by
 have big:(1000000:Nat)<=sizeLine:=by decide
 refine qI (qF ?_)
 walk_at "n"
 refine qY (qp qu (qd ?_))
 refine qhN (z:=Str.ofString "code") (n:=(8:Int).toNat) (fr:=fun _=>False) (fun k ys Hk=>Hk=H/\ys=(List.range k).map fun c=>S (nameP sg c)) [(".0",.local),("code",.cell),("range",.globalImplicit),("signs",.free)] ke (qal ?_) (by rfl) (by decide) (fun n=>by rfl) (fun h=>by rfl) (by decide)
  (qcD ok.hand (N:=8) (by walk_at "n";exact⟨rfl,qw (iAA rfl rfl Sub.refl)⟩) (by decide) (by decide) rfl) (by decide) ⟨rfl,by rfl⟩ ?_ ?_
 ·intro p hp hfr
  simp at hp
  rcases hp with rfl | rfl | rfl | rfl<;>first | (cases hfr;done) | (refine substr hcs ?_;rfl)
 ·rintro x ys Hk Hc Lc c Mc v hk hyl ⟨rfl,rfl⟩ s1 s2 hLc hnL ⟨u,hcu⟩ hnc hcL cenv cke hcl' hcc hv
  have hx8:x<8:=hk
  have hc1:cenv.cells.lookup (Str.ofString "code")=some c:=by refine substr hcc ?_;exact lookup_cons_self
  have hc2:cenv.cells.lookup (Str.ofString "signs")=some cs:=by
   refine substr hcc (substr List.lookup_cons ?_)
   have e:(Str.ofString "signs" == Str.ofString "code")=false:=by decide +kernel
   refine substr e (substr (qL rfl) (substr (qL rfl) (substr (qL rfl) (substr (qZ hcs) ?_))))
   exact lookup_cons_self
  have nsc:cs≠c:=fun e=>by rw[e,hnc] at h12;exact o_ns h12
  have h13:=s2 _ _ h12
  refine qar hv ?_
  walk_at "s"
  refine qco ⟨fun _=>?_,fun h=>by cases h⟩
  have h14:(upd Hc c (.cell (some (I (x:Int))))) cs=some (.cell (some (S sg))):=by walk_at "h"
  have h15:(upd Hc c (.cell (some (I (x:Int))))) c=some (.cell (some (I (x:Int)))):=upd_same
  refine qcc F.slot_str_join F.type_str_join (qQ ⟨emp,rfl,fun v hv=>qp qu (qd ?_)⟩)
  refine qa4 (n:=(3:Int).toNat) (fr:=fun _=>False) (fun q=>(List.range q).map fun p=>S (qC (qd1 sg x p))) [(".0",.local),("place",.local),("code",.free),("signs",.free)] cke (qal ?_) (by rfl) (by decide) (by decide) (by rfl)
   (qcD ok.hand (N:=3) (by walk_at "n";exact⟨rfl,qw (iAA rfl rfl Sub.refl)⟩) (by decide) (by decide) rfl) (by decide) (by rfl) ?_ ?_
  ·intro p hp hfr
   simp at hp
   rcases hp with rfl | rfl | rfl | rfl<;>first | (cases hfr;done) | (refine substr hc1 ?_;rfl) | (refine substr hc2 ?_;rfl)
  ·rintro j Hj Lj Mj vj hj hSj hLj hnLj denv dke dcl dcc hvj
   have hj3:j<3:=hj
   have h1j:=hSj _ _ h14
   have h2j:=hSj _ _ h15
   have hjL:c≠Lj:=fun e=>by rw[<- e,h15] at hnLj;exact o_sn hnLj
   have hjL2:cs≠Lj:=fun e=>by rw[<- e,h14] at hnLj;exact o_sn hnLj
   have hd1:denv.cells.lookup (Str.ofString "code")=some c:=by
    refine substr dcc (substr (qL rfl) (substr (qL rfl) (substr (qZ hc1) (substr (qZ hc2) (substr qdl (substr List.lookup_cons ?_))))))
    have e:(Str.ofString "code" == Str.ofString "signs")=false:=by decide +kernel
    refine substr e ?_;exact lookup_cons_self
   have hd2:denv.cells.lookup (Str.ofString "signs")=some cs:=by
    refine substr dcc (substr (qL rfl) (substr (qL rfl) (substr (qZ hc1) (substr (qZ hc2) (substr qdl ?_)))))
    exact lookup_cons_self
   refine qar hvj ?_
   walk_at "s"
   refine qco ⟨fun _=>?_,fun h=>by cases h⟩
   refine qW ?_
   walk_at "n"
   refine qK (qK ?_)
   walk_at "n"
   refine qK (qw ?_)
   walk_at "n"
   have hp:∀ j:Nat,j<3->((2:Int)^((j:Int).toNat))≠0/\((2:Int)^((j:Int).toNat)).natAbs<1073741824:=by decide
   refine qdO (qdp) (qjj hj3) (by decide) (qc1 (hp j hj3).1 (PyProof.noPylong_small (hp j hj3).2) (qw (qdf (by decide) ?_)))
   refine substr (show(2:Int)=((2:Nat):Int) from rfl) (substr (fdm ..) ?_)
   have hlt:x/2^j%2<sg.length:=by refine substr hsg ?_;exact Nat.mod_lt _ (by decide)
   refine qdP (c:=qd1 sg x j) (by exact as5) (by exact as6) (qln hlt) ⟨rfl,by walk_at "k",⟨_,by walk_at "h"⟩,?_⟩
   refine substr List.range_succ (substr map_append ?_);rfl
  intro acc hacc
  refine qi (qel (ys:=(List.range 3).map fun p=>qC (qd1 sg x p)) (by refine substr upd_same (substr map_map ?_);rfl) ?_ ?_ v hv)
  ·refine substr (ones ..) (substr qkh (substr (length_map ..) (substr List.length_range ?_)));decide
  have hr2:Hc acc=none:=qaL hacc
  have hrL:acc≠Lc:=fun e=>by rw[e,hLc] at hr2;exact o_sn hr2
  have hrc:acc≠c:=fun e=>by rw[e,hcu] at hr2;exact o_sn hr2
  refine⟨rfl,by walk_at "k",⟨⟨_,by walk_at "h"⟩,_,by walk_at "h"⟩,_,Sub.refl,?_,fun a d e=>.inl e,rfl,(qki _ x).symm⟩
  intro a d e
  refine qx hacc ((qe fun e'=>by rw[e',hnc] at e;exact o_ns e).trans (s2 _ _ e))
 rintro acc ys Hk s1 hacc ⟨rfl,rfl⟩
 refine qi (qew (ys:=(List.range 8).map (nameP sg)) (by refine substr upd_same (substr map_map ?_);rfl) (by simp) fun Nn zs hN hp hs=>?_)
 walk_at "s"
 exact h Nn zs _ ((Sub.upd hacc).trans (Sub.upd hN)) upd_same hp hs
theorem qmy(ok:Ok (KF w.params) glob q7 D (n+6))(hn:8<=n)(ke:KE env lawKs)(hlo:env.locals=D.L){C Nn R cr:Addr}{cells:List Nat}{rows names:List Str}{Φ:Flow->Loc->AH->Prop}
 (w1:look "cells" M=some (.ref C)) (w2:look "names" M=some (.ref Nn)) (hcr:env.cells.lookup (Str.ofString "rows")=some cr) (h2:H cr=some (.cell (some (.ref R)))) (hC:H C=some (lst (cells.map fun i:Nat=>I (i:Int)))) (hR:H R=some (lst (rows.map S))) (hN:H Nn=some (lst (names.map S)))
 (l3:rows.length=3) (c3:cells.length=3) (hr:∀ x∈rows,x.length<=1000) (hns:names.length<=8) (hnm:∀ x∈names,x.length<=1000) (hst:Strict names)
 (hg:∀ c,1<=c->c<8->(qbc rows c).length≠0->0<(Txt.split (qbc rows c) qm).length/\(qbL (qbc rows c)).length<=1000/\qbH (qfo rows cells c)=true)
 (h:∀ O Ev Si Ch M' Hs,Sub H Hs->O≠Ev->Hs O=some (lst ((qbg (gP rows cells) names 7).map S))->Hs Ev=some (lst ((qa1 (gP rows cells) names 7).map S))->
  Hs Si=some (lst ((names.filter (siG (gP rows cells) 7)).map S))->Hs Ch=some (lst ((names.filter (chG (gP rows cells) 7)).map S))->
  look "odd" M'=some (.ref O)->look "even" M'=some (.ref Ev)->look "single" M'=some (.ref Si)->look "chain" M'=some (.ref Ch)->look "names" M'=some (.ref Nn)->WS (model prog w) D (execs (lawDef.drop 5) env) M' Hs Φ E):
 WS (model prog w) D (execs (lawDef.drop 4) env) M H Φ E:=by
 refine qfQ ok.hand (qF ?_)
 walk_at "n"
 refine qad (qp (qan ok (by rfl)) (qd ?_))
 walk_at "n"
 refine qd ?_
 walk_at "n"
 refine qd ?_
 walk_at "n"
 refine qi (qmj (n:=n+1) ok (qnf hn) hR hC hN l3 c3 hr hns hnm hst hg fun T O Ev Si Ch Hs s1 hT hne hO hE hS hCh=>⟨T,_,rfl,hT,?_⟩)
 refine qj ?_;walk_at "s"
 refine qj ?_;walk_at "s"
 refine qj ?_;walk_at "s"
 refine qj ?_;walk_at "s"
 refine qN ?_
 exact h O Ev Si Ch _ Hs s1 hne hO hE hS hCh (by walk_at "l") (by walk_at "l") (by walk_at "l") (by walk_at "l") (by walk_at "l")
structure Facts(cells:List Nat)(rows names:List Str)(fo fe:Str->Nat):Prop where
 l8:names.length=8
 st:Strict (names++[til])
 rl:∀ x∈rows,x.length<=1000
 nl:∀ x∈names,x.length<=1000
 ns:∀ x∈names,PyData.strOk x=true
 cl:∀ r∈rows,∀ m∈names,∀ x∈clashes r m,PyData.strOk x=true
 hg:∀ c,1<=c->c<8->(qbc rows c).length≠0->0<(Txt.split (qbc rows c) qm).length/\(qbL (qbc rows c)).length<=1000/\qbH (qfo rows cells c)=true
 chain:names.filter (chG (gP rows cells) 7)=names.filter fun x=>decide (plP rows x≠[])
 single:names.filter (siG (gP rows cells) 7)=names.filter fun x=>decide ((plP rows x).length%2≠0)
 co:∀ x,(qbg (gP rows cells) names 7).count x=fo x*names.count x
 ce:∀ x,(qa1 (gP rows cells) names 7).count x=fe x*names.count x
 lo:(qbg (gP rows cells) names 7).length<=32
 le:(qa1 (gP rows cells) names 7).length<64
 h64:(qbg (gP rows cells) names 7).length=32->(∀ j,j<64->(qbg (gP rows cells) names 7++qbg (gP rows cells) names 7)[j]?=some (nmA names (j%8)))/\rp (fun _=>8) names=rp (fun x=>2*fo x) names
 lone1:names.filter (fun n=>decide (0<2*fo n)&&decide (fe n=0))=names.filter fun x=>decide ((plP rows x).length=1)
 lone2:names.filter (fun n=>decide (0<fe n)&&decide (2*fo n=0))=[]
 cd:∀ ts:List (Nat×Str×Nat),ts.Perm (toldOf (plP rows) names)->ts.Pairwise leT->cdP (qbg (gP rows cells) names 7) (qa1 (gP rows cells) names 7)=ts.map wantOf
 uld:∀ ts:List (Nat×Str×Nat),ts.Perm (toldOf (plP rows) names)->ts.Pairwise leT->qaK (qbg (gP rows cells) names 7).reverse [] (qa1 (gP rows cells) names 7)=(((ts.map wantOf).map (·.2.2)).reverse,[])
theorem Strict.ns{ns zs:List Str}(h:Strict (ns++zs)):Strict ns:=(List.pairwise_append.mp h).1
theorem qf7(is:List Int):(qah is).length=3:=by
 unfold qah
 refine substr length_take (substr length_append ?_)
 simp
theorem qq0{rows:List Str}(h:rows.length=3)(x:Str):(plP rows x).length<=3:=by
 unfold plP
 refine Nat.le_trans (List.length_filter_le _ _) ?_
 refine substr List.length_range (substr h ?_);exact Nat.le_refl _
theorem qmz(ok:Ok (KF w.params) glob q7 D (n+6))(hn:8<=n)(ke:KE env lawKs)(hlo:env.locals=D.L){Sc cs cr:Addr}{is:List Int}{Φ:Flow->Loc->AH->Prop}
 (w1:look "script" M=some (.ref Sc)) (hS:qkg D Sc (is.map I)) (hl:is.length<=63) (hcs:env.cells.lookup (Str.ofString "signs")=some cs) (hcr:env.cells.lookup (Str.ofString "rows")=some cr)
 (h1:H cs=some (.cell none)) (h2:H cr=some (.cell none)) (hne:cr≠cs) (hsg:(sgP (qah is)).length=2)
 (F:∀ names,names.Perm ((List.range 8).map (nameP (sgP (qah is))))->sortedS names=true->∃ fo fe,Facts (qah is) ((qah is).map (qd0 (sgP (qah is)))) names fo fe)
 (h:∀ M' H',Φ (.ret (.bool true)) M' H'):
 WS (model prog w) D (execs (lawDef.drop 0) env) M H Φ E:=by
 refine qlm ok ke hlo w1 hS hl fun C H1 s1 hC=>?_
 have l3:=qf7 is
 refine qmx ok ke hlo qbj hC l3 hcs hcr (s1 _ _ h1) (s1 _ _ h2) hne hsg fun R H2 hC2 hcs2 hcr2 hR2=>?_
 refine qlo ok ke hlo hcs hcs2 hsg fun Nn names H3 s3 hN3 hp hso=>?_
 obtain⟨fo,fe,F⟩:=F names hp hso
 have hC3:=s3 _ _ hC2
 have hcr3:=s3 _ _ hcr2
 have hR3:=s3 _ _ hR2
 have l3':((qah is).map (qd0 (sgP (qah is)))).length=3:=by refine substr (length_map ..) ?_;exact l3
 generalize ((qah is).map (qd0 (sgP (qah is))))=rows at *
 generalize qah is=cells at *
 clear s3 hC2 hcr2 hR2 hcs2 s1 hC w1 hS
 have hl8:names.length<=8:=Nat.le_of_eq F.l8
 refine qmy ok hn ke hlo (qbm (.refl false) qbj) qbj hcr hcr3 hC3 hR3 hN3 l3' l3 F.rl hl8 F.nl F.st.ns F.hg fun O Ev Si Ch M4 H4 s4 hOE hO hE hSi hCh m1 m2 m3 m4 m5=>?_
 have hN4:=s4 _ _ hN3
 refine qkd ok hn ke hlo hcr m5 (s4 _ _ hcr3) (s4 _ _ hR3) hN4 l3' hl8 F.cl (fun r hr=>Nat.le_trans (F.rl r hr) (by decide)) fun Tk H5 s5 hT5=>?_
 have k1:look "odd" (put "takers" (Value.ref Tk) M4)=some (.ref O):=qbm (.refl false) m1
 have k2:look "even" (put "takers" (Value.ref Tk) M4)=some (.ref Ev):=qbm (.refl false) m2
 have k3:look "single" (put "takers" (Value.ref Tk) M4)=some (.ref Si):=qbm (.refl false) m3
 have k4:look "chain" (put "takers" (Value.ref Tk) M4)=some (.ref Ch):=qbm (.refl false) m4
 have k5:look "names" (put "takers" (Value.ref Tk) M4)=some (.ref Nn):=qbm (.refl false) m5
 have k6:look "takers" (put "takers" (Value.ref Tk) M4)=some (.ref Tk):=qbj
 generalize put "takers" (Value.ref Tk) M4=M5 at k1 k2 k3 k4 k5 k6
 have pl3:∀ x∈names,(plP rows x).length<=3:=fun x _=>qq0 l3' x
 refine qll ok hn ke hlo k5 k6 (s5 _ _ hN4) hT5 hl8 pl3 k4 (s5 _ _ hCh) F.chain F.ns fun H6 s6=>?_
 refine qke ok hn ke hlo k5 k6 (s6 _ _ (s5 _ _ hN4)) (hT5.to s6) hl8 pl3 k3 (s6 _ _ (s5 _ _ hSi)) F.single F.ns fun H7 s7=>?_
 have s57:=s6.trans s7
 refine qmw ok hn ke hlo k5 k6 (s57 _ _ (s5 _ _ hN4)) (hT5.to s57) hl8 pl3 (C:=0) (cs:=[]) fun Lo H8 s8 hL8=>?_
 have s48:=(s5.trans s57).trans s8
 refine qpz ok hn ke hlo (qbm (.refl false) k1) (qbm (.refl false) k2) qbj (s48 _ _ hO) (s48 _ _ hE) hL8 F.st F.l8 F.co F.ce F.lo F.le F.h64 F.lone1 F.lone2 F.ns fun M9 H9 s9 hm9=>?_
 have j1:look "odd" M9=some (.ref O):=(hm9 _ (by decide) (by decide)).trans (qbm (.refl false) k1)
 have j2:look "even" M9=some (.ref Ev):=(hm9 _ (by decide) (by decide)).trans (qbm (.refl false) k2)
 have j5:look "names" M9=some (.ref Nn):=(hm9 _ (by decide) (by decide)).trans (qbm (.refl false) k5)
 have j6:look "takers" M9=some (.ref Tk):=(hm9 _ (by decide) (by decide)).trans (qbm (.refl false) k6)
 have s49:=s48.trans s9
 have tl8:(toldOf (plP rows) names).length<=8:=by
  unfold toldOf;refine substr (length_map ..) ?_;exact Nat.le_trans (List.length_filter_le _ _) hl8
 refine qmt ok ke hlo j5 j6 (s49 _ _ hN4) (hT5.to ((s57.trans s8).trans s9)) hl8 pl3 fun r as ts H10 s10 hr ht hpm hpw=>?_
 have s410:=s49.trans s10
 have tm:∀ t∈ts,∃ x∈names,plP rows x≠[]/\t=((plP rows x).headD 0,x,(plP rows x).length):=fun t h=>by
  (refine oEA (List.mem_map.mp (hpm.mem_iff.mp h)) fun x hx e2'=>?_;obtain rfl:=e2')
  obtain⟨q1,q2⟩:=List.mem_filter.mp hx
  exact qeb x q1 (by simpa using q2) rfl
 have tsl:ts.length<=8:=by refine substr hpm.length_eq ?_;exact tl8
 refine qkb ok ke hlo qbj hr ht tsl (fun t h=>by
  (refine qbe (tm t h) fun x hx q e3'=>?_;obtain rfl:=e3')
  exact⟨List.length_pos_iff.mpr q,pl3 x hx⟩) fun W ws H11 s11 hWn hW hw=>?_
 have s411:=s410.trans s11
 have nW:∀ {a d},H4 a=some d->W≠a:=fun e q=>by have:=s410 _ _ e;rw[<- q,hWn] at this;exact o_ns this
 refine qpy ok hn ke hlo qbj (qbm (.refl false) (qbm (.refl false) j1)) (qbm (.refl false) (qbm (.refl false) j2)) hW hw (by refine substr (length_map ..) ?_;exact tsl) (s411 _ _ hO) (s411 _ _ hE) hOE (nW hO) (nW hE) (Nat.le_trans F.lo (by decide)) (Nat.le_trans (Nat.le_of_lt F.le) (by decide)) (fun t h=>?_) (F.cd ts hpm hpw) (F.uld ts hpm hpw) h
 (refine oEA (List.mem_map.mp h) fun t' ht' e2'=>?_;obtain rfl:=e2')
 (refine qbe (tm t' ht') fun x hx q e3'=>?_;obtain rfl:=e3')
 exact F.ns x hx
theorem qeA{α:Type}{x:String}:∀ {l:List (String×α)} {v:α},qt x l=some v->(x,v)∈l
 | [],_,h=>by cases h
 | (y,u)::r,v,h=>by
  rw[qiC] at h
  split at h
  ·rename_i e
   cases h
   subst e
   exact mem_cons_self ..
  ·exact List.mem_cons_of_mem _ (qeA h)
theorem qq1{w:World}{h:Heap}{mg mb:Str->Option Value}(X:(KF w.params).In h)(G:h.Ns mainGlobals mg)(B:h.Ns builtinsNs mb)(hb:∀ x:Str,x ≠ "__name__"->mb x=bootBuiltins x):GL glob q7 h:=by
 refine⟨mg,mb,G,B,fun x v hx=>?_,fun x v hx=>?_⟩
 ·have hm:=qeA hx
  have key:∀ p∈glob,nsIn (KF w.params) mainGlobals (Str.ofString p.1)=some (some p.2)/\norm p.2=p.2:=by
   intro p hp
   simp only[glob,List.mem_cons,List.not_mem_nil,or_false] at hp
   rcases hp with rfl | rfl | rfl | rfl | rfl | rfl | rfl | rfl | rfl | rfl | rfl | rfl | rfl | rfl | rfl | rfl | rfl | rfl | rfl<;>exact⟨by kernel_rfl,rfl⟩
  obtain⟨k1,k2⟩:=key _ hm
  exact⟨mg_of X G k1,k2⟩
 ·have hm:=qeA hx
  have key:∀ p∈q7,nsIn (KF w.params) mainGlobals (Str.ofString p.1)=some none/\bootBuiltins (Str.ofString p.1)=some p.2/\norm p.2=p.2/\Str.ofString p.1 ≠ "__name__":=by
   intro p hp
   simp only[q7,List.mem_cons,List.not_mem_nil,or_false] at hp
   rcases hp with rfl | rfl | rfl | rfl | rfl | rfl | rfl | rfl | rfl | rfl | rfl | rfl | rfl | rfl | rfl<;>exact qdr (by kernel_rfl) (by kernel_rfl) rfl (by decide +kernel)
  refine qdq (key _ hm) fun k1 k2 k3 k4=>?_
  exact iAA (mg_none_of X G k1) ((hb _ k4).trans k2) k3
theorem qeB:∀ {vs:List Value} {is:List Int},IntsAre vs is->vs.map norm=is.map I
 | _,_,.nil=>rfl
 | _,_,.cons n t h=>by refine substr map_cons (substr map_cons (substr (qeB h) ?_));rfl
noncomputable def lawScope:Scope:=fdx default (fun _ _ _ sc=>sc) Challenge.pw_ij0114_01.main.body.getLast?
theorem qmA{s₁:Shared}(hg:s₁.gens=#[])(X:(KF w.params).In s₁.heap)(G:GL glob q7 s₁.heap)(NL:s₁.heap.NoLimit){fa l:Addr}{o:Obj}{fd:FuncData}{vs:List Value}{is:List Int}
 (ho:s₁.heap.get? fa=some o) (hd:o.data=.func fd) (hsc:fd.scope=lawScope) (hbd:fd.body=.stmts lawDef) (hgl:fd.globals=mainGlobals) (hbl:fd.builtins=builtinsNs) (hclo:fd.closure=[]) (hcd:s₁.heap.CodeRec fd.code fd.qualname)
 (hbind:bindArgs fd ⟨[.ref l],[]⟩=pure [(Str.ofString "script",.ref l)])
 (hL:s₁.heap.IsList l vs.toArray) (hI:IntsAre vs is) (hl:is.length<=63) (hsg:(sgP (qah is)).length=2)
 (F:∀ names,names.Perm ((List.range 8).map (nameP (sgP (qah is))))->sortedS names=true->∃ fo fe,Facts (qah is) ((qah is).map (qd0 (sgP (qah is)))) names fo fe):
 codeAny (model prog w) callerA (.call (.ref fa) ⟨[.ref l],[]⟩) (fun r s'=>r=.ok (.ret (.bool true))/\OldK s₁.heap s'.heap/\s'.os=s₁.os/\AllBare s'.gens) s₁:=by
 have hk:lawScope.kind=.function:=by rfl
 have hks:lawScope.names=lawKs.map fun p=>(Str.ofString p.1,p.2):=by rfl
 refine codeAny_call_function (fd:=fd) (by decide +kernel) ho hd (by refine substr hsc ?_;rfl) (by refine substr hsc ?_;rfl) hbd hcd (BindsTo.of_eq hbind _ _ _ _ ?_)
 refine substr hclo ?_
 refine wpAny_newFunctionEnv_cells (by refine substr hsc ?_;rfl) (fun y hy=>?_) fun env he s' x=>?_
 ·rw[List.mem_singleton] at hy
  subst hy
  refine substr hsc ?_;exact .inl (by rfl)
 subst he
 refine⟨NL.keeps x.toInCall.keep,codeAny_func ?_⟩
 (refine qbu x.done fun h₁ tk e2' _=>?_;obtain rfl:=e2')
 have hk₁:=x.toInCall.keep
 generalize henv:newEnv fd.scope s₁.heap.objs.size fd.globals (cellsFrom (s₁.heap.objs.size+1) fd.scope.names []) (fd.qualname ++ ".<locals>.") (some fa) fd.code none fd.builtins=env at *
 have e1:env.scope=lawScope:=by refine substr henv.symm ?_;exact hsc
 have e2:env.locals=s₁.heap.objs.size:=by refine substr henv.symm ?_;rfl
 have e3:env.globals=mainGlobals:=by refine substr henv.symm ?_;exact hgl
 have e4:env.builtins=builtinsNs:=by refine substr henv.symm ?_;exact hbl
 have e5:env.frame=some s₁.heap.objs.size:=by refine substr henv.symm ?_;rfl
 have e6:env.cells=[(Str.ofString "rows",s₁.heap.objs.size+1+1),(Str.ofString "signs",s₁.heap.objs.size+1)]:=by
  refine substr henv.symm ?_
  show cellsFrom (s₁.heap.objs.size+1) fd.scope.names []=_
  refine substr hsc ?_;rfl
 have ke:KE env lawKs:=⟨by refine substr e1 ?_;exact hk,e3,e4,by refine substr e1 ?_;exact hks,by rfl⟩
 have kof:∀ y,env.kindOf (Str.ofString y)=qt y lawKs:=fun y=>by
  show env.scope.names.lookup _=_
  refine substr e1 (substr hks (substr (qaI ..) rfl))
 have l1:env.cells.lookup (Str.ofString "rows")=some (s₁.heap.objs.size+1+1):=by refine substr e6 ?_;exact lookup_cons_self
 have l2:env.cells.lookup (Str.ofString "signs")=some (s₁.heap.objs.size+1):=by
  refine substr e6 (substr List.lookup_cons ?_)
  have e:(Str.ofString "signs" == Str.ofString "rows")=false:=by decide +kernel
  refine substr e ?_;exact lookup_cons_self
 have ks:=kof "script"
 have hbc:∀ y:Str,bindC env.kindOf [(Str.ofString "script",Value.ref l)] (fun _=>none) y=none:=fun y=>by
  exact congrFun (bC1 (r:=[]) (m:=fun _=>none) ks) y
 have c1:h₁.IsCell (s₁.heap.objs.size+1+1) none:=by have:=x.cell _ _ l1;rw[hbc] at this;exact this
 have c2:h₁.IsCell (s₁.heap.objs.size+1) none:=by have:=x.cell _ _ l2;rw[hbc] at this;exact this
 have ok:Ok (KF w.params) glob q7 ⟨callerA.deeper env,s₁.heap,s₁.heap.objs.size,s₁⟩ (8+6):=by
  refine⟨(qe4 callerA s₁.heap ([]) env (below_caller _) rfl e5 (by refine substr e1 ?_;exact hk) X G NL),rfl,?_,?_⟩
  ·show callerA.depth+1+14<_
   decide +kernel
  ·show callerA.units+3+8*14<_
   decide +kernel
 have ns:h₁.Ns s₁.heap.objs.size (bindL env.kindOf [(Str.ofString "script",Value.ref l)] fun _=>none):=e2▸x.toInCall.ns
 have hM:MRep (bindL env.kindOf [(Str.ofString "script",Value.ref l)] fun _=>none) [("script",Value.ref l)]:=by
  exact qeR (bL1 ks) (mrep_nil.put (x := "script") (v:=Value.ref l))
 have nn:s₁.heap.objs.size+1+1≠s₁.heap.objs.size+1:=Nat.succ_ne_self _
 have at0:At ⟨callerA.deeper env,s₁.heap,s₁.heap.objs.size,s₁⟩ { s₁ with heap:=h₁,toks:=tk } [("script",Value.ref l)] (upd (upd (fun _=>none) (s₁.heap.objs.size+1) (.cell none)) (s₁.heap.objs.size+1+1) (.cell none)):=by
  refine⟨(qbJ _ _ KtsTurn.refl ⟨ns,hk₁,Nat.le_refl _⟩ hM),fun a d e=>?_,rfl,rfl,rfl⟩
  unfold upd at e
  split at e
  ·rename_i q;cases e;subst q
   exact⟨Nat.ne_of_gt (Nat.lt_succ_of_lt (Nat.lt_succ_self _)),Heap.get?_none_of_le (Nat.le_trans (Nat.le_succ _) (Nat.le_succ _)),none,c1,rfl⟩
  ·split at e
   ·rename_i q;cases e;subst q
    exact⟨Nat.ne_of_gt (Nat.lt_succ_self _),Heap.get?_none_of_le (Nat.le_succ _),none,c2,rfl⟩
   ·exact o_ns e
 have hfs:Dyn.fs ⟨callerA.deeper env,s₁.heap,s₁.heap.objs.size,s₁⟩=[]:=rfl
 have old:qkg ⟨callerA.deeper env,s₁.heap,s₁.heap.objs.size,s₁⟩ l (is.map I):=fun s M H a=>by
  refine qR a.fr fun g m T F R=>?_
  refine(iEA vs ?_ (qeB hI))
  refine oEA hL fun o q1 q2=>?_
  exact⟨o,F.keep _ _ (T.other _ _ q1 (by refine substr hfs ?_;exact List.not_mem_nil)),q2⟩
 have hbd:=qmz (prog:=prog) (E:=fun _ _=>False) (Φ:=fun fl _ _=>fl=.ret (.bool true)) ok (by decide) ke e2 (by rfl) old hl l2 l1 ((qe (Ne.symm nn)).trans upd_same) upd_same nn hsg F (fun _ _=>rfl) _ at0
 refine wpAny_mono hbd (fun fl s' q'=>Post.el q' fun M' H' hs' h'=>?_) fun _ _ x=>x.elim
 have hk2:∀ b o,s₁.heap.get? b=some o->s'.heap.get? b=some o:=fun b o e=>by
  refine qR hs'.fr fun g m T F R=>?_
  exact F.keep _ _ (T.other _ _ e (by refine substr hfs ?_;exact List.not_mem_nil))
 have h':qeK fl=.ret (.bool true):=h'
 have hfl:fl=.ret (.bool true):=by
  cases fl with
  | ret v=>
   have:norm v=.bool true:=by injection h'
   refine substr (qbM this) rfl
  | next=>cases h'
  | cont=>cases h'
  | brk=>cases h'
 subst hfl
 exact qdr rfl (OldK.of_keep hk2) hs'.os (.of_eq (hs'.gens.trans hg))
noncomputable def qd2:Nat->List Nat->Bool->Bool->Bool->List (List Str)->Bool×Bool×Bool×List (List Str)
 | 0,_,so,h,l,ps=>(so,h,l,ps)
 | f+1,R,so,h,l,ps=>
  if (so&&!R.isEmpty)=true then
   if (R.take 6==[40,63,62,46,42,63])=true then qd2 f (R.drop 6) (!h&&!l) true l (ps++[[]])
   else if (R.take 2==[46,42])=true then qd2 f (R.drop 2) (!h&&!l) h true (ps++[[]])
   else if (R.headD 0==41)=true then qd2 f (R.drop 1) h false l ps
   else if (R.headD 0==92)=true then qd2 f (R.drop 2) (h||l||((ps.length:Int)==1)) h l (qbw ps (qC ((R[1]?).getD (R.headD 0))))
   else qd2 f (R.drop 1) ((h||l||((ps.length:Int)==1))&&!([94,36,42,43,63,123,125,91,93,124,40].contains (R.headD 0))) h l (qbw ps (if (R.headD 0==46)=true then emp else qC (R.headD 0)))
  else(so,h,l,ps)
noncomputable def qdL(L:List Nat):List (List Str):=
 match qd2 (lsl L (some 4) (some (-3))).length (lsl L (some 4) (some (-3))) (lsl L none (some 4)++lsl L (some (-3)) none==[40,63,115,58,41,92,90]) false false [[]] with
 | (so,h,l,ps)=>if (so&&!h&&(l==decide ((1:Int)<(ps.length:Int))))=true then ps else[[Str.ofString "none"]]
theorem str_beq{x:Str}{l:List Nat}(y:Str)(hy:y.cps.toList=l):(x==y)=(x.cps.toList==l):=by
 subst hy
 by_cases h:x=y
 ·subst h;simp
 ·have:x.cps.toList≠y.cps.toList:=fun e=>h (qeU e)
  refine substr (beq_eq_false_iff_ne.mpr h) (substr (beq_eq_false_iff_ne.mpr this) rfl)
theorem qi1(p n:Nat):kms_lo (some (p:Int)) n=min p n:=by
 show(if (p:Int)<0 then n-(-(p:Int)).toNat else min ((p:Int).toNat) n)=_
 refine substr (if_neg (qjh)) ?_;rfl
theorem qpB(p n:Nat):kms_hi (some (p:Int)) n=min p n:=by
 show(if (p:Int)<0 then n-(-(p:Int)).toNat else min ((p:Int).toNat) n)=_
 refine substr (if_neg (qjh)) ?_;rfl
theorem qfu(b:Str)(p k:Nat):(Txt.slice b (some (p:Int)) (some ((p:Int)+(k:Int)))).cps.toList=(b.cps.toList.drop p).take k:=by
 refine substr (slice_list ..) ?_
 show lsl _ _ _=_
 unfold lsl
 have h1:kms_lo (some (p:Int)) b.cps.toList.length=min p b.cps.toList.length:=qi1 _ _
 have h2:kms_hi (some ((p:Int)+(k:Int))) b.cps.toList.length=min (p+k) b.cps.toList.length:=by
  have e:((p:Int)+(k:Int))=((p+k:Nat):Int):=qm2
  refine substr e ?_;exact qpB _ _
 refine substr h1 (substr h2 ?_)
 generalize b.cps.toList=L
 rcases Nat.le_total p L.length with h | h
 ·refine substr (Nat.min_eq_left h) ?_
  rcases Nat.le_total (p+k) L.length with h3 | h3
  ·refine substr (Nat.min_eq_left h3) (substr (Nat.add_sub_cancel_left ..) rfl)
  ·refine substr (Nat.min_eq_right h3) (substr (List.take_of_length_le (by refine substr length_drop ?_;exact Nat.le_refl _)) (substr (List.take_of_length_le (by refine substr length_drop ?_;exact qt4 h3)) rfl))
 ·refine substr (Nat.min_eq_right h) (substr (Nat.min_eq_right (qnu h)) (substr (Nat.sub_self ..) (substr List.take_zero (substr (List.drop_eq_nil_of_le h) (substr List.take_nil rfl)))))
theorem qxD(b:Str)(p:Nat):qbU b p=qC ((b.cps.toList.drop p).headD 0):=by
 unfold qbU
 congr 1
 refine substr List.headD_eq_head?_getD (substr List.head?_drop ?_)
 simp
theorem qbZ(a c:Nat):(qC a==qC c)=(a==c):=by
 refine substr (str_beq (qC c) rfl) ?_
 show([a]==[c])=_
 by_cases h:a=c
 ·subst h;simp
 ·simp[h]
theorem qq2:∀ c,c<128->(Builtin.Str.occurrences specials (qC c) 0 specials.length 1).isEmpty=!([94,36,42,43,63,123,125,91,93,124,40].contains c):=by decide +kernel
theorem qlp(x:Str)(c:Nat)(h:x.cps.toList=[c]):qcF x=qC c:=by
 have:x=⟨#[c]⟩:=qeU h
 subst this;rfl
theorem qq3(x:Str)(c d:Nat)(h:x.cps.toList=[c,d]):qcF x=qC d:=by
 have:x=⟨#[c,d]⟩:=qeU h
 subst this;rfl
noncomputable def qq4(s:PS):Bool×Bool×Bool×List (List Str):=(s.sound,s.held,s.last,s.pieces)
theorem qlq(b:Str)(hb:∀ c∈b.cps.toList,c<128):∀(f:Nat) (s:PS),qq4 (qb7 b f s)=qd2 f (b.cps.toList.drop s.place) s.sound s.held s.last s.pieces
 | 0,s=>rfl
 | f+1,s=>by
  have hlt:(decide (s.place<b.length))=!(b.cps.toList.drop s.place).isEmpty:=by
   show decide (s.place<b.cps.size)=_
   refine substr (Eq.symm Array.length_toList) ?_
   cases h:b.cps.toList.drop s.place with
   | nil=>rw[List.drop_eq_nil_iff] at h;simpa using h
   | cons c r=>
    have:s.place<b.cps.toList.length:=by
     rcases Nat.lt_or_ge s.place b.cps.toList.length with h2 | h2
     ·exact h2
     ·rw[List.drop_eq_nil_of_le h2] at h;cases h
    simpa using this
  unfold qb7 qd2
  refine substr hlt ?_
  by_cases hc:(s.sound&&!(b.cps.toList.drop s.place).isEmpty)=true
  ·refine substr (if_pos hc) (substr (if_pos hc) ?_)
   have ih:=qlq b hb f (qbt b s)
   refine substr ih ?_
   unfold qbt
   have q6:=qfu b s.place 6
   have q2:=qfu b s.place 2
   have q1:=qfu b s.place 1
   rw[str_beq (Str.ofString "(?>.*?") (l:=[40,63,62,46,42,63]) (by decide +kernel),show((s.place:Int)+6)=(s.place:Int)+((6:Nat):Int) from rfl,q6]
   rw[str_beq (Str.ofString ".*") (l:=[46,42]) (by decide +kernel),show((s.place:Int)+2)=(s.place:Int)+((2:Nat):Int) from rfl,q2]
   have d1:∀ k,b.cps.toList.drop (s.place+k)=(b.cps.toList.drop s.place).drop k:=fun k=>by refine substr List.drop_drop rfl
   by_cases h1:((b.cps.toList.drop s.place).take 6==[40,63,62,46,42,63])=true
   ·refine substr (if_pos h1) (substr (if_pos h1) ?_);dsimp only;refine substr (d1 ..) rfl
   ·refine substr (if_neg h1) (substr (if_neg h1) ?_)
    by_cases h2:((b.cps.toList.drop s.place).take 2==[46,42])=true
    ·refine substr (if_pos h2) (substr (if_pos h2) ?_);dsimp only;refine substr (d1 ..) rfl
    ·refine substr (if_neg h2) (substr (if_neg h2) (substr (qxD ..) (substr (show Str.ofString ")"=qC 41 by decide +kernel) (substr (qbZ ..) (substr (show Str.ofString "\\"=qC 92 by decide +kernel) (substr (qbZ ..) (substr (show Str.ofString "."=qC 46 by decide +kernel) (substr (qbZ ..) ?_))))))))
     have hne:∃ c r,b.cps.toList.drop s.place=c::r/\c<128:=by
      cases h:b.cps.toList.drop s.place with
      | nil=>rw[h] at hc;simp at hc
      | cons c r=>exact qjC c r rfl (hb c (List.mem_of_mem_drop (by refine substr h ?_;exact mem_cons_self ..)))
     refine qbu hne fun c r hcr hc128=>?_
     simp only[hcr,List.headD_cons] at *
     by_cases h3:(c==41)=true
     ·refine substr (if_pos h3) (substr (if_pos h3) ?_);dsimp only;refine substr (d1 ..) rfl
     ·refine substr (if_neg h3) (substr (if_neg h3) ?_)
      dsimp only
      by_cases h4:(c==92)=true
      ·have h46:¬ (c==46)=true:=by rw[beq_iff_eq] at h4 ⊢;exact qt5 h4
       refine substr (if_pos h4) (substr (if_pos h4) (substr (if_neg h46) ?_))
       have e2:(Txt.slice b (some (s.place:Int)) (some ((s.place:Int)+((2:Nat):Int)))).cps.toList=(c::r).take 2:=q2
       have hl:qcF (Txt.slice b (some (s.place:Int)) (some ((s.place:Int)+((2:Nat):Int))))=qC ((((c::r)[1]?)).getD c):=by
        cases r with
        | nil=>exact qlp _ _ e2
        | cons d r=>exact qq3 _ _ _ e2
       refine substr hl (substr (d1 ..) (substr (show(((2:Nat):Int)==2)=true from rfl) (substr (Bool.true_or ..) (substr (Bool.and_true ..) rfl))))
      ·rw[if_neg h4,if_neg h4,d1,show(((1:Nat):Int)==2)=false from rfl,Bool.false_or,qq2 c hc128]
       have hl:qcF (Txt.slice b (some (s.place:Int)) (some ((s.place:Int)+((1:Nat):Int))))=qC c:=qlp _ _ q1
       refine substr hl rfl
  ·refine substr (if_neg hc) (substr (if_neg hc) ?_);rfl
theorem qlr(t:Str)(ht:∀ c∈t.cps.toList,c<128):qak t=qdL t.cps.toList:=by
 have hbody:(qP t).cps.toList=lsl t.cps.toList (some 4) (some (-3)):=by unfold qP;refine substr (slice_list ..) rfl
 have hsound:(qdH t).sound=(lsl t.cps.toList none (some 4)++lsl t.cps.toList (some (-3)) none==[40,63,115,58,41,92,90]):=by
  unfold qdH
  dsimp only
  refine substr (str_beq _ (l:=[40,63,115,58,41,92,90]) (by decide +kernel)) ?_
  congr 1
  refine substr (slice_list ..) (substr (slice_list ..) ?_)
  show(_++_:Array Nat).toList=_
  refine substr Array.toList_append rfl
 have hb:∀ c∈(qP t).cps.toList,c<128:=fun c hc=>by
  rw[hbody] at hc
  unfold lsl at hc
  exact ht c (List.mem_of_mem_drop (List.mem_of_mem_take hc))
 have hr:=qlq (qP t) hb (qP t).length (qdH t)
 have hlen:(qP t).length=(lsl t.cps.toList (some 4) (some (-3))).length:=by
  refine substr hbody.symm (substr Array.length_toList ?_);rfl
 rw[hsound,hlen,hbody] at hr
 unfold qdL
 have hr':qd2 (lsl t.cps.toList (some 4) (some (-3))).length (lsl t.cps.toList (some 4) (some (-3))) (lsl t.cps.toList none (some 4)++lsl t.cps.toList (some (-3)) none==[40,63,115,58,41,92,90]) false false [[]]=qq4 (qgv t):=by
  unfold qgv
  refine substr hlen (substr hr ?_);rfl
 refine substr hr' ?_
 rfl
noncomputable def qcT(piece:List Str)(nm:List Nat):Bool:=match piece,nm with
 | [],_=>true
 | _::_,[]=>false
 | p::r,c::cs=>(p==emp||p==qC c)&&qcT r cs
theorem qgJ(piece:List Str)(name:Str)(place:Nat):qbn piece name place=(Nat.ble place name.cps.toList.length&&qcT piece (name.cps.toList.drop place)):=by
 have key:∀(piece:List Str) (nm:List Nat),qcT piece nm=(decide (piece.length<=nm.length)&&decide (((piece.zip nm).filter fun p=>!([emp,qC p.2].any (·==p.1))).map (·.1)=[])):=by
  intro piece
  induction piece with
  | nil=>intro nm;rw[show qcT [] nm=true by cases nm<;>rfl];simp
  | cons p r ih=>
   intro nm
   cases nm with
   | nil=>rw[show qcT (p::r) []=false from rfl];simp
   | cons c cs=>
    rw[show qcT (p::r) (c::cs)=((p==emp||p==qC c)&&qcT r cs) from rfl,ih]
    simp only[List.zip_cons_cons,List.filter_cons,length_cons,Nat.add_le_add_iff_right]
    have e:([emp,qC c].any (·==p))=(p==emp||p==qC c):=by
     simp only[List.any_cons,List.any_nil,Bool.or_false]
     refine substr (Bool.beq_comm (a:=emp)) (substr (Bool.beq_comm (a:=qC c)) rfl)
    refine substr e ?_
    cases h:(p==emp||p==qC c) with
    | true=>simp
    | false=>simp
 have hs:(Txt.slice name (some (place:Int)) none).cps.toList=name.cps.toList.drop place:=by
  refine substr (slice_list ..) ?_
  show lsl _ _ _=_
  unfold lsl
  have h1:kms_lo (some (place:Int)) name.cps.toList.length=min place name.cps.toList.length:=qi1 _ _
  refine substr h1 ?_
  show(name.cps.toList.drop _).take (name.cps.toList.length-_)=_
  generalize name.cps.toList=L
  rcases Nat.le_total place L.length with h | h
  ·refine substr (Nat.min_eq_left h) (substr (List.take_of_length_le (by refine substr length_drop ?_;exact Nat.le_refl _)) rfl)
  ·refine substr (Nat.min_eq_right h) (substr (Nat.sub_self ..) (substr List.take_zero (substr (List.drop_eq_nil_of_le h) rfl)))
 unfold qbn qfk
 refine substr hs (substr (key ..) ?_)
 have hl:name.length=name.cps.toList.length:=by refine substr Array.length_toList ?_;rfl
 refine substr hl ?_
 generalize name.cps.toList=L
 refine substr length_drop ?_
 by_cases h:L.length<place+piece.length
 ·refine substr (if_pos h) ?_
  by_cases h2:place<=L.length
  ·refine substr (Nat.ble_eq_true_of_le h2) (substr (decide_eq_false (qt6 h h2)) ?_);simp
  ·have:Nat.ble place L.length=false:=by
    cases q:Nat.ble place L.length with
    | false=>rfl
    | true=>exact absurd (Nat.le_of_ble_eq_true q) h2
   refine substr this ?_;rfl
 ·refine substr (if_neg h) (substr (Nat.ble_eq_true_of_le (qt7 h)) (substr (decide_eq_true (show piece.length<=L.length-place by exact qt8 h)) ?_));rfl
noncomputable def qkj(piece:List Str)(L:List Nat)(place:Nat):Bool:=Nat.ble place L.length&&qcT piece (L.drop place)
noncomputable def qf8(piece:List Str)(L:List Nat):Nat->Nat->Nat
 | 0,p=>p
 | f+1,p=>if (Nat.ble p L.length&&!qkj piece L p)=true then qf8 piece L f (p+1) else p
noncomputable def qhn(L:List Nat)(ps:List (List Str))(p:Nat):Nat:=ps.foldl (fun pl q=>qf8 q L (L.length+1-pl) pl+q.length) p
noncomputable def qik(ps:List (List Str))(L:List Nat):Bool:=
 if qkj ((ps[0]?).getD []) L 0=false then false else
 if ps.length=1 then Nat.beq ((ps[0]?).getD []).length L.length else
 if Nat.ble (qhn L ((ps.drop 1).take (ps.length-1-1)) ((ps[0]?).getD []).length+(qcp ps).length) L.length=false then false else qkj (qcp ps) L (L.length-(qcp ps).length)
theorem qpC{piece:List Str}{L:List Nat}{f p:Nat}:qf8 piece L (f+1) p=if (Nat.ble p L.length&&!qkj piece L p)=true then qf8 piece L f (p+1) else p:=rfl
theorem qi2(piece:List Str)(name:Str):∀ f p,qb6 piece name f p=qf8 piece name.cps.toList f p
 | 0,p=>rfl
 | f+1,p=>by
  rw[qgu,qpC,qgJ,qi2 piece name f]
  have hl:name.length=name.cps.toList.length:=by refine substr Array.length_toList ?_;rfl
  refine substr hl ?_
  have:decide (p<=name.cps.toList.length)=Nat.ble p name.cps.toList.length:=by
   cases h:Nat.ble p name.cps.toList.length with
   | true=>exact decide_eq_true (Nat.le_of_ble_eq_true h)
   | false=>exact decide_eq_false fun q=>by rw[Nat.ble_eq_true_of_le q] at h;cases h
  refine substr this ?_;rfl
theorem qmB(ps:List (List Str))(name:Str):qbb ps name=qik ps name.cps.toList:=by
 have hl:name.length=name.cps.toList.length:=by refine substr Array.length_toList ?_;rfl
 have hm:∀ qs p,qdk name qs p=qhn name.cps.toList qs p:=fun qs p=>by
  unfold qdk qhn
  congr 1
  funext pl q
  refine substr (qi2 ..) (substr hl rfl)
 unfold qbb qik
 dsimp only
 refine substr (qgJ ..) (substr (qgJ ..) (substr (hm ..) (substr hl ?_)))
 show(if _ then _ else _)=(if (Nat.ble 0 _&&_)=false then _ else _)
 by_cases h1:(Nat.ble 0 name.cps.toList.length&&qcT ((ps[0]?).getD []) (name.cps.toList.drop 0))=false
 ·refine substr (if_pos h1) (substr (if_pos h1) rfl)
 ·refine substr (if_neg h1) (substr (if_neg h1) ?_)
  by_cases h2:ps.length=1
  ·refine substr (if_pos h2) (substr (if_pos h2) ?_)
   cases h:Nat.beq ((ps[0]?).getD []).length name.cps.toList.length with
   | true=>exact decide_eq_true (Nat.eq_of_beq_eq_true h)
   | false=>exact decide_eq_false (Nat.ne_of_beq_eq_false h)
  ·refine substr (if_neg h2) (substr (if_neg h2) ?_)
   generalize qhn name.cps.toList ((ps.drop 1).take (ps.length-1-1)) ((ps[0]?).getD []).length=pl
   generalize name.cps.toList=L
   by_cases h3:pl+(qcp ps).length<=L.length
   ·refine substr (if_neg (qt9 h3)) (substr (if_neg (by refine substr (Nat.ble_eq_true_of_le h3) ?_;decide)) ?_);rfl
   ·have:Nat.ble (pl+(qcp ps).length) L.length=false:=by
     cases q:Nat.ble (pl+(qcp ps).length) L.length with
     | false=>rfl
     | true=>exact absurd (Nat.le_of_ble_eq_true q) h3
    refine substr (if_pos (qua h3)) (substr (if_pos this) rfl)
noncomputable def und(r n:Str):Bool:=decide (clashes r n=[])
noncomputable abbrev qd3(a b c:Nat):Str:=⟨#[a,b,c]⟩
noncomputable def pcS(sg:Str)(x:Nat):Nat:=((qm++sg).cps[x]?).getD 0
noncomputable def qdv(sg:Str)(x y z:Nat):Str:=qd3 (pcS sg x) (pcS sg y) (pcS sg z)
noncomputable def qcv(sg:Str):List Str:=(List.range 8).map (nameP sg)
noncomputable def qf9(ps:List (List Str)):Bool:=Nat.ble 1 ps.length&&Nat.ble ps.length 1000&&ps.all (fun p=>Nat.ble p.length 1000&&p.all PyData.strOk)
noncomputable def qmC(t:List Nat)(met:Str)(nms:List Str):Bool:=t.all (fun c=>Nat.ble c 127)&&Nat.ble t.length 1000&&qf9 (qdL t)&&nms.all fun n=>qik (qdL t) n.cps.toList==und met n
noncomputable def qfv(met:Str)(nms:List Str)(d:Nat):Bool:=qet (qbS met d)&&qmC (qag (qbS met d)).cps.toList met nms
noncomputable def qil(met:Str)(nms:List Str):Bool:=Nat.ble 1 (Txt.split met qm).length&&Nat.ble (qbL met).length 1000&&qfv met nms 0&&qfv met nms 1&&qfv met nms 2&&qfv met nms 3
noncomputable def qU(i x:Nat):Bool:=(List.range 3).all fun y=>(List.range 3).all fun z=>qil (qdv (qX i 2) x y z) (qcv (qX i 2))
noncomputable def qbh(sg:Str):Bool:=decide (sg.length=2)&&(qcv sg).all PyData.strOk&&decide (qcv sg).Nodup&&(qcv sg).all (fun n=>ltS n til)&&(List.range 3).all (fun x=>PyData.strOk (qC (pcS sg x)))&&(pcS sg 0==63)
theorem qls(a:Nat):qX a 2=qX (a%18) 2:=by
 unfold qX
 congr 1
 refine List.map_congr_left fun k _=>?_
 refine substr (show(a%18+k)%18=(a+k)%18 by omega) rfl
theorem qoA(a b c:Nat):Txt.join emp [qC a,qC b,qC c]=qd3 a b c:=by rfl
theorem qq5(sg:Str)(c:Nat):qd0 sg c=qdv sg (c/3^0%3) (c/3^1%3) (c/3^2%3):=qoA _ _ _
theorem qpD(sg:Str)(c:Nat):nameP sg c=qd3 (qd1 sg c 0) (qd1 sg c 1) (qd1 sg c 2):=qoA _ _ _
noncomputable def uc(a n:Nat):Bool:=a==63||a==n
theorem qq6(a x:Nat):([qC 63,qC x].any (·==qC a))=uc a x:=by
 unfold uc
 refine substr List.any_cons (substr List.any_cons (substr List.any_nil (substr (Bool.or_false ..) (substr (qbZ ..) (substr (qbZ ..) (substr (Bool.beq_comm (a:=63)) (substr (Bool.beq_comm (a:=x)) rfl)))))))
theorem qgK(a b c x y z:Nat):und (qd3 a b c) (qd3 x y z)=(uc a x&&(uc b y&&uc c z)):=by
 unfold und clashes
 show decide ((List.filter (fun p:Nat×Nat=>!([qC 63,qC p.2].any (·==qC p.1))) [(a,x),(b,y),(c,z)]).map _=[])=_
 simp only[List.filter_cons,List.filter_nil,qq6]
 generalize uc a x=u1,uc b y=u2,uc c z=u3;cases u1<;>cases u2<;>cases u3<;>simp
noncomputable def clB(a x:Nat):Bool:=!(a==63)&&!(x==63)&&!(a==x)
noncomputable def pk(a x:Nat):Nat:=if (a==63)=true then x else a
theorem qzE:Str.ofString "?"=qC 63:=by decide +kernel
theorem qzF(a b c x y z:Nat):qbR (qd3 a b c) (qd3 x y z)=if (clB a x||(clB b y||clB c z))=true then emp else qd3 (pk a x) (pk b y) (pk c z):=by
 have e1:∀ a x:Nat,(qC a != qC 63&&!([qC 63,qC a].any (·==qC x)))=clB a x:=fun a x=>by
  unfold clB
  rw[List.any_cons,List.any_cons,List.any_nil,Bool.or_false,qbZ,qbZ,bne,qbZ,Bool.beq_comm (a:=63)]
  cases a==63<;>cases x==63<;>cases a==x<;>rfl
 have e2:∀ a x:Nat,(if (qC a==qC 63)=true then qC x else qC a)=qC (pk a x):=fun a x=>by
  unfold pk
  refine substr (qbZ ..) ?_;split<;>rfl
 unfold qbR
 show qdj [(a,x),(b,y),(c,z)] (Str.ofString "")=_
 simp only[qgs,show ∀ s,qdj [] s=s from fun _=>rfl,qzE,e1,e2]
 cases clB a x with
 | true=>rfl
 | false=>
  cases clB b y with
  | true=>rfl
  | false=>
   cases clB c z with
   | true=>rfl
   | false=>
    simp only[Bool.false_or,Bool.false_eq_true,if_false]
    rfl
theorem qpE(x:Str):qbR emp x=emp:=by
 unfold qbR
 have:qcH emp x=[]:=by unfold qcH;refine substr (show emp.cps.toList=[] by decide +kernel) ?_;rfl
 refine substr this ?_;rfl
theorem qkk{a x:Nat}(h:clB a x=false)(n:Nat):uc (pk a x) n=(uc a n&&uc x n):=by
 unfold clB at h
 unfold uc pk
 cases ha:a==63 with
 | true=>simp
 | false=>
  cases hx:x==63 with
  | true=>simp[ha]
  | false=>
   rw[ha,hx] at h
   have:a=x:=by simpa using h
   subst this
   simp[ha]
theorem qkl{a x:Nat}(h:clB a x=true)(n:Nat):(uc a n&&uc x n)=false:=by
 unfold clB at h
 simp only[Bool.and_eq_true,Bool.not_eq_true',beq_eq_false_iff_ne] at h
 obtain⟨⟨h1,h2⟩,h3⟩:=h
 unfold uc
 refine substr (beq_eq_false_iff_ne.mpr h1) (substr (beq_eq_false_iff_ne.mpr h2) (substr (Bool.false_or ..) (substr (Bool.false_or ..) ?_)))
 cases q:a==n with
 | false=>rfl
 | true=>
  have:a=n:=by simpa using q
  subst this
  refine substr (Bool.true_and ..) ?_
  exact beq_eq_false_iff_ne.mpr (Ne.symm h3)
theorem qkm(sg:Str){x y:Nat}(hx:x<3)(hy:y<3):∃ z,z<3/\pk (pcS sg x) (pcS sg y)=pcS sg z:=by
 unfold pk
 split
 ·exact iEA y hy rfl
 ·exact iEA x hx rfl
noncomputable def qbF(sg r:Str):Prop:=∃ x y z,x<3/\y<3/\z<3/\r=qdv sg x y z
noncomputable def qcs(n:Str):Prop:=∃ x y z,n=qd3 x y z
theorem b6:∀ p x q y r z:Bool,((p&&x)&&((q&&y)&&(r&&z)))=((p&&(q&&r))&&(x&&(y&&z))):=by decide
theorem b3a:∀ p q r x y z:Bool,(p&&x)=false->((p&&(q&&r))&&(x&&(y&&z)))=false:=by decide
theorem b3b:∀ p q r x y z:Bool,(q&&y)=false->((p&&(q&&r))&&(x&&(y&&z)))=false:=by decide
theorem b3c:∀ p q r x y z:Bool,(r&&z)=false->((p&&(q&&r))&&(x&&(y&&z)))=false:=by decide
theorem qmD{sg m r:Str}(hm:qbF sg m)(hr:qbF sg r):(qbF sg (qbR m r)/\∀ n,qcs n->und (qbR m r) n=(und m n&&und r n))\/(qbR m r=emp/\∀ n,qcs n->(und m n&&und r n)=false):=by
 (refine qaC hm fun a b c h1 h2 h3 e6'=>?_;obtain rfl:=e6')
 (refine qaC hr fun x y z k1 k2 k3 e6'=>?_;obtain rfl:=e6')
 unfold qdv
 refine substr (qzF ..) ?_
 by_cases h:(clB (pcS sg a) (pcS sg x)||(clB (pcS sg b) (pcS sg y)||clB (pcS sg c) (pcS sg z)))=true
 ·refine substr (if_pos h) ?_
  refine .inr ⟨rfl,?_⟩
  intro n r1';(refine qd9 r1' fun p q s e3'=>?_;obtain rfl:=e3')
  refine substr (qgK ..) (substr (qgK ..) ?_)
  simp only[Bool.or_eq_true] at h
  rcases h with h | h | h
  ·exact b3a _ _ _ _ _ _ (qkl h p)
  ·exact b3b _ _ _ _ _ _ (qkl h q)
  ·exact b3c _ _ _ _ _ _ (qkl h s)
 ·refine substr (if_neg h) ?_
  simp only[Bool.or_eq_true,not_or,Bool.not_eq_true] at h
  refine oAA h fun c1 c2 c3=>?_
  refine .inl ⟨?_,?_⟩
  ·refine oEA (qkm sg h1 k1) fun z1 l1 e1=>?_
   refine oEA (qkm sg h2 k2) fun z2 l2 e2=>?_
   refine oEA (qkm sg h3 k3) fun z3 l3 e3=>?_
   exact⟨z1,z2,z3,l1,l2,l3,by unfold qdv;refine substr e1 (substr e2 (substr e3 rfl))⟩
  ·intro n r1';(refine qd9 r1' fun p q s e3'=>?_;obtain rfl:=e3')
   rw[qgK,qgK,qgK,qkk c1,qkk c2,qkk c3]
   exact b6 _ _ _ _ _ _
noncomputable def qkn(rows:List Str)(ps:List Nat)(m:Str):Str:=ps.foldl (fun m p=>qbR m (rows.getD p emp)) m
theorem qim{sg:Str}{rows:List Str}:∀(ps S:List Nat) (m:Str),(∀ p∈ps,qbF sg (rows.getD p emp))->
 ((qbF sg m/\∀ n,qcs n->und m n=S.all fun p=>und (rows.getD p emp) n)\/(m=emp/\∀ n,qcs n->(S.all fun p=>und (rows.getD p emp) n)=false))->
 ((qbF sg (qkn rows ps m)/\∀ n,qcs n->und (qkn rows ps m) n=(S++ps).all fun p=>und (rows.getD p emp) n)\/(qkn rows ps m=emp/\∀ n,qcs n->((S++ps).all fun p=>und (rows.getD p emp) n)=false))
 | [],S,m,_,h=>by refine substr (List.append_nil ..) ?_;exact h
 | p::ps,S,m,hr,h=>by
  have e:S++p::ps=(S++[p])++ps:=by simp
  refine substr e ?_
  refine qim ps (S++[p]) (qbR m (rows.getD p emp)) (fun q hq=>hr q (List.mem_cons_of_mem _ hq)) ?_
  rcases h with⟨h1,h2⟩ | ⟨rfl,h2⟩
  ·rcases qmD h1 (hr p (mem_cons_self ..)) with⟨k1,k2⟩ | ⟨k1,k2⟩
   ·exact .inl ⟨k1,fun n hn=>by refine substr (k2 n hn) (substr (h2 n hn) (substr List.all_append ?_));simp⟩
   ·exact .inr ⟨k1,fun n hn=>by have:=k2 n hn;rw[h2 n hn] at this;refine substr List.all_append ?_;simpa using this⟩
  ·exact .inr ⟨qpE _,fun n hn=>by refine substr List.all_append (substr (h2 n hn) (substr (Bool.false_and ..) rfl))⟩
theorem qq7{f:Nat->Bool}(h:(List.range 3).all f=true){x:Nat}(hx:x<3):f x=true:=List.all_eq_true.mp h x (List.mem_range.mpr hx)
structure qb3(sg:Str):Prop where
 len:sg.length=2
 ns:∀ x∈qcv sg,PyData.strOk x=true
 nd:(qcv sg).Nodup
 til:∀ x∈qcv sg,ltS x til=true
 pc:∀ x,x<3->PyData.strOk (qC (pcS sg x))=true
 q:pcS sg 0=63
 met:∀ x y z,x<3->y<3->z<3->qil (qdv sg x y z) (qcv sg)=true
theorem qlt{sg:Str}(h1:qbh sg=true)(h2:∀ x y z,x<3->y<3->z<3->qil (qdv sg x y z) (qcv sg)=true):qb3 sg:=by
 unfold qbh at h1
 simp only[Bool.and_eq_true,decide_eq_true_eq,List.all_eq_true,beq_iff_eq,List.mem_range] at h1
 obtain⟨⟨⟨⟨⟨k1,k2⟩,k3⟩,k4⟩,k5⟩,k6⟩:=h1
 exact⟨k1,k2,k3,k4,k5,k6,h2⟩
theorem qi3{sg r:Str}(h:qbF sg r):r.length=3:=by
 (refine qaC h fun x y z _ _ _ e6'=>?_;obtain rfl:=e6');rfl
theorem qin{sg n:Str}(h:n∈qcv sg):qcs n:=by
 (refine oEA (List.mem_map.mp h) fun c _ e2'=>?_;obtain rfl:=e2')
 exact⟨_,_,_,qpD sg c⟩
theorem qq8{sg:Str}(c:Nat):qbF sg (qd0 sg c):=⟨_,_,_,Nat.mod_lt _ (by decide),Nat.mod_lt _ (by decide),Nat.mod_lt _ (by decide),qq5 sg c⟩
theorem qc8{a b:Nat}(h:Nat.ble a b=true):a<=b:=Nat.le_of_ble_eq_true h
theorem qlu{ps:List (List Str)}(h:qf9 ps=true):0<ps.length/\ps.length<=1000/\∀ p∈ps,p.length<=1000/\p.all PyData.strOk=true:=by
 unfold qf9 at h
 rw[Bool.and_eq_true,Bool.and_eq_true] at h
 obtain⟨⟨h1,h2⟩,h3⟩:=h
 refine(iAA (qc8 h1) (qc8 h2) (fun p hp=>?_))
 have:=List.all_eq_true.mp h3 p hp
 rw[Bool.and_eq_true] at this
 exact⟨qc8 this.1,this.2⟩
theorem qmE{t:Str}{met:Str}{nms:List Str}(h:qmC t.cps.toList met nms=true):t.length<=1000/\qf9 (qak t)=true/\∀ n∈nms,qbb (qak t) n=und met n:=by
 unfold qmC at h
 rw[Bool.and_eq_true,Bool.and_eq_true,Bool.and_eq_true] at h
 obtain⟨⟨⟨h1,h2⟩,h3⟩,h4⟩:=h
 have hp:qak t=qdL t.cps.toList:=qlr _ fun c hc=>Nat.lt_succ_of_le (qc8 (List.all_eq_true.mp h1 c hc))
 refine(iAA ?_ (by refine substr hp ?_;exact h3) (fun n hn=>?_))
 ·have:=qc8 h2
  rw[Array.length_toList] at this
  exact this
 ·refine substr (qmB ..) (substr hp ?_)
  exact beq_iff_eq.mp (List.all_eq_true.mp h4 n hn)
theorem qko{pat:Str}(h1:qet pat=true)(h2:(qag pat).length<=1000)(h3:qf9 (qak (qag pat))=true):qbH pat=true:=by
 refine oAA (qlu h3) fun k1 k2 k3=>?_
 unfold qbH
 rw[h1,decide_eq_true h2,decide_eq_true k1,decide_eq_true k2]
 simp only[Bool.true_and]
 refine List.all_eq_true.mpr fun p hp=>?_
 refine substr (decide_eq_true (k3 p hp).1) (substr ((k3 p hp).2) ?_);rfl
theorem qmF{met:Str}{nms:List Str}{d:Nat}(h:qfv met nms d=true):qbH (qbS met d)=true/\∀ n∈nms,qbb (qak (qag (qbS met d))) n=und met n:=by
 unfold qfv at h
 rw[Bool.and_eq_true] at h
 refine oAA (qmE h.2) fun k1 k2 k3=>?_
 exact⟨qko h.1 k1 k2,k3⟩
theorem qga{met:Str}{nms:List Str}(h:qil met nms=true)(d:Nat)(hd:d<4):0<(Txt.split met qm).length/\(qbL met).length<=1000/\qbH (qbS met d)=true/\∀ n∈nms,qbb (qak (qag (qbS met d))) n=und met n:=by
 unfold qil at h
 rw[Bool.and_eq_true,Bool.and_eq_true,Bool.and_eq_true,Bool.and_eq_true,Bool.and_eq_true] at h
 obtain⟨⟨⟨⟨⟨k1,k2⟩,d0⟩,d1⟩,d2⟩,d3⟩:=h
 have hc:qfv met nms d=true:=by
  rcases(show d=0\/d=1\/d=2\/d=3 by exact qub hd) with rfl | rfl | rfl | rfl
  ·exact d0
  ·exact d1
  ·exact d2
  ·exact d3
 exact iAA (qc8 k1) (qc8 k2) (qmF hc)
section
variable{sg:Str}{rows names:List Str}{cells:List Nat}
theorem qi4(ok:qb3 sg)(hr:∀ p,p<3->qbF sg (rows.getD p emp))(c:Nat):
 (qbF sg (qbc rows c)/\∀ n,qcs n->und (qbc rows c) n=(qT c).all fun p=>und (rows.getD p emp) n)\/(qbc rows c=emp/\∀ n,qcs n->((qT c).all fun p=>und (rows.getD p emp) n)=false):=by
 have h0:Str.ofString "???"=qdv sg 0 0 0:=by
  unfold qdv;refine substr ok.q ?_;decide +kernel
 have:=qim (sg:=sg) (rows:=rows) (qT c) [] (Str.ofString "???") (fun p hp=>hr p (qie hp)) (.inl ⟨⟨0,0,0,by decide,by decide,by decide,h0⟩,fun n hn=>by
  (refine qd9 hn fun x y z e3'=>?_;obtain rfl:=e3')
  refine substr h0 ?_;unfold qdv
  refine substr (qgK ..) (substr ok.q ?_);rfl⟩)
 rw[List.nil_append] at this
 exact this
theorem qq9(ok:qb3 sg)(hr:∀ p,p<3->qbF sg (rows.getD p emp)){c:Nat}{n:Str}(hn:n∈qcv sg):gP rows cells c n=(qT c).all fun p=>und (rows.getD p emp) n:=by
 have hd:qbV cells (qT c)<4:=Nat.mod_lt _ (by decide)
 unfold gP
 rcases qi4 ok hr c with⟨h1,h2⟩ | ⟨h1,h2⟩
 ·refine substr (qi3 h1) ?_
  refine qaC h1 fun x y z hx hy hz e=>?_
  have hc:=qga (ok.met x y z hx hy hz) _ hd
  refine substr (h2 n (qin hn)).symm ?_
  unfold qfo
  refine substr e ?_
  refine substr (hc.2.2.2 n hn) ?_;rfl
 ·refine substr h1 (substr (h2 n (qin hn)) ?_)
  refine substr (show emp.length=0 from qkh) ?_;rfl
theorem qxE(ok:qb3 sg)(hr:∀ p,p<3->qbF sg (rows.getD p emp)){c:Nat}(hne:(qbc rows c).length≠0):0<(Txt.split (qbc rows c) qm).length/\(qbL (qbc rows c)).length<=1000/\qbH (qfo rows cells c)=true:=by
 have hd:qbV cells (qT c)<4:=Nat.mod_lt _ (by decide)
 rcases qi4 ok hr c with⟨h1,h2⟩ | ⟨h1,h2⟩
 ·refine qaC h1 fun x y z hx hy hz e=>?_
  have hc:=qga (ok.met x y z hx hy hz) _ hd
  unfold qfo
  refine substr e ?_
  exact iAA hc.1 hc.2.1 hc.2.2.1
 ·rw[h1] at hne;exact absurd qkh hne
theorem qlv{zs bs:List Str}(hp:zs.Perm bs)(hs:sortedS zs=true)(hnd:bs.Nodup)(ht:∀ x∈bs,ltS x til=true):Strict (zs++[til]):=by
 have hnd':zs.Nodup:=hp.nodup_iff.mpr hnd
 have hle:=qdY zs hs
 refine List.pairwise_append.mpr (iAA ?_ (List.pairwise_singleton ..) (fun a ha b hb=>?_))
 ·refine(hle.and hnd').imp fun {a b} ⟨h1,h2⟩=>?_
  cases q:ltS a b with
  | true=>rfl
  | false=>exact absurd (qeV q h1) h2
 ·rw[List.mem_singleton] at hb
  subst hb
  exact ht a (hp.mem_iff.mp ha)
theorem qmG(ok:qb3 sg){r:Str}(hr:qbF sg r){m x:Str}(hx:x∈clashes r m):PyData.strOk x=true:=by
 (refine qaC hr fun a b c h1 h2 h3 e6'=>?_;obtain rfl:=e6')
 unfold clashes at hx
 (refine oEA (List.mem_map.mp hx) fun p hp e2'=>?_;obtain rfl:=e2')
 have hp:=(List.of_mem_zip (List.mem_filter.mp hp).1).1
 have:p.1∈[pcS sg a,pcS sg b,pcS sg c]:=hp
 simp only[List.mem_cons,List.not_mem_nil,or_false] at this
 rcases this with e | e | e<;>refine substr e ?_
 ·exact ok.pc _ h1
 ·exact ok.pc _ h2
 ·exact ok.pc _ h3
end
noncomputable def dd:List Str->List Str
 | []=>[]
 | x::r=>x::wo x (dd r)
theorem mem_wo{x z:Str}{l:List Str}:z∈wo x l↔z∈l/\z≠x:=by
 unfold wo
 refine substr (propext List.mem_filter) ?_
 simp
theorem qd4{x z:Str}(l:List Str)(h:z≠x):(wo x l).count z=l.count z:=List.count_filter (by simpa using h)
theorem qpF{x:Str}{l:List Str}(h:x ∉ l):wo x l=l:=List.filter_eq_self.mpr fun z hz=>by
 simp only[Bool.not_eq_true',beq_eq_false_iff_ne];intro e;exact h (e▸hz)
theorem qpG(x y:Str)(l:List Str):wo x (wo y l)=wo y (wo x l):=by
 unfold wo;refine substr List.filter_filter (substr List.filter_filter ?_);exact List.filter_congr fun z _=>Bool.and_comm ..
theorem qmH(x:Str)(l:List Str):wo x (wo x l)=wo x l:=by
 unfold wo;refine substr List.filter_filter ?_;exact List.filter_congr fun z _=>Bool.and_self ..
theorem qgb(x:Str)(l:List Str):wo x (x::l)=wo x l:=by unfold wo;refine substr List.filter_cons ?_;simp
theorem qgc{x y:Str}(l:List Str)(h:y≠x):wo x (y::l)=y::wo x l:=by unfold wo;refine substr List.filter_cons ?_;simp[h]
theorem qkp(x:Str):∀ r:List Str,dd (wo x r)=wo x (dd r)
 | []=>rfl
 | y::r=>by
  by_cases h:y=x
  ·subst h
   refine substr (qgb ..) (substr (qkp y r) ?_)
   show _=wo y (y::wo y (dd r))
   refine substr (qgb ..) (substr (qmH ..) rfl)
  ·refine substr (qgc r h) ?_
   show y::wo y (dd (wo x r))=wo x (y::wo y (dd r))
   refine substr (qgc _ h) (substr (qkp x r) (substr (qpG ..) rfl))
theorem mem_dd{z:Str}:∀ {l:List Str},z∈dd l↔z∈l
 | []=>Iff.rfl
 | x::r=>by
  show z∈x::wo x (dd r)↔z∈x::r
  refine substr (propext List.mem_cons) (substr (propext List.mem_cons) (substr (propext mem_wo) (substr (propext mem_dd) ?_)))
  by_cases h:z=x
  ·simp[h]
  ·simp[h]
theorem qeC{R:List Str}:∀ {l:List Str},l.Nodup->dd (l++R)=l++(dd R).filter fun z=>decide (z ∉ l)
 | [],_=>by
  show dd R=[]++_
  refine substr (List.nil_append ..) (substr (List.filter_eq_self.mpr fun z _=>by simp) rfl)
 | x::l,h=>by
  obtain⟨h1,h2⟩:=List.nodup_cons.mp h
  show x::wo x (dd (l++R))=_
  refine substr (qeC h2) ?_
  unfold wo
  refine substr (List.filter_append ..) (substr List.filter_filter (substr List.cons_append ?_))
  congr 1
  have e1:=qpF h1
  unfold wo at e1
  refine substr e1 ?_
  congr 1
  refine List.filter_congr fun z _=>?_
  by_cases q:z=x
  ·simp[q]
  ·by_cases q2:z∈l<;>simp[q,q2]
theorem qmI{l:List Str}(h:l.Nodup):dd l=l:=by
 have:=qeC (R:=[]) h
 rw[List.append_nil] at this
 refine substr this ?_;simp[dd]
theorem qlw:∀(k:Nat) (xs ys:List Str),xs.length<=k->(∀ x∈xs,xs.count x≠ys.count x)->(∀ y∈ys,y∈xs)->cdP xs ys=(dd xs).map fun x=>(xs.count x,ys.count x,x)
 | k,[],ys,_,_,h2=>by
  have:ys=[]:=List.eq_nil_iff_forall_not_mem.mpr fun y hy=>by simpa using h2 y hy
  subst this
  refine substr (qiS ..) (substr qiR ?_);rfl
 | 0,x::r,_,h,_,_=>by simp at h
 | k+1,x::r,ys,hk,h1,h2=>by
  have hx:(x::r).count x=1+r.count x:=by refine substr List.count_cons_self ?_;exact quc
  have hne:¬ (1+r.count x=ys.count x):=by refine substr hx.symm ?_;exact h1 x (mem_cons_self ..)
  refine substr (qia ..) (substr (if_neg hne) ?_)
  have hlen:(wo x r).length<=k:=by
   unfold wo
   have:=List.length_filter_le (fun z=>!(z==x)) r
   simp at hk;exact qcL this hk
  have hc:∀ z,z≠x->(x::r).count z=r.count z:=fun z hz=>by refine substr List.count_cons (substr (if_neg (by simpa using Ne.symm hz)) ?_);rfl
  have ih:=qlw k (wo x r) (wo x ys) hlen (fun z hz=>by
   obtain⟨z1,z2⟩:=mem_wo.mp hz
   refine substr (qd4 _ z2) (substr (qd4 _ z2) (substr (hc z z2).symm ?_))
   exact h1 z (List.mem_cons_of_mem _ z1)) (fun z hz=>by
   obtain⟨z1,z2⟩:=mem_wo.mp hz
   rcases List.mem_cons.mp (h2 z z1) with e | e
   ·exact absurd e z2
   ·exact mem_wo.mpr ⟨e,z2⟩)
  refine substr ih (substr (qkp ..) ?_)
  show _=(x::wo x (dd r)).map _
  refine substr map_cons (substr hx ?_)
  show(_::_)=(_::_)
  congr 1
  refine List.map_congr_left fun z hz=>?_
  obtain⟨_,z2⟩:=mem_wo.mp hz
  refine substr (qd4 _ z2) (substr (qd4 _ z2) (substr (hc z z2) rfl))
noncomputable def qgd:List Str->List Str->List Str
 | [],_=>[]
 | x::r,ys=>qgd r ys++if r.count x<ys.count x then[] else[x]
theorem qgL{x:Str}{r ys:List Str}:qgd (x::r) ys=qgd r ys++if r.count x<ys.count x then[] else[x]:=rfl
theorem qio(x:Str)(r acc ys:List Str):qaK (x::r) acc ys=if x∈ys then qaK r acc (ys.erase x) else qaK r (acc++[x]) ys:=rfl
theorem qgM:∀(xs zs acc ys:List Str),qaK (xs++zs) acc ys=qaK zs (qaK xs acc ys).1 (qaK xs acc ys).2
 | [],zs,acc,ys=>rfl
 | x::r,zs,acc,ys=>by
  show qaK (x::(r++zs)) acc ys=_
  refine substr (qio ..) (substr (qio ..) ?_)
  split
  ·exact qgM r zs acc _
  ·exact qgM r zs _ ys
theorem qip:∀(xs acc ys:List Str),(qaK xs.reverse acc ys).1=acc++qgd xs ys/\∀ z,(qaK xs.reverse acc ys).2.count z=ys.count z-xs.count z
 | [],acc,ys=>by
  refine⟨by show acc=acc++[];simp,fun z=>by show ys.count z=_;simp⟩
 | x::r,acc,ys=>by
  obtain⟨h1,h2⟩:=qip r acc ys
  refine substr List.reverse_cons (substr (qgM ..) ?_)
  generalize qaK r.reverse acc ys=p at h1 h2
  obtain⟨a,y⟩:=p
  dsimp only at h1 h2
  show(qaK [x] a y).1=_/\∀ z,(qaK [x] a y).2.count z=_
  have hc:∀ z,(x::r).count z=r.count z+if z=x then 1 else 0:=fun z=>by
   refine substr List.count_cons ?_
   by_cases q:z=x
   ·subst q;simp
   ·refine substr (if_neg q) (substr (if_neg (by simpa using Ne.symm q)) rfl)
  have hm:x∈y↔r.count x<ys.count x:=by
   refine substr (propext List.count_pos_iff).symm (substr (h2 x) ?_);omega
  refine substr qk5 ?_
  by_cases q:x∈y
  ·refine substr (if_pos q) ?_
   refine⟨?_,fun z=>?_⟩
   ·show a=_
    refine substr qgL ?_
    refine substr (if_pos (hm.mp q)) (substr (List.append_nil ..) (substr h1 rfl))
   ·show(y.erase x).count z=_
    refine substr List.count_erase (substr (h2 ..) (substr (hc ..) ?_))
    by_cases e:z=x
    ·subst e;simp;exact qud
    ·refine substr (if_neg e) (substr (if_neg (by simpa using Ne.symm e)) ?_);exact que
  ·refine substr (if_neg q) ?_
   refine⟨?_,fun z=>?_⟩
   ·show a++[x]=_
    refine substr qgL ?_
    refine substr (if_neg (fun w=>q (hm.mpr w))) (substr h1 (substr (List.append_assoc ..) rfl))
   ·show y.count z=_
    refine substr (h2 ..) (substr (hc ..) ?_)
    by_cases e:z=x
    ·subst e
     have:¬ r.count z<ys.count z:=fun w=>q (hm.mpr w)
     refine substr (if_pos rfl) ?_;exact quf this
    ·refine substr (if_neg e) ?_;rfl
theorem qi5(ys:List Str):∀ s:List Str,(∀ z,s.count z<=ys.count z+1)->qgd s ys=((dd s).filter fun z=>decide (ys.count z<s.count z)).reverse
 | [],_=>rfl
 | x::r,h=>by
  have hc:∀ z,z≠x->(x::r).count z=r.count z:=fun z hz=>by refine substr List.count_cons (substr (if_neg (by simpa using Ne.symm hz)) ?_);rfl
  have hx:(x::r).count x=r.count x+1:=List.count_cons_self
  have hle:r.count x<=ys.count x:=by have:=h x;exact qug hx this
  have ih:=qi5 ys r fun z=>by
   by_cases q:z=x
   ·subst q;exact qjd hle
   ·refine substr (hc z q).symm ?_;exact h z
  refine substr qgL ?_
  refine substr ih ?_
  show _=(((x::wo x (dd r)).filter _)).reverse
  have e:(wo x (dd r)).filter (fun z=>decide (ys.count z<(x::r).count z))=(dd r).filter (fun z=>decide (ys.count z<r.count z)):=by
   unfold wo
   refine substr List.filter_filter ?_
   refine List.filter_congr fun z _=>?_
   by_cases q:z=x
   ·subst q;refine substr (show decide (ys.count z<r.count z)=false from decide_eq_false (quh hle)) ?_;simp
   ·refine substr (hc z q) ?_;simp[q]
  refine substr List.filter_cons (substr hx (substr e ?_))
  by_cases q:r.count x<ys.count x
  ·refine substr (if_pos q) (substr (if_neg (by simp;exact qc0 q)) (substr (List.append_nil ..) rfl))
  ·refine substr (if_neg q) (substr (if_pos (by simp;exact qui q)) (substr List.reverse_cons rfl))
theorem qra{xs ys:List Str}(h1:∀ z,xs.count z<=ys.count z+1)(h2:∀ z∈xs,ys.count z<xs.count z)(h3:∀ z,ys.count z<=xs.count z):qaK xs.reverse [] ys=((dd xs).reverse,[]):=by
 obtain⟨k1,k2⟩:=qip xs [] ys
 refine Prod.ext ?_ ?_
 ·refine substr k1 (substr (qi5 ys xs h1) (substr (List.nil_append ..) ?_))
  refine substr (List.filter_eq_self.mpr fun z hz=>decide_eq_true (h2 z (mem_dd.mp hz))) rfl
 ·refine List.eq_nil_iff_forall_not_mem.mpr fun z hz=>?_
  have:=List.count_pos_iff.mpr hz
  rw[k2] at this
  have:=h3 z
  exact quj (by assumption) this
noncomputable def bn(b:Bool):Nat:=if b=true then 1 else 0
section
variable(a b c:Str->Bool)(names:List Str)
noncomputable def OD:List Str:=names.filter a++names.filter b++names.filter c++names.filter fun x=>a x&&(b x&&c x)
noncomputable def EV:List Str:=names.filter (fun x=>a x&&b x)++names.filter (fun x=>a x&&c x)++names.filter fun x=>b x&&c x
noncomputable def foB(x:Str):Nat:=bn (a x)+bn (b x)+bn (c x)+bn (a x&&(b x&&c x))
noncomputable def feB(x:Str):Nat:=bn (a x&&b x)+bn (a x&&c x)+bn (b x&&c x)
noncomputable def P3(x:Str):List Nat:=(if a x=true then[0] else[])++(if b x=true then[1] else[])++(if c x=true then[2] else[])
noncomputable def FI:List Str:=names.filter a++names.filter (fun x=>b x&&!a x)++names.filter fun x=>c x&&(!b x&&!a x)
end
section
variable{a b c:Str->Bool}{names:List Str}
theorem qbo(x:Str):(OD a b c names).count x=foB a b c x*names.count x:=by
 unfold OD foB bn
 refine substr List.count_append (substr List.count_append (substr List.count_append (substr (qab ..) (substr (qab ..) (substr (qab ..) (substr (qab ..) (substr (Nat.add_mul ..) (substr (Nat.add_mul ..) (substr (Nat.add_mul ..) rfl)))))))))
theorem qbW(x:Str):(EV a b c names).count x=feB a b c x*names.count x:=by
 unfold EV feB bn
 refine substr List.count_append (substr List.count_append (substr (qab ..) (substr (qab ..) (substr (qab ..) (substr (Nat.add_mul ..) (substr (Nat.add_mul ..) rfl))))))
theorem fl8(h:names.length=8)(f:Str->Bool):(names.filter f).length<=8:=by refine substr h.symm ?_;exact List.length_filter_le _ _
theorem qrb(h:names.length=8):(OD a b c names).length<=32:=by
 unfold OD
 refine substr length_append (substr length_append (substr length_append ?_))
 have h1:=fl8 h a
 have h2:=fl8 h b
 have h3:=fl8 h c
 have h4:=fl8 h fun x=>a x&&(b x&&c x)
 exact quk h1 h2 h3 h4
theorem qrc(h:names.length=8):(EV a b c names).length<64:=by
 unfold EV
 refine substr length_append (substr length_append ?_)
 have h1:=fl8 h fun x=>a x&&b x
 have h2:=fl8 h fun x=>a x&&c x
 have h3:=fl8 h fun x=>b x&&c x
 exact qul h1 h2 h3
noncomputable def cat(names:List Str):Nat->List Str
 | 0=>[]
 | k+1=>names++cat names k
theorem qi6(h:names.length=8):∀(k j:Nat),j<8*k->(cat names k)[j]?=some (nmA names (j%8))
 | 0,j,hj=>by exact(qum hj).elim
 | k+1,j,hj=>by
  show(names++cat names k)[j]?=_
  by_cases q:j<8
  ·refine substr (List.getElem?_append_left (qhd h q)) (substr (Nat.mod_eq_of_lt q) ?_)
   unfold nmA
   refine substr List.getD_eq_getElem?_getD (substr (getElem?_eq_getElem (qhd h q)) ?_);rfl
  ·refine substr (List.getElem?_append_right (qun h q)) (substr h (substr (qi6 h k (j-8) (quo hj q)) ?_))
   refine substr (show(j-8)%8=j%8 by omega) rfl
theorem qiq{f g:Str->Nat}:∀ {ns:List Str},(∀ x∈ns,f x=g x)->rp f ns=rp g ns
 | [],_=>rfl
 | n::r,h=>by
  show List.replicate (f n) n++rp f r=List.replicate (g n) n++rp g r
  refine substr (h n (mem_cons_self ..)) (substr (qiq fun x hx=>h x (List.mem_cons_of_mem _ hx)) rfl)
theorem qcz{f:Str->Bool}(h:(names.filter f).length=names.length):names.filter f=names/\∀ x∈names,f x=true:=by
 have e:names.filter f=names:=List.filter_sublist.eq_of_length h
 exact⟨e,fun x hx=>by rw[<- e] at hx;exact(List.mem_filter.mp hx).2⟩
theorem qxF(h:names.length=8)(hl:(OD a b c names).length=32):(∀ j,j<64->(OD a b c names++OD a b c names)[j]?=some (nmA names (j%8)))/\rp (fun _=>8) names=rp (fun x=>2*foB a b c x) names:=by
 have hl':=hl
 unfold OD at hl'
 rw[length_append,length_append,length_append] at hl'
 have h1:=fl8 h a
 have h2:=fl8 h b
 have h3:=fl8 h c
 have h4:=fl8 h fun x=>a x&&(b x&&c x)
 obtain⟨e1,q1⟩:=qcz (names:=names) (f:=a) (qup h hl' h1 h2 h3 h4)
 obtain⟨e2,q2⟩:=qcz (names:=names) (f:=b) (quq h hl' h1 h2 h3 h4)
 obtain⟨e3,q3⟩:=qcz (names:=names) (f:=c) (qur h hl' h1 h2 h3 h4)
 obtain⟨e4,q4⟩:=qcz (names:=names) (f:=fun x=>a x&&(b x&&c x)) (qus h hl' h1 h2 h3 h4)
 refine⟨fun j hj=>?_,qiq fun x hx=>?_⟩
 ·have:OD a b c names++OD a b c names=cat names 8:=by
   unfold OD
   refine substr e1 (substr e2 (substr e3 (substr e4 ?_)))
   simp only[cat,List.append_nil,List.append_assoc]
  refine substr this ?_
  exact qi6 h 8 j (qut hj)
 ·unfold foB
  refine substr (q1 x hx) (substr (q2 x hx) (substr (q3 x hx) ?_));rfl
theorem qrd:names.filter (fun n=>decide (0<2*foB a b c n)&&decide (feB a b c n=0))=names.filter fun x=>decide ((P3 a b c x).length=1):=by
 refine List.filter_congr fun x _=>?_
 unfold foB feB P3 bn
 generalize a x=u1,b x=u2,c x=u3;revert u1 u2 u3;decide
theorem qre:names.filter (fun n=>decide (0<feB a b c n)&&decide (2*foB a b c n=0))=[]:=by
 refine List.filter_eq_nil_iff.mpr fun x _=>?_
 unfold foB feB bn
 generalize a x=u1,b x=u2,c x=u3;revert u1 u2 u3;decide
theorem qrf{x:Str}(h:x∈FI a b c names):x∈names/\(a x||(b x||c x))=true:=by
 unfold FI at h
 rcases List.mem_append.mp h with h | h
 ·rcases List.mem_append.mp h with h | h
  ·obtain⟨h1,h2⟩:=List.mem_filter.mp h
   exact⟨h1,by refine substr h2 ?_;rfl⟩
  ·obtain⟨h1,h2⟩:=List.mem_filter.mp h
   rw[Bool.and_eq_true] at h2
   exact⟨h1,by refine substr h2.1 ?_;simp⟩
 ·obtain⟨h1,h2⟩:=List.mem_filter.mp h
  rw[Bool.and_eq_true] at h2
  exact⟨h1,by refine substr h2.1 ?_;simp⟩
theorem qeD(hs:Strict names):names.Nodup:=hs.imp fun {x y} h e=>by subst e;rw[qbx] at h;cases h
theorem qoB(hs:Strict names):dd (OD a b c names)=FI a b c names:=by
 have hn:=qeD hs
 have nf:∀ f:Str->Bool,(names.filter f).Nodup:=fun f=>hn.sublist List.filter_sublist
 unfold OD FI
 refine substr (List.append_assoc ..) (substr (List.append_assoc ..) (substr (qeC (nf a)) (substr (qeC (nf b)) (substr (qeC (nf c)) (substr (qmI (nf _)) (substr (List.append_assoc ..) ?_))))))
 have mf:∀(f:Str->Bool) z,z∈names->decide (z ∉ names.filter f)=!f z:=fun f z hz=>by
  cases h:f z with
  | true=>exact decide_eq_false fun k=>k (List.mem_filter.mpr ⟨hz,h⟩)
  | false=>exact decide_eq_true fun k=>by rw[(List.mem_filter.mp k).2] at h;cases h
 have ff:∀(f g:Str->Bool),(names.filter g).filter (fun z=>decide (z ∉ names.filter f))=names.filter fun z=>g z&&!f z:=fun f g=>by
  refine substr List.filter_filter ?_
  refine List.filter_congr fun z hz=>?_
  refine substr (mf f z hz) (substr (Bool.and_comm ..) rfl)
 congr 1
 rw[ff c,List.filter_append,List.filter_append,ff a b,ff b,ff b,List.filter_append,ff a,ff a]
 congr 1
 have eT:names.filter (fun z=>a z&&(b z&&c z)&&!c z&&!b z&&!a z)=[]:=List.filter_eq_nil_iff.mpr fun x _=>by generalize a x=u1,b x=u2,c x=u3;revert u1 u2 u3;decide
 refine substr eT (substr (List.append_nil ..) ?_)
 refine List.filter_congr fun x _=>?_
 generalize a x=u1,b x=u2,c x=u3;revert u1 u2 u3;decide
theorem qg0{x:Str}:∀ {l:List Str},l.Nodup->x∈l->l.count x=1
 | y::r,h,hx=>by
  obtain⟨h1,h2⟩:=List.nodup_cons.mp h
  by_cases q:x=y
  ·subst q;refine substr List.count_cons_self (substr (List.count_eq_zero.mpr h1) rfl)
  ·refine substr List.count_cons (substr (if_neg (by simpa using Ne.symm q)) (substr (qg0 h2 ((List.mem_cons.mp hx).resolve_left q)) rfl))
theorem qeE(hs:Strict names){x:Str}(hx:x∈names):names.count x=1:=qg0 (qeD hs) hx
theorem qpH(x:Str)(h:x ∉ names):names.count x=0:=List.count_eq_zero.mpr h
noncomputable def tOf(f:Str->List Nat)(x:Str):Nat×Str×Nat:=((f x).headD 0,x,(f x).length)
theorem qxG(hs:Strict names):cdP (OD a b c names) (EV a b c names)=(FI a b c names).map fun x=>wantOf (tOf (P3 a b c) x):=by
 have mem:∀ x,x∈OD a b c names->x∈names/\0<foB a b c x:=fun x hx=>by
  have:=List.count_pos_iff.mpr hx
  rw[qbo] at this
  refine⟨?_,Nat.pos_of_mul_pos_right this⟩
  exact List.count_pos_iff.mp (Nat.pos_of_mul_pos_left this)
 have lt:∀ x,0<foB a b c x->feB a b c x<foB a b c x:=fun x=>by
  unfold foB feB bn
  generalize a x=u1,b x=u2,c x=u3;revert u1 u2 u3;decide
 have ef:∀ x,0<feB a b c x->0<foB a b c x:=fun x=>by
  unfold foB feB bn
  generalize a x=u1,b x=u2,c x=u3;revert u1 u2 u3;decide
 rw[qlw _ _ _ (Nat.le_refl _) (fun x hx=>?_) (fun y hy=>?_),qoB hs]
 ·refine List.map_congr_left fun x hx=>?_
  obtain⟨h1,h2⟩:=qrf hx
  refine substr (qbo ..) (substr (qbW ..) (substr (qeE hs h1) (substr (Nat.mul_one ..) (substr (Nat.mul_one ..) ?_))))
  unfold wantOf tOf foB feB P3 bn
  revert h2
  generalize a x=u1,b x=u2,c x=u3;cases u1<;>cases u2<;>cases u3<;>intro h2<;>first | (cases h2;done) | simp
 ·obtain⟨h1,h2⟩:=mem x hx
  refine substr (qbo ..) (substr (qbW ..) (substr (qeE hs h1) ?_))
  have:=lt x h2
  exact quu this
 ·have:=List.count_pos_iff.mpr hy
  rw[qbW] at this
  refine List.count_pos_iff.mp ?_
  refine substr (qbo ..) ?_
  exact Nat.mul_pos (ef y (Nat.pos_of_mul_pos_right this)) (Nat.pos_of_mul_pos_left this)
theorem qrg(hs:Strict names):qaK (OD a b c names).reverse [] (EV a b c names)=((FI a b c names).reverse,[]):=by
 have one:∀ z,names.count z<=1:=fun z=>by
  by_cases h:z∈names
  ·exact Nat.le_of_eq (qeE hs h)
  ·refine substr (qpH z h) ?_;decide
 have q1:∀ x,foB a b c x<=feB a b c x+1:=fun x=>by
  unfold foB feB bn
  generalize a x=u1,b x=u2,c x=u3;revert u1 u2 u3;decide
 have q2:∀ x,feB a b c x<=foB a b c x:=fun x=>by
  unfold foB feB bn
  generalize a x=u1,b x=u2,c x=u3;revert u1 u2 u3;decide
 have q3:∀ x,0<foB a b c x->feB a b c x<foB a b c x:=fun x=>by
  unfold foB feB bn
  generalize a x=u1,b x=u2,c x=u3;revert u1 u2 u3;decide
 have cz:∀ z,names.count z=0\/names.count z=1:=fun z=>by have:=one z;exact quv this
 rw[qra (fun z=>?_) (fun z hz=>?_) (fun z=>?_),qoB hs]
 ·refine substr (qbo ..) (substr (qbW ..) ?_)
  rcases cz z with h | h<;>refine substr h ?_
  ·exact quw
  ·have:=q1 z;exact qux this
 ·have:=List.count_pos_iff.mpr hz
  rw[qbo] at this
  refine substr (qbo ..) (substr (qbW ..) ?_)
  rcases cz z with h | h<;>rw[h] at this ⊢
  ·exact quy this
  ·have:=q3 z (quz this);exact quA this
 ·refine substr (qbo ..) (substr (qbW ..) ?_)
  rcases cz z with h | h<;>refine substr h ?_
  ·exact quB
  ·have:=q2 z;exact quC this
end
section
variable{a b c:Str->Bool}{names:List Str}
theorem qmJ{x y:Nat×Str×Nat}(h:x.1=y.1)(k:ltS x.2.1 y.2.1=true):leT x y:=by
 unfold leT tl
 have hne:¬ (y.2.1=x.2.1):=fun e=>by rw[e,qbx] at k;cases k
 refine substr (if_pos h.symm) (substr (if_neg hne) ?_)
 exact qex k
theorem qir{x y:Nat×Str×Nat}(h:x.1<y.1):leT x y:=by
 unfold leT tl
 refine substr (if_neg (by exact quD h)) ?_
 exact decide_eq_false (by exact qnF h)
theorem qmK(x:Str):(FI a b c names).count x=(if (a x||(b x||c x))=true then 1 else 0)*names.count x:=by
 unfold FI
 refine substr List.count_append (substr List.count_append (substr (qab ..) (substr (qab ..) (substr (qab ..) ?_))))
 generalize a x=u1,b x=u2,c x=u3;cases u1<;>cases u2<;>cases u3<;>simp
theorem qoC(hs:Strict names){ts:List (Nat×Str×Nat)}(hp:ts.Perm (toldOf (P3 a b c) names))(hw:ts.Pairwise leT):ts=(FI a b c names).map (tOf (P3 a b c)):=by
 refine qlf (hp.trans ?_) hw ?_
 ·show((names.filter fun x=>decide (P3 a b c x≠[])).map (tOf (P3 a b c))).Perm _
  refine List.Perm.map _ (List.perm_iff_count.mpr fun x=>?_)
  refine substr (qmK ..) (substr (qab ..) ?_)
  congr 1
  unfold P3
  generalize a x=u1,b x=u2,c x=u3;revert u1 u2 u3;decide
 ·refine substr (propext List.pairwise_map) ?_
  have h0:∀ f:Str->Bool,∀ g:Str->Nat,(∀ x,f x=true->((P3 a b c x).headD 0)=g x)->(∀ x y,g x=g y)->(names.filter f).Pairwise fun x y=>leT (tOf (P3 a b c) x) (tOf (P3 a b c) y):=fun f g hg hc=>by
   refine(List.pairwise_iff_forall_sublist.mpr fun {x y} hxy=>?_)
   have hx:x∈names.filter f:=hxy.subset (by simp)
   have hy:y∈names.filter f:=hxy.subset (by simp)
   have hlt:ltS x y=true:=(List.pairwise_iff_forall_sublist.mp hs) (hxy.trans List.filter_sublist)
   refine qmJ ?_ hlt
   show(P3 a b c x).headD 0=(P3 a b c y).headD 0
   refine substr (hg x (List.mem_filter.mp hx).2) (substr (hg y (List.mem_filter.mp hy).2) (substr (hc x y) rfl))
  have ha:∀ x,a x=true->(P3 a b c x).headD 0=0:=fun x h=>by unfold P3;refine substr h ?_;rfl
  have hb:∀ x,(b x&&!a x)=true->(P3 a b c x).headD 0=1:=fun x h=>by
   unfold P3
   revert h
   generalize a x=u1,b x=u2,c x=u3;revert u1 u2 u3;decide
  have hc:∀ x,(c x&&(!b x&&!a x))=true->(P3 a b c x).headD 0=2:=fun x h=>by
   unfold P3
   revert h
   generalize a x=u1,b x=u2,c x=u3;revert u1 u2 u3;decide
  have m:∀ {f:Str->Bool} {x},x∈names.filter f->f x=true:=fun h=>(List.mem_filter.mp h).2
  unfold FI
  refine List.pairwise_append.mpr (iAA (List.pairwise_append.mpr (iAA (h0 _ (fun _=>0) ha fun _ _=>rfl) (h0 _ (fun _=>1) hb fun _ _=>rfl) (fun x hx y hy=>?_))) (h0 _ (fun _=>2) hc fun _ _=>rfl) (fun x hx y hy=>?_))
  ·refine qir ?_
   show(P3 a b c x).headD 0<(P3 a b c y).headD 0
   refine substr (ha x (m hx)) (substr (hb y (m hy)) ?_);decide
  ·refine qir ?_
   show(P3 a b c x).headD 0<(P3 a b c y).headD 0
   refine substr (hc y (m hy)) ?_
   rcases List.mem_append.mp hx with h | h
   ·refine substr (ha x (m h)) ?_;decide
   ·refine substr (hb x (m h)) ?_;decide
end
theorem qxH(f:Nat->Bool):(List.range 3).filter f=(if f 0=true then[0] else[])++(if f 1=true then[1] else[])++(if f 2=true then[2] else[]):=by
 show[0,1,2].filter f=_
 simp only[List.filter_cons,List.filter_nil]
 generalize f 0=u1,f 1=u2,f 2=u3;revert u1 u2 u3;decide
noncomputable def uR(rows:List Str)(p:Nat)(x:Str):Bool:=und (rows.getD p emp) x
theorem qxI{rows:List Str}(h:rows.length=3):plP rows=P3 (uR rows 0) (uR rows 1) (uR rows 2):=by
 funext x
 unfold plP
 refine substr h (substr (qxH ..) ?_);rfl
theorem qmL:qT 1=[0]/\qT 2=[1]/\qT 3=[0,1]/\qT 4=[2]/\qT 5=[0,2]/\qT 6=[1,2]/\qT 7=[0,1,2]:=by decide
theorem qrh(g:Nat->Str->Bool)(names:List Str):qbg g names 7=names.filter (g 1)++names.filter (g 2)++names.filter (g 4)++names.filter (g 7):=by rfl
theorem qpI(g:Nat->Str->Bool)(names:List Str):qa1 g names 7=names.filter (g 3)++names.filter (g 5)++names.filter (g 6):=by rfl
theorem qxJ(g:Nat->Str->Bool)(x:Str):chG g 7 x=xor (xor (xor (xor (xor (xor (xor false (g 1 x)) (g 2 x)) (g 3 x)) (g 4 x)) (g 5 x)) (g 6 x)) (g 7 x):=by rfl
theorem qxK(g:Nat->Str->Bool)(x:Str):siG g 7 x=xor (xor (xor false (g 1 x)) (g 2 x)) (g 4 x):=by rfl
theorem qmM{sg:Str}{cells:List Nat}{rows names:List Str}(ok:qb3 sg)(h3:rows.length=3)(hr:∀ r∈rows,qbF sg r)(hp:names.Perm (qcv sg))(hso:sortedS names=true):
 Facts cells rows names (foB (uR rows 0) (uR rows 1) (uR rows 2)) (feB (uR rows 0) (uR rows 1) (uR rows 2)):=by
 have st:=qlv hp hso ok.nd ok.til
 have hs:Strict names:=st.ns
 have l8:names.length=8:=by refine substr hp.length_eq ?_;rfl
 have hrd:∀ p,p<3->qbF sg (rows.getD p emp):=fun p hp'=>by
  refine substr List.getD_eq_getElem?_getD (substr (getElem?_eq_getElem (by exact qjk h3 hp')) ?_)
  exact hr _ (List.getElem_mem ..)
 have hm:∀ x∈names,x∈qcv sg:=fun x hx=>hp.mem_iff.mp hx
 refine qoD qmL fun v1 v2 v3 v4 v5 v6 v7=>?_
 have g:=fun(c:Nat) (x:Str) (hx:x∈names)=>qq9 (cells:=cells) ok hrd (c:=c) (hm x hx)
 have g1:∀ x∈names,gP rows cells 1 x=uR rows 0 x:=fun x hx=>by refine substr (g 1 x hx) (substr v1 ?_);exact Bool.and_true _
 have g2:∀ x∈names,gP rows cells 2 x=uR rows 1 x:=fun x hx=>by refine substr (g 2 x hx) (substr v2 ?_);exact Bool.and_true _
 have g3:∀ x∈names,gP rows cells 3 x=(uR rows 0 x&&uR rows 1 x):=fun x hx=>by refine substr (g 3 x hx) (substr v3 ?_);simp[uR]
 have g4:∀ x∈names,gP rows cells 4 x=uR rows 2 x:=fun x hx=>by refine substr (g 4 x hx) (substr v4 ?_);exact Bool.and_true _
 have g5:∀ x∈names,gP rows cells 5 x=(uR rows 0 x&&uR rows 2 x):=fun x hx=>by refine substr (g 5 x hx) (substr v5 ?_);simp[uR]
 have g6:∀ x∈names,gP rows cells 6 x=(uR rows 1 x&&uR rows 2 x):=fun x hx=>by refine substr (g 6 x hx) (substr v6 ?_);simp[uR]
 have g7:∀ x∈names,gP rows cells 7 x=(uR rows 0 x&&(uR rows 1 x&&uR rows 2 x)):=fun x hx=>by refine substr (g 7 x hx) (substr v7 ?_);simp[uR]
 have hod:qbg (gP rows cells) names 7=OD (uR rows 0) (uR rows 1) (uR rows 2) names:=by
  refine substr (qrh ..) (substr (List.filter_congr g1) (substr (List.filter_congr g2) (substr (List.filter_congr g4) (substr (List.filter_congr g7) ?_))));rfl
 have hev:qa1 (gP rows cells) names 7=EV (uR rows 0) (uR rows 1) (uR rows 2) names:=by
  refine substr (qpI ..) (substr (List.filter_congr g3) (substr (List.filter_congr g5) (substr (List.filter_congr g6) ?_)));rfl
 have hpl:=qxI h3
 have n3:∀ x∈names,x.length=3:=fun x hx=>by
  (refine qd9 (qin (hm x hx)) fun _ _ _ e3'=>?_;obtain rfl:=e3');rfl
 refine⟨l8,st,fun x hx=>?_,fun x hx=>?_,fun x hx=>ok.ns x (hm x hx),fun r hr' m _ x hx=>qmG ok (hr r hr') hx,fun c _ _ hne=>qxE ok hrd hne,?_,?_,?_,?_,?_,?_,?_,?_,?_,?_,?_⟩
 ·refine substr (qi3 (hr x hx)) ?_;decide
 ·refine substr (n3 x hx) ?_;decide
 ·refine List.filter_congr fun x hx=>?_
  rw[qxJ,g1 x hx,g2 x hx,g3 x hx,g4 x hx,g5 x hx,g6 x hx,g7 x hx,hpl]
  unfold P3
  generalize uR rows 0 x=u1,uR rows 1 x=u2,uR rows 2 x=u3;revert u1 u2 u3;decide
 ·refine List.filter_congr fun x hx=>?_
  rw[qxK,g1 x hx,g2 x hx,g4 x hx,hpl]
  unfold P3
  generalize uR rows 0 x=u1,uR rows 1 x=u2,uR rows 2 x=u3;revert u1 u2 u3;decide
 ·rw[hod];exact qbo
 ·rw[hev];exact qbW
 ·rw[hod];exact qrb l8
 ·rw[hev];exact qrc l8
 ·rw[hod];exact qxF l8
 ·rw[hpl];exact qrd
 ·exact qre
 ·intro ts h1 h2
  rw[hpl] at h1
  rw[hod,hev,qxG hs,qoC hs h1 h2,map_map];rfl
 ·intro ts h1 h2
  rw[hpl] at h1
  rw[hod,hev,qrg hs,qoC hs h1 h2,map_map,map_map]
  congr 2
  exact(List.map_id _).symm
theorem qi7(cells:List Nat):∃ i,i<18/\sgP cells=qX i 2:=(iEA _ (Nat.mod_lt _ (by decide)) (qls _))
theorem qri(hN:∀ i,i<18->qbh (qX i 2)=true)(hI:∀ i,i<18->∀ x,x<3->qU i x=true):∀ i,i<18->qb3 (qX i 2):=fun i hi=>qlt (hN i hi) fun x y z hx hy hz=>qq7 (qq7 (hI i hi x hx) hy) hz
theorem qxL(so:∀ i,i<18->qb3 (qX i 2))(is:List Int):(sgP (qah is)).length=2:=by
 refine oEA (qi7 (qah is)) fun i hi e=>?_
 refine substr e ?_;exact(so i hi).len
theorem qxM(so:∀ i,i<18->qb3 (qX i 2))(is:List Int)(names:List Str)(hp:names.Perm ((List.range 8).map (nameP (sgP (qah is)))))(hso:sortedS names=true):∃ fo fe,Facts (qah is) ((qah is).map (qd0 (sgP (qah is)))) names fo fe:=by
 refine oEA (qi7 (qah is)) fun i hi e=>?_
 rw[e] at hp ⊢
 exact(iEE _ _ (qmM (so i hi) (by rw[length_map];exact qf7 is) (fun r hr=>by
  (refine oEA (List.mem_map.mp hr) fun c _ e2'=>?_;obtain rfl:=e2')
  exact qq8 c) hp hso))
noncomputable def Bel(P:Nat->Prop):Nat->Prop
 | 0=>True
 | n+1=>Bel P n/\P n
theorem bel{P:Nat->Prop}:∀ {n:Nat},Bel P n->∀ i,i<n->P i
 | n+1,h,i,hi=>(Nat.lt_or_ge i n).elim (bel h.1 i) fun hg=>Nat.le_antisymm (Nat.le_of_lt_succ hi) hg▸h.2
theorem kN0:qbh (qX 0 2)=true:=by decide +kernel
theorem kN1:qbh (qX 1 2)=true:=by decide +kernel
theorem kN2:qbh (qX 2 2)=true:=by decide +kernel
theorem kN3:qbh (qX 3 2)=true:=by decide +kernel
theorem kN4:qbh (qX 4 2)=true:=by decide +kernel
theorem kN5:qbh (qX 5 2)=true:=by decide +kernel
theorem kN6:qbh (qX 6 2)=true:=by decide +kernel
theorem kN7:qbh (qX 7 2)=true:=by decide +kernel
theorem kN8:qbh (qX 8 2)=true:=by decide +kernel
theorem kN9:qbh (qX 9 2)=true:=by decide +kernel
theorem qzG:qbh (qX 10 2)=true:=by decide +kernel
theorem qzH:qbh (qX 11 2)=true:=by decide +kernel
theorem qzI:qbh (qX 12 2)=true:=by decide +kernel
theorem qzJ:qbh (qX 13 2)=true:=by decide +kernel
theorem qzK:qbh (qX 14 2)=true:=by decide +kernel
theorem qzL:qbh (qX 15 2)=true:=by decide +kernel
theorem qzM:qbh (qX 16 2)=true:=by decide +kernel
theorem qzN:qbh (qX 17 2)=true:=by decide +kernel
theorem qxN:qU 0 0=true:=by decide +kernel
theorem qxO:qU 0 1=true:=by decide +kernel
theorem qxP:qU 0 2=true:=by decide +kernel
theorem qxQ:qU 1 0=true:=by decide +kernel
theorem qxR:qU 1 1=true:=by decide +kernel
theorem qxS:qU 1 2=true:=by decide +kernel
theorem qxT:qU 2 0=true:=by decide +kernel
theorem qxU:qU 2 1=true:=by decide +kernel
theorem qxV:qU 2 2=true:=by decide +kernel
theorem qxW:qU 3 0=true:=by decide +kernel
theorem qxX:qU 3 1=true:=by decide +kernel
theorem qxY:qU 3 2=true:=by decide +kernel
theorem qxZ:qU 4 0=true:=by decide +kernel
theorem qx0:qU 4 1=true:=by decide +kernel
theorem qx1:qU 4 2=true:=by decide +kernel
theorem qx2:qU 5 0=true:=by decide +kernel
theorem qx3:qU 5 1=true:=by decide +kernel
theorem qx4:qU 5 2=true:=by decide +kernel
theorem qx5:qU 6 0=true:=by decide +kernel
theorem qx6:qU 6 1=true:=by decide +kernel
theorem qx7:qU 6 2=true:=by decide +kernel
theorem qx8:qU 7 0=true:=by decide +kernel
theorem qx9:qU 7 1=true:=by decide +kernel
theorem qya:qU 7 2=true:=by decide +kernel
theorem qyb:qU 8 0=true:=by decide +kernel
theorem qyc:qU 8 1=true:=by decide +kernel
theorem qyd:qU 8 2=true:=by decide +kernel
theorem qye:qU 9 0=true:=by decide +kernel
theorem qyf:qU 9 1=true:=by decide +kernel
theorem qyg:qU 9 2=true:=by decide +kernel
theorem qrj:qU 10 0=true:=by decide +kernel
theorem qrk:qU 10 1=true:=by decide +kernel
theorem qrl:qU 10 2=true:=by decide +kernel
theorem qrm:qU 11 0=true:=by decide +kernel
theorem qrn:qU 11 1=true:=by decide +kernel
theorem qro:qU 11 2=true:=by decide +kernel
theorem qrp:qU 12 0=true:=by decide +kernel
theorem qrq:qU 12 1=true:=by decide +kernel
theorem qrr:qU 12 2=true:=by decide +kernel
theorem qrs:qU 13 0=true:=by decide +kernel
theorem qrt:qU 13 1=true:=by decide +kernel
theorem qru:qU 13 2=true:=by decide +kernel
theorem qrv:qU 14 0=true:=by decide +kernel
theorem qrw:qU 14 1=true:=by decide +kernel
theorem qrx:qU 14 2=true:=by decide +kernel
theorem qry:qU 15 0=true:=by decide +kernel
theorem qrz:qU 15 1=true:=by decide +kernel
theorem qrA:qU 15 2=true:=by decide +kernel
theorem qrB:qU 16 0=true:=by decide +kernel
theorem qrC:qU 16 1=true:=by decide +kernel
theorem qrD:qU 16 2=true:=by decide +kernel
theorem qrE:qU 17 0=true:=by decide +kernel
theorem qrF:qU 17 1=true:=by decide +kernel
theorem qrG:qU 17 2=true:=by decide +kernel
theorem qlx:∀ i,i<18->qb3 (qX i 2):=
 qri (bel (n:=18) (P:=fun i=>qbh (qX i 2)=true) ⟨⟨⟨⟨⟨⟨⟨⟨⟨⟨⟨⟨⟨⟨⟨⟨⟨⟨trivial,kN0⟩,kN1⟩,kN2⟩,kN3⟩,kN4⟩,kN5⟩,kN6⟩,kN7⟩,kN8⟩,kN9⟩,qzG⟩,qzH⟩,qzI⟩,qzJ⟩,qzK⟩,qzL⟩,qzM⟩,qzN⟩)
  (bel (n:=18) (P:=fun i=>∀ x,x<3->qU i x=true) ⟨⟨⟨⟨⟨⟨⟨⟨⟨⟨⟨⟨⟨⟨⟨⟨⟨⟨trivial,bel ⟨⟨⟨trivial,qxN⟩,qxO⟩,qxP⟩⟩,bel ⟨⟨⟨trivial,qxQ⟩,qxR⟩,qxS⟩⟩,bel ⟨⟨⟨trivial,qxT⟩,qxU⟩,qxV⟩⟩,bel ⟨⟨⟨trivial,qxW⟩,qxX⟩,qxY⟩⟩,bel ⟨⟨⟨trivial,qxZ⟩,qx0⟩,qx1⟩⟩,bel ⟨⟨⟨trivial,qx2⟩,qx3⟩,qx4⟩⟩,bel ⟨⟨⟨trivial,qx5⟩,qx6⟩,qx7⟩⟩,bel ⟨⟨⟨trivial,qx8⟩,qx9⟩,qya⟩⟩,bel ⟨⟨⟨trivial,qyb⟩,qyc⟩,qyd⟩⟩,bel ⟨⟨⟨trivial,qye⟩,qyf⟩,qyg⟩⟩,bel ⟨⟨⟨trivial,qrj⟩,qrk⟩,qrl⟩⟩,bel ⟨⟨⟨trivial,qrm⟩,qrn⟩,qro⟩⟩,bel ⟨⟨⟨trivial,qrp⟩,qrq⟩,qrr⟩⟩,bel ⟨⟨⟨trivial,qrs⟩,qrt⟩,qru⟩⟩,bel ⟨⟨⟨trivial,qrv⟩,qrw⟩,qrx⟩⟩,bel ⟨⟨⟨trivial,qry⟩,qrz⟩,qrA⟩⟩,bel ⟨⟨⟨trivial,qrB⟩,qrC⟩,qrD⟩⟩,bel ⟨⟨⟨trivial,qrE⟩,qrF⟩,qrG⟩⟩)
section
set_option Elab.async false
set_option tactic.hygienic true
noncomputable def AllIn(K:Frag):Frag->Prop
 | []=>True
 | p::t=>K.lookup p.1=some p.2/\AllIn K t
theorem kf_in{K:Frag}{h:Heap}(X:K.In h):∀ {K':Frag},AllIn K K'->K'.In h
 | [],_=>fun a o e=>nomatch e
 | p::t,⟨e1,e2⟩=>fun a o e=>by
  rw[List.lookup_cons] at e
  split at e
  ·rename_i q
   cases e
   rw[eq_of_beq q]
   exact X _ _ e1
  ·exact kf_in X e2 a o e
namespace hd1
theorem tw3191381729235784981:0=0:=rfl
theorem tw4086086376619605135:0=0:=rfl
theorem tw8626381036101514767:0=0:=rfl
theorem tw1484781129738979912:0=0:=rfl
theorem tw16650832366258178549:0=0:=rfl
theorem tw16840228243540606509:0=0:=rfl
theorem tw2959831663663325226:0=0:=rfl
theorem tw6330836371028820707:0=0:=rfl
theorem tw925455524096654728:0=0:=rfl
theorem tw537002190007572441:0=0:=rfl
theorem tw6670969005617463830:0=0:=rfl
theorem tw2374417684205958614:0=0:=rfl
theorem tw14582101390692679645:0=0:=rfl
theorem tw854248560453754308:0=0:=rfl
theorem tw5218349642967262791:0=0:=rfl
theorem tw9941369098064262265:0=0:=rfl
theorem tw15118222676993535980:0=0:=rfl
theorem tw9223151423020971987:0=0:=rfl
theorem tw1765404437049439963:0=0:=rfl
theorem tw13128932077082893692:0=0:=rfl
theorem tw13583229147706037701:0=0:=rfl
theorem tw764743825459228435:0=0:=rfl
theorem tw7841633892405797194:0=0:=rfl
theorem tw3218797117977602775:0=0:=rfl
theorem tw3337382798935486575:0=0:=rfl
theorem tw7892337272836252221:0=0:=rfl
theorem tw16186174574920257623:0=0:=rfl
theorem tw11072332280452107873:0=0:=rfl
theorem tw653500344624238036:0=0:=rfl
theorem tw171739038819421201:0=0:=rfl
theorem tw11085651044870281827:0=0:=rfl
theorem tw7855087194093072589:0=0:=rfl
theorem tw9507857226258147953:0=0:=rfl
theorem tw182420021593846960:0=0:=rfl
theorem tw7175010419093857757:0=0:=rfl
theorem tw8079893763966621195:0=0:=rfl
theorem tw5225363102262395915:0=0:=rfl
theorem tw4272728018218156691:0=0:=rfl
theorem tw3344717175671386141:0=0:=rfl
theorem tw6185010501481489848:0=0:=rfl
theorem tw17727778823239604131:0=0:=rfl
theorem tw168286879363250271:0=0:=rfl
theorem tw18309547283545053319:0=0:=rfl
theorem tw10234837602342602661:0=0:=rfl
theorem tw4863333110396885016:0=0:=rfl
theorem tw10297167170466133192:0=0:=rfl
theorem tw8261609543595068703:0=0:=rfl
theorem tw12823105271618385472:0=0:=rfl
theorem tw5093201182074696760:0=0:=rfl
theorem tw11864633429350504461:0=0:=rfl
theorem tw9178905753584819385:0=0:=rfl
theorem tw11829470795990026913:0=0:=rfl
theorem tw11300281175528212300:0=0:=rfl
theorem tw768367795782103253:0=0:=rfl
theorem tw14471576956257213872:0=0:=rfl
theorem tw6131995805079208074:0=0:=rfl
theorem tw6628376180909713339:0=0:=rfl
theorem tw17238880981622594036:0=0:=rfl
theorem tw2946530315297714824:0=0:=rfl
theorem tw4576695263573992903:0=0:=rfl
theorem tw15819613355401244908:0=0:=rfl
theorem tw14687807220878772671:0=0:=rfl
theorem tw18312855696570544097:0=0:=rfl
theorem tw4557649837304970399:0=0:=rfl
theorem tw15859176079355207394:0=0:=rfl
theorem tw7269482589347824076:0=0:=rfl
theorem tw11409786429011743065:0=0:=rfl
theorem tw1773430885012702104:0=0:=rfl
theorem tw13723444471205131577:0=0:=rfl
theorem tw17031210902285631610:0=0:=rfl
theorem tw16732514194513289089:0=0:=rfl
theorem tw16504156447894922694:0=0:=rfl
theorem tw13568160947715714896:0=0:=rfl
theorem tw1117175830116628944:0=0:=rfl
theorem tw8446680965565879244:0=0:=rfl
theorem tw1445795673000212332:0=0:=rfl
theorem tw7351242549983844471:0=0:=rfl
theorem tw8822810814059822395:0=0:=rfl
theorem tw6379131535691634451:0=0:=rfl
theorem tw15535730069458728833:0=0:=rfl
theorem tw3909895745701242457:0=0:=rfl
theorem tw7347129576778932244:0=0:=rfl
theorem tw4154939412740954478:0=0:=rfl
theorem tw6590884840744599252:0=0:=rfl
theorem tw16287689955150511984:0=0:=rfl
theorem tw3927152944575126974:0=0:=rfl
theorem tw16306128556320469528:0=0:=rfl
theorem tw14011137922964698352:0=0:=rfl
theorem tw10473903147847226056:0=0:=rfl
theorem tw15747492875901738194:0=0:=rfl
theorem tw10561972591422044775:0=0:=rfl
theorem tw3990640514703076710:0=0:=rfl
theorem tw2801264983733388979:0=0:=rfl
theorem tw15675178766610292353:0=0:=rfl
theorem tw17398203663945988208:0=0:=rfl
theorem tw17101630626373504499:0=0:=rfl
theorem tw4018492584024114293:0=0:=rfl
theorem tw17705321265527564325:0=0:=rfl
theorem tw4923933505645490834:0=0:=rfl
theorem tw10700220127634670077:0=0:=rfl
theorem tw7091960353978150725:0=0:=rfl
theorem tw14252812257507569475:0=0:=rfl
theorem tw9891423857263708744:0=0:=rfl
theorem tw9404666407337835870:0=0:=rfl
theorem tw6710518367048746808:0=0:=rfl
theorem tw8554403050231663970:0=0:=rfl
theorem tw1350214679653711843:0=0:=rfl
theorem tw13887915953586862633:0=0:=rfl
theorem tw1903553208499528699:0=0:=rfl
theorem tw14398095550649337470:0=0:=rfl
theorem tw6017422695983744721:0=0:=rfl
theorem tw8950131305491959409:0=0:=rfl
theorem tw194996099536785718:0=0:=rfl
theorem tw1460469024134179195:0=0:=rfl
theorem tw10076682158830856829:0=0:=rfl
theorem tw6480295302920615516:0=0:=rfl
theorem tw10820274440451682507:0=0:=rfl
theorem tw17108995944464006505:0=0:=rfl
theorem tw11641965594154665699:0=0:=rfl
theorem tw8812050181727419407:0=0:=rfl
theorem tw7184969450910814017:0=0:=rfl
theorem tw7723042764694017786:0=0:=rfl
theorem tw18227652438565928561:0=0:=rfl
theorem tw10531742767082501842:0=0:=rfl
theorem tw1249825211684208046:0=0:=rfl
theorem tw2222716709307786116:0=0:=rfl
theorem tw962022446017897790:0=0:=rfl
theorem tw11142710988628862272:0=0:=rfl
theorem tw4639686281658940113:0=0:=rfl
theorem tw210260904840191358:0=0:=rfl
theorem tw5787521803840594869:0=0:=rfl
theorem tw9194154633654548310:0=0:=rfl
theorem tw4884983951705482328:0=0:=rfl
theorem tw13271950798746650856:0=0:=rfl
theorem tw10134090516017400937:0=0:=rfl
theorem tw2323413284153139981:0=0:=rfl
theorem tw5258307464466348872:0=0:=rfl
theorem tw11901178051882076226:0=0:=rfl
theorem tw10144987460670166035:0=0:=rfl
theorem tw5476648514312569823:0=0:=rfl
theorem tw466159341872410442:0=0:=rfl
theorem tw10765766427358263052:0=0:=rfl
theorem tw15644342355448919065:0=0:=rfl
theorem tw5161873937053049608:0=0:=rfl
theorem tw14888681892930032729:0=0:=rfl
theorem tw13823016479905136447:0=0:=rfl
theorem tw5203880538110798832:0=0:=rfl
theorem tw12542268594579439618:0=0:=rfl
theorem tw8870756991148732165:0=0:=rfl
theorem tw121613212654823039:0=0:=rfl
theorem tw6073334317717499053:0=0:=rfl
theorem tw13114783291098815554:0=0:=rfl
theorem tw10573791669326748125:0=0:=rfl
theorem tw1223989326309525605:0=0:=rfl
theorem tw5639840757252238823:0=0:=rfl
theorem tw4207769371624928032:0=0:=rfl
theorem tw838120781490299603:0=0:=rfl
theorem tw858041670754141754:0=0:=rfl
theorem tw13266498950805814637:0=0:=rfl
theorem tw4639107617205185495:0=0:=rfl
theorem tw1688263611210575367:0=0:=rfl
theorem tw177290521635571894:0=0:=rfl
theorem tw16720470747101719882:0=0:=rfl
theorem tw14586059867242780950:0=0:=rfl
theorem tw5471606172386490159:0=0:=rfl
theorem tw4588320892244365729:0=0:=rfl
theorem tw597393055563490979:0=0:=rfl
theorem tw15296254770460015583:0=0:=rfl
theorem tw12138335491307248288:0=0:=rfl
theorem tw7433779958769928529:0=0:=rfl
theorem tw10724801185292692935:0=0:=rfl
theorem tw3079589803360923938:0=0:=rfl
theorem tw5396625778321767378:0=0:=rfl
theorem tw7168107392325884624:0=0:=rfl
theorem tw17584117640369360565:0=0:=rfl
theorem tw3574917266314510510:0=0:=rfl
theorem tw2625946525778736496:0=0:=rfl
theorem tw15814337705471456161:0=0:=rfl
theorem tw16030191696836735385:0=0:=rfl
theorem tw10650984629300981989:0=0:=rfl
theorem tw4872712445411429129:0=0:=rfl
theorem tw3073534484378469675:0=0:=rfl
theorem tw2914403869835032139:0=0:=rfl
theorem tw2265354207573026128:0=0:=rfl
theorem tw14963253518048370:0=0:=rfl
theorem tw14416307740304488756:0=0:=rfl
theorem tw11092302832771994697:0=0:=rfl
theorem tw17050203014517851176:0=0:=rfl
theorem tw1288221119114394522:0=0:=rfl
theorem tw3577877140213641605:0=0:=rfl
theorem tw13823416277161658840:0=0:=rfl
theorem tw3087731595549485085:0=0:=rfl
theorem tw5156043985427674254:0=0:=rfl
theorem tw71195429810976048:0=0:=rfl
theorem tw3365818958329656131:0=0:=rfl
theorem tw1246893936170120422:0=0:=rfl
theorem tw9136850289021815647:0=0:=rfl
theorem tw3084328530403782026:0=0:=rfl
theorem tw3652786490577305660:0=0:=rfl
theorem tw12847032419770150049:0=0:=rfl
theorem tw2088134816744822824:0=0:=rfl
theorem tw10491893094424263701:0=0:=rfl
theorem tw12465144768464929370:0=0:=rfl
theorem tw11378608031656851165:0=0:=rfl
theorem tw1273491169535094953:0=0:=rfl
theorem tw7821715371302368064:0=0:=rfl
theorem tw10864103299417093280:0=0:=rfl
theorem tw5656153422853955493:0=0:=rfl
theorem tw17449584201812072848:0=0:=rfl
theorem tw8170644531034959647:0=0:=rfl
theorem tw5865070894055973056:0=0:=rfl
theorem tw7794109029900032020:0=0:=rfl
theorem tw5551525266095413032:0=0:=rfl
theorem tw9953564973139745608:0=0:=rfl
theorem tw1660649250092318135:0=0:=rfl
theorem tw12463880285547050369:0=0:=rfl
theorem tw1956036773330564333:0=0:=rfl
theorem tw15167611178512965357:0=0:=rfl
theorem tw6668516419338058186:0=0:=rfl
theorem tw4001813550638548945:0=0:=rfl
theorem tw7128178850242308145:0=0:=rfl
theorem tw6305477527101071121:0=0:=rfl
theorem tw111168005277433021:0=0:=rfl
theorem tw5528719629094430642:0=0:=rfl
theorem tw8667354244190541383:0=0:=rfl
theorem tw18359709495069703854:0=0:=rfl
theorem tw2481534461750552771:0=0:=rfl
theorem tw3346475721458902818:0=0:=rfl
theorem tw17410596723798510473:0=0:=rfl
theorem tw17674769751215119814:0=0:=rfl
theorem tw7915504906245089691:0=0:=rfl
theorem tw14513576803566825748:0=0:=rfl
theorem tw1361454829774596367:0=0:=rfl
theorem tw2616844283238625912:0=0:=rfl
theorem tw11728685681401375494:0=0:=rfl
theorem tw16077422013827797515:0=0:=rfl
theorem tw8828191528000094977:0=0:=rfl
theorem tw10290450856755731643:0=0:=rfl
theorem tw13565567671222570535:0=0:=rfl
theorem tw10794308640388061838:0=0:=rfl
theorem tw8956442991890726818:0=0:=rfl
theorem tw17629313248287530339:0=0:=rfl
theorem tw1867266066108740716:0=0:=rfl
theorem tw7610408013665375615:0=0:=rfl
theorem tw7855123226024141942:0=0:=rfl
theorem tw7623500198662771453:0=0:=rfl
theorem tw2513263071835253464:0=0:=rfl
theorem tw3290497923875548456:0=0:=rfl
theorem tw4150424550135561728:0=0:=rfl
theorem tw2261345848860794522:0=0:=rfl
theorem tw13666696161922160210:0=0:=rfl
theorem tw7683691486728802568:0=0:=rfl
theorem tw2085229428552649084:0=0:=rfl
theorem tw7483665479281673633:0=0:=rfl
theorem tw16821161934679037718:0=0:=rfl
theorem tw17663744896399173813:0=0:=rfl
theorem tw11159448707709257371:0=0:=rfl
theorem tw2268396669145760834:0=0:=rfl
theorem tw15510164846609261243:0=0:=rfl
theorem tw11523275596954794459:0=0:=rfl
theorem tw4198391554402197954:0=0:=rfl
theorem tw2512493077844298783:0=0:=rfl
theorem tw5967051512472347510:0=0:=rfl
theorem tw15706030680359746093:0=0:=rfl
theorem tw3979381131807228182:0=0:=rfl
theorem tw9205010320652304821:0=0:=rfl
theorem tw5689491472406848792:0=0:=rfl
theorem tw5641025344850763797:0=0:=rfl
theorem tw4567606150844220598:0=0:=rfl
theorem tw2059672146391074048:0=0:=rfl
theorem tw15791864978358214205:0=0:=rfl
theorem tw11817629393507298427:0=0:=rfl
theorem tw10242399470473170012:0=0:=rfl
theorem tw10144237646914830980:0=0:=rfl
theorem tw16913040348232885418:0=0:=rfl
theorem tw8938730842644009234:0=0:=rfl
theorem tw5314050555013489588:0=0:=rfl
theorem tw17542053343130541426:0=0:=rfl
theorem tw13276058216820339234:0=0:=rfl
theorem tw16318424681510585870:0=0:=rfl
theorem tw12070379700321858034:0=0:=rfl
theorem tw9656552640031312617:0=0:=rfl
theorem tw9178847756714891853:0=0:=rfl
theorem tw2301202535275842693:0=0:=rfl
theorem tw15397078942084158553:0=0:=rfl
theorem tw14568493813955322142:0=0:=rfl
theorem tw1814818715122009724:0=0:=rfl
theorem tw4043401122150412000:0=0:=rfl
theorem tw7004942789874552620:0=0:=rfl
theorem tw1919824005500916666:0=0:=rfl
theorem tw16890258532806306508:0=0:=rfl
theorem tw6063318762767063493:0=0:=rfl
theorem tw12785677980147168601:0=0:=rfl
theorem tw9550935655531503971:0=0:=rfl
theorem tw9964224384241814600:0=0:=rfl
theorem tw10086727992874484410:0=0:=rfl
theorem tw18382150699262367533:0=0:=rfl
theorem tw1853746065191597552:0=0:=rfl
theorem tw17218145132875897575:0=0:=rfl
theorem tw18034305138629300239:0=0:=rfl
theorem tw10156199773854934235:0=0:=rfl
theorem tw10848080981529063793:0=0:=rfl
theorem tw9525304095897062524:0=0:=rfl
theorem tw11469913303993639839:0=0:=rfl
theorem tw5379093303929843241:0=0:=rfl
theorem tw17175752415169365825:0=0:=rfl
theorem tw17297984098155474702:0=0:=rfl
theorem tw16791109837119264035:0=0:=rfl
theorem tw12928250266223933287:0=0:=rfl
theorem tw6740007077494436468:0=0:=rfl
theorem tw1415532531148760997:0=0:=rfl
theorem tw14649824945515725927:0=0:=rfl
theorem tw10412776863786804143:0=0:=rfl
theorem tw13417680349663075716:0=0:=rfl
theorem tw11616630549976190935:0=0:=rfl
theorem tw18365155063453446132:0=0:=rfl
theorem tw8234543035352300146:0=0:=rfl
theorem tw3984511333461951867:0=0:=rfl
theorem tw2950503374022526182:0=0:=rfl
end hd1
set_option Elab.async true
theorem hd1:PySem.Challenge.rw_ij0114_01.Holds:=by
 w_on
 o_law
 k_head
 case hw=>w_witness2
 intro w s₀ s₁ mg mb G Y fa o pm cd doc dV kV ho hd hcd hD hmg hg args vals as hpre hlay hrd hwl hlo
 have KX:(KF w.params).In s₁.heap:=kf_in (km_in_of Y) (by repeat (first | exact True.intro | refine⟨by kernel_rfl,?_⟩))
 refine Ground.open G ?_
 intro T B D TE TW
 clear D
 wrow_args hpre hlay hrd hwl hlo
 refine enter_call ?_
 rename_i is _ _ _ _ _ _ _ l vs _ hL _ _ _ hI _ hc _
 have hl:is.length<=63:=qsy hc
 obtain rfl:=hD.pos_none rfl
 obtain rfl:=hD.kw_none rfl
 refine codeAny_mono (qmA (prog:=_) hg KX (qq1 KX T.g T.b T.builtins) T.nolimit ho hd (by rfl) (by rfl) (by rfl) (by rfl) (by rfl) hcd (by rfl) hL hI hl (qxL qlx is) (qxM qlx is)) ?_
 rintro r s' ⟨rfl,h2,h3,h4⟩
 exact⟨.inl ⟨_,_,[],rfl,fun _=>rfl,ReadsW.bool true,by kernel_rfl,fun _=>⟨List.nodup_nil,fun _ hm=>(nomatch hm)⟩⟩,h2,h3,h4⟩
set_option Elab.async false
theorem top_ij:PySem.Challenge.rw_ij0114_01.Holds:=hd1
end
end
end Mine
theorem PySem.Challenge.cw_ij0114_01_holds : PySem.Challenge.rw_ij0114_01.Holds :=
 Mine.top_ij