/- Part 6 of the proof that FnMapBorders returns true for every input that its row lets in. No further condition. -/
import Derived.Test.YtpddkliglnoaaaaGreatDoorA05
set_option linter.all false
set_option autoImplicit true
set_option relaxedAutoImplicit true
namespace Go.Proofs
open Tryz
open Go.V
variable {α:Type} {LL:α->List ae} {R:α->Pt->α->Prop} {G:List an} {fn:Nat} {fv cv:List Value} {ok:Pt->Prop} {s:α}
variable {p:Option Addr} {cp:Nat} {l:List Pt} {q:Sq} {lss:List (List Pt)} {gs:List GM} {g:GM} {v:Value}
abbrev OY (LL:α->List ae) (R:α->Pt->α->Prop) (s:α) (g:GM):cZ:=λv Fs' L'=>∃(s':α) (u:Value),kx R s g s'/\v=gv g u/\Fs'=[aE g u]/\L'=LL s'
theorem aiG (IH:∀g∈gs,∀(v:Value) (s:α),ai prog 181 [gv g v,gE fn fv cv].toArray (aE g v::G) (LL s) (OY LL R s g)):
  ai prog 267 [pn p gs cp,gE fn fv cv].toArray (dA p gs cp::G) (LL s) (λv Fs' L'=>∃(s':α) (p':Option Addr) (cp':Nat),kx R s (.gc gs) s'/\v=pn p' gs cp'/\Fs'=[dA p' gs cp']/\L'=LL s'):=by
 refine(CT) ?_;intro xs hq hb;have hql:xs.length=gs.length:=by rw[<-hq];simp
 refine am func267 λ_=>(au) ?_;intro _;refine(aq) ?_;intro _;refine(iu)<|(dH) ?_;refine pk (e:=61) (size:=2) ab O O O O O O nA O O O (bg _) O (by show gs.length*24<=_;omega) O λv0 B0 hs=>?_;rw[rX (F:=dz) (zl:=[.int .i64 0,.nilIface]) (k:=2) (GM.gc [],.nilIface) rfl rfl bz] at hs;refine(ub) ?_;obtain⟨p0,cap,e0⟩:=hs.shape;subst e0;refine(qB)<|(gW)<|aU [(6,6),(14,27)] (λ(x:Nat×List ae×List (GM×Value)×α)=>x.1<=gs.length/\x.2.2.1.length=gs.length/\(∀j,j<x.1->(x.2.2.1[j]?).map (·.1)=gs[j]?)/\aJ 61 2 (.slice p0 gs.length cap) gs.length (x.2.2.1.flatMap dz) x.2.1/\kx R s (.gc (gs.take x.1)) x.2.2.2) (λx=>[(14,iv x.1)]) (λx=>(x.2.2.1.take x.1).map (λx=>aE x.1 x.2)) (λx=>x.2.1++LL x.2.2.2) (λx=>gs.length-x.1) ((0,B0,List.replicate gs.length (GM.gc [],.nilIface),s)) (⟨bf _,by simp,λ_ h=>absurd h (iZ _),hs,.gc0⟩) λ⟨i,B1,ws,t⟩ fr ⟨hi,hwl,hag,hs1,hst⟩=>?_;dsimp only at hi hwl hag hs1 hst;refine(cM)<|ao ?_ ?_
 ·intro hc15;have hlt:i<gs.length:=by have:=of_decide_eq_true hc15;dsimp only at this;omega
  obtain⟨x,hqi⟩:∃q,xs[i]? =some q:=⟨_,aG aa⟩;obtain⟨w0,hwi⟩:∃w0,ws[i]? =some w0:=⟨_,aG aa⟩;obtain⟨g,cap',cur,e5,rfl,hc1,hc2,hc3,hc4⟩:=hs1.one aa;cases e5;have hgi:gs[i]? =some x.1:=by rw[<-hq,iY,hqi];rfl
  refine(Oz) ?_;refine cU (size:=2) (i:=i) ab O O O O O aa mA aa (flat_take (λ_ _=>O) hqi) O λ_ _=>?_;refine aK ab O O O (aR (xs:=dz x) mA) O O<|(aB) ?_;refine cL (aE x.1 x.2) (λhp al=>al _ (.tail _ (bI _ (.tail _ (bq _ (aM.2 ⟨x,qR hqi,O⟩)))))) ?_;refine aS eA call181 (IH x.1 (bn hgi) x.2 t) λv1 Fs1 L1 ⟨t',u,hst1,e1,e2,e3⟩=>?_;subst e1;subst e2;subst e3;refine dP (φ:=u.oneCell'=true) (λhp al=>dE (al (aE x.1 u) (.head _))) λhu=>?_;refine bp (s:=2) (i:=i) ab O O O O O aa aa O ?_;refine uQ (i:=i) (size:=2) (vs:=dz (x.1,u)) ab O hs1 O O O O O (by simp[dz,gN,hu]) hlt (λ_=>uA) λcur2 hs2=>?_;rw[tI (F:=dz) (x.1,u) (λ_ _=>rfl) hwi] at hs2;refine(rM) ?_;exact⟨(i+1,_,ws.set i (x.1,u),t'),oA,⟨oA,by simpa using hwl,Lz hag hgi aa,hs2,by dsimp only;rw[dO hgi];exact hst.snoc hst1⟩,lA,kA,BR mA sA,hA⟩
 ·intro hc15;have hge:i=gs.length:=by have:=of_decide_eq_false hc15;dsimp only at this;omega
  have hws:ws.map (·.1)=gs:=BG hag aa aa;have hti:ws.take i=ws:=eQ aa;have hst':kx R s (.gc gs) t:=by rw[hge,dg] at hst;exact hst
  refine(jh) ?_;refine eN hs1 tA ?_;refine cI (dA p0 gs cap) (λhp al=>⟨ws,⟨hws,hb⟩,al _ (.head _),λy hy=>al (aE y.1 y.2) (.tail _ (bq _ (aM.2 ⟨y,by dsimp only;rw[hti];exact hy,O⟩)))⟩)<|(aY)<|(dW)<|(iw)<|aH [dA p0 gs cap] (LL t) ?_;exact⟨t,p0,cap,hst',O,O,O⟩
theorem Nu (hc:∀(args:Array Value) (w:World),(callFunc fn args).run prog w= .ok (.enter fn args) w) (hcb:yW LL R G fn fv cv ok pv):∀(k:Nat) (g:GM) (v:Value) (s:α),SizeOf.sizeOf g<=k->wV ok g->
  ai prog 181 [gv g v,gE fn fv cv].toArray (aE g v::G) (LL s) (OY LL R s g)
 |0,g,v,s,h,_=>by cases g<;>simp at h
 |k+1,.ls l,v,s,h,ha=>by
  have hal:(∀x∈l,ok x)/\l.length<=1048576:=by cases ha with|ls h1 h2=>exact⟨h1,h2⟩
  refine am func181 λ_=>(au) ?_;intro _;refine(aq) ?_;intro _;refine(iu)<|(dF)<|(pL)<|aI eA call29 (qQ (l:=l)) λv1 Fs1 ⟨q,e1,e2,e3⟩=>?_;subst e2;subst e3;subst e1;refine(aB)<|aS eA call269 (afk (q:=q) (s:=s) hc hcb hal.1 hal.2) λv1 Fs1 L1 ⟨s',q',h1,h2,e1,e2,e3⟩=>?_;subst e1;subst e2;subst e3;refine aI eA call43 (yE (q:=q')) λv2 Fs2 ⟨u,e4,e5⟩=>?_;subst e4;subst e5;refine dP (φ:=u.oneCell'=true) (λhp al=>dE (al (aE _ u) (.head _))) λhu=>(wM)<|aH [aE (.ls q'.l) u] (LL s') ?_;exact⟨s',u,.ls h1,by rw[h2];rfl,by rw[h2],rfl⟩
 |k+1,.mls l,v,s,h,ha=>by
  have hal:∀l'∈l,(∀x∈l',ok x)/\l'.length<=1048576:=by cases ha with|mls h1=>exact h1
  refine am func181 λ_=>(au) ?_;intro _;refine(aq) ?_;intro _;refine(iu)<|(ot)<|(pL)<|aI eA call35 (qP (lss:=l)) λv1 Fs1 ⟨p,cp,e2,e3⟩=>?_;subst e2;subst e3;refine(aB)<|aS eA call183 (SO (p:=p) (lss:=l) (cp:=cp) (s:=s) hc hcb hal) λv1 Fs1 L1 ⟨s',p3,cp3,h1,e1,e2,e3⟩=>?_;subst e1;subst e2;subst e3;refine aI eA call49 (yD (lss:=l)) λv2 Fs2 ⟨u,e4,e5⟩=>?_;subst e4;subst e5;refine dP (φ:=u.oneCell'=true) (λhp al=>dE (al (aE _ u) (.head _))) λhu=>(wM)<|aH [aE (.mls l) u] (LL s') ?_;exact⟨s',u,.mls h1,O,O,O⟩
 |k+1,.gc gs,v,s,h,ha=>by
  have hal:∀g∈gs,wV ok g:=by cases ha with|gc h1=>exact h1
  have IH:∀g∈gs,∀(v:Value) (s:α),ai prog 181 [gv g v,gE fn fv cv].toArray (aE g v::G) (LL s) (OY LL R s g):=λg hg v s=>Nu hc hcb k g v s (by have:=vN hg;simp at h;omega) (hal g hg);refine am func181 λ_=>(au) ?_;intro _;refine(aq) ?_;intro _;refine(iu)<|(dF)<|(pO)<|aI eA call39 (sb (gs:=gs)) λv1 Fs1 ⟨p,cp,e2,e3⟩=>?_;subst e2;subst e3;refine(aB)<|aS eA call267 (aiG (p:=p) (cp:=cp) (s:=s) IH) λv1 Fs1 L1 ⟨s',p3,cp3,h1,e1,e2,e3⟩=>?_;subst e1;subst e2;subst e3;refine aI eA call53 (Au (gs:=gs)) λv2 Fs2 ⟨u,e4,e5⟩=>?_;subst e4;subst e5;refine dP (φ:=u.oneCell'=true) (λhp al=>dE (al (aE _ u) (.head _))) λhu=>(wM)<|aH [aE (.gc gs) u] (LL s') ?_;exact⟨s',u,h1,O,O,O⟩
end Go.Proofs
namespace Go.Proofs
open Tryz
open Go.V
variable {α:Type} {LL:α->List ae} {R:α->Pt->α->Prop} {G:List an} {fn:Nat} {fv cv:List Value} {ok:Pt->Prop} {s:α} {res:Pt->Value}
variable {p:Option Addr} {cp:Nat} {l:List Pt} {q:Sq} {lss:List (List Pt)} {gs:List GM} {g:GM} {v:Value}
theorem kx.inv_ls {R:α->Pt->α->Prop} {s t:α} (h:kx R s (.ls l) t):jT R s l t:=by cases h with|ls h=>exact h
abbrev Od (LL:α->List ae) (R:α->Pt->α->Prop) (s:α) (g:GM):cZ:=λ_ Fs' L'=>∃s':α,kx R s g s'/\Fs'=[]/\L'=LL s'
theorem Qb (hc:∀(args:Array Value) (w:World),(callFunc fn args).run prog w= .ok (.enter fn args) w) (hcb:yW LL R G fn fv cv ok res) (hok:∀x∈l,ok x) (hb:l.length<=1048576):
  ai prog 175 [gv (.ls l) v,gE fn fv cv].toArray (aE (.ls l) v::G) (LL s) (Od LL R s (.ls l)):=by
 refine am func175 λ_=>(au) ?_;intro _;refine(gu)<|aj eA call25 (lz (g:= .ls l) (v:=v))<|(dF)<|(Ft)<|aI eA call29 (qQ (l:=l)) λv1 Fs1 ⟨q,e1,e2,e3⟩=>?_;subst e2;subst e3;subst e1;refine aj eA call84 (tN (q:=q))<|(aq) ?_;intro r6;refine(wO)<|aj eA call98 (jB (l:=q.l))<|(wG)<|aU [(8,8),(42,51)] (λ(x:Nat×α)=>x.1<=q.l.length/\jT R s (q.l.take x.1) x.2) (λx=>[(8,iv x.1)]) (λ_=>[]) (λx=>LL x.2) (λx=>q.l.length-x.1) ((0,s)) (⟨bf _,.nil⟩) λ⟨i,t⟩ fr ⟨h5,h6⟩=>?_;dsimp only at h5 h6;refine(lN)<|ao ?_ ?_
 ·intro hc44;have hlt:i<q.l.length:=by have:=of_decide_eq_true hc44;dsimp only at this;omega
  obtain⟨x,hx⟩:∃x,q.l[i]? =some x:=⟨_,aG hlt⟩;refine(j5)<|(js)<|(aB)<|aj eA call131 (iO hx) ?_;refine dj O eA hc (NF.refl _) (hcb t x (hok x (bn hx))) λv Fs' L' ⟨t',hR,e1,e2,e3⟩=>?_;subst e2;subst e3;refine(Jb) ?_;exact⟨(i+1,t'),oA,⟨oA,by dsimp only;rw[dO hx];exact h6.app (.one hR)⟩,lA,kA,fA,hA⟩
 ·intro hc44;have hge:i=q.l.length:=by have:=of_decide_eq_false hc44;dsimp only at this;omega
  subst hge;rw[dg] at h6;refine(eG)<|ed [] (LL t) ?_;exact⟨t,.ls h6,O,O⟩
theorem Qa (hc:∀(args:Array Value) (w:World),(callFunc fn args).run prog w= .ok (.enter fn args) w) (hcb:yW LL R G fn fv cv ok res):∀(k:Nat) (g:GM) (v:Value) (s:α),SizeOf.sizeOf g<=k->wV ok g->
  ai prog 175 [gv g v,gE fn fv cv].toArray (aE g v::G) (LL s) (Od LL R s g)
 |0,g,v,s,h,_=>by cases g<;>simp at h
 |k+1,.ls l,v,s,h,ha=>by cases ha with|ls h1 h2=>exact Qb hc hcb h1 h2
 |k+1,.mls lss,v,s,h,ha=>by
  have hal:∀l'∈lss,(∀x∈l',ok x)/\l'.length<=1048576:=by cases ha with|mls h1=>exact h1
  refine am func175 λ_=>(au) ?_;intro _;refine(gu)<|aj eA call25 (lz (g:= .mls lss) (v:=v))<|(ot)<|(Ft)<|aI eA call35 (qP (lss:=lss)) λv1 Fs1 ⟨p,cp,e2,e3⟩=>?_;subst e2;subst e3;refine dP (φ:=lss.length<=1048576) (λhp al=>by obtain⟨_,h,_⟩:=al (bQ p lss cp) mA;exact h.2) λhlb=>(aq) ?_;intro r14;refine(wO)<|aj eA call58 (xr (lss:=lss))<|(wG)<|aU [(16,16),(86,96)] (λ(x:Nat×α)=>x.1<=lss.length/\jT R s (lss.take x.1).flatten x.2) (λx=>[(16,iv x.1)]) (λ_=>[]) (λx=>LL x.2) (λx=>lss.length-x.1) ((0,s)) (⟨bf _,.nil⟩) λ⟨i,t⟩ fr ⟨h5,h6⟩=>?_;dsimp only at h5 h6;refine(lN)<|ao ?_ ?_
  ·intro hc88;have hlt:i<lss.length:=by have:=of_decide_eq_true hc88;dsimp only at this;omega
   obtain⟨l,hli⟩:∃x,lss[i]? =some x:=⟨_,aG hlt⟩;obtain⟨ho1,ho2⟩:=hal l (bn hli);refine(j5)<|(mH)<|(aB)<|aI eA call59 (vW hli) λv1 Fs1 ⟨q1,e1,e2,e3⟩=>?_;subst e1;subst e2;subst e3;refine aI eA call43 (yE (q:=q1)) λv2 Fs2 ⟨u,e4,e5⟩=>?_;subst e4;subst e5;refine(aB)<|aS eA call175 (Qb (l:=q1.l) (v:=u) (s:=t) hc hcb ho1 ho2) λv Fs' L' ⟨t',hR,e2,e3⟩=>?_;subst e2;subst e3;refine(Jb) ?_;exact⟨(i+1,t'),oA,⟨oA,by dsimp only;rw[dO hli,o0];exact h6.app (by simpa using hR.inv_ls)⟩,lA,kA,fA,hA⟩
  ·intro hc88;have hge:i=lss.length:=by have:=of_decide_eq_false hc88;dsimp only at this;omega
   subst hge;rw[dg] at h6;refine(eG)<|ed [] (LL t) ?_;exact⟨t,.mls h6,O,O⟩
 |k+1,.gc gs,v,s,h,ha=>by
  have hal:∀g∈gs,wV ok g:=by cases ha with|gc h1=>exact h1
  have IH:∀g∈gs,∀(v:Value) (s:α),ai prog 175 [gv g v,gE fn fv cv].toArray (aE g v::G) (LL s) (Od LL R s g):=λg hg v s=>Qa hc hcb k g v s (by have:=vN hg;simp at h;omega) (hal g hg);refine am func175 λ_=>(au) ?_;intro _;refine(gu)<|aj eA call25 (lz (g:= .gc gs) (v:=v))<|(ud)<|(pO)<|aI eA call39 (sb (gs:=gs)) λv1 Fs1 ⟨p,cp,e2,e3⟩=>?_;subst e2;subst e3;refine dP (φ:=gs.length<=1048576) (λhp al=>by obtain⟨_,h,_⟩:=al (dA p gs cp) mA;exact h.2) λhlb=>(aq) ?_;intro r17;refine(wO)<|aj eA call95 (Al (gs:=gs))<|(wG)<|aU [(19,19),(109,118)] (λ(x:Nat×α)=>x.1<=gs.length/\kx R s (.gc (gs.take x.1)) x.2) (λx=>[(19,iv x.1)]) (λ_=>[]) (λx=>LL x.2) (λx=>gs.length-x.1) ((0,s)) (⟨bf _,.gc0⟩) λ⟨i,t⟩ fr ⟨h5,h6⟩=>?_;dsimp only at h5 h6;refine(lN)<|ao ?_ ?_
  ·intro hc111;have hlt:i<gs.length:=by have:=of_decide_eq_true hc111;dsimp only at this;omega
   obtain⟨g,hgi⟩:∃x,gs[i]? =some x:=⟨_,aG hlt⟩;refine(j5)<|(mH)<|(aB)<|aI eA call96 (Ci hgi) λv1 Fs1 ⟨u,e2,e3⟩=>?_;subst e2;subst e3;refine(aB)<|aS eA call175 (IH g (bn hgi) u t) λv Fs' L' ⟨t',hR,e2,e3⟩=>?_;subst e2;subst e3;refine(Jb) ?_;exact⟨(i+1,t'),oA,⟨oA,by dsimp only;rw[dO hgi];exact h6.snoc hR⟩,lA,kA,fA,hA⟩
  ·intro hc111;have hge:i=gs.length:=by have:=of_decide_eq_false hc111;dsimp only at this;omega
   subst hge;rw[dg] at h6;refine(eG)<|ed [] (LL t) ?_;exact⟨t,h6,O,O⟩
end Go.Proofs
namespace Go.V
section
variable {P:Program} {c:bC} {n:Nat} {ops:Array Oper} {Fs:List an} {L:List ae} {f:Fm} {Q:bG} {rest:List Oper}
variable {d:Nat} {ty:TypeId} {ps:String} {aft:Array Edge} {x y:Operand} {T T':TypeId} {a b m:Int}
theorem ew (hx:ap f x= .b (.int .i64 a)) (hy:ap f y= .b (.int .i64 b)) (hm:a-b=m) (hr:oS m) (hd:Nat.blt d n=true) (k:ak P c n ops Fs L (aT f d (.int .i64 m)) rest Q):
  ak P c n ops Fs L f (⟨some d,.binOp .sub T x y T',ty,ps,aft,none⟩::rest) Q:=by subst hm;exact EP hx hy hr hd k
theorem dD (hx:ap f x= .b (.int .i64 a)) (hy:ap f y= .b (.int .i64 b)) (hm:a+b=m) (hr:oS m) (hd:Nat.blt d n=true) (k:ak P c n ops Fs L (aT f d (.int .i64 m)) rest Q):
  ak P c n ops Fs L f (⟨some d,.binOp .add T x y T',ty,ps,aft,none⟩::rest) Q:=by subst hm;exact EV hx hy hr hd k
end
end Go.V
namespace Go.Proofs
open Tryz
open Go.V
variable {p:Option Addr} {cp:Nat} {l:List Pt} {a b:Pt}
theorem UQ:ai prog 286 [jF p l cp,iv 0].toArray [gF p l cp] [] (Is (.tuple #[dM (0,0) (0,0),.bool false])):=by
 refine am func286 λ_=>(au) ?_;intro _;refine(aq) ?_;intro _;exact(iC)<|(kT)<|(vq)<|(cN)<|(de)<|mG
theorem UP {i:Nat} (ha:l[i]? =some a) (hb:l[i+1]? =some b):ai prog 286 [jF p l cp,iv ((i+1:Nat):Int)].toArray [gF p l cp] [] (Is (.tuple #[dM a b,.bool (!aV a b)])):=by
 have hlt:=da hb;refine tu (.head _) (λ_ h=>(uX h).2) λhl=>?_;simp only[maxLen] at hl;have e:((i+1:Nat):Int)-1=(i:Int):=by omega
 refine am func286 λ_=>(au) ?_;intro _;refine(aq) ?_;intro r4;refine(iC)<|(kT)<|(aN) ?_;refine gz O (λhc8=>absurd hc8 (by have:=of_decide_eq_true hc8;omega)) (λhc8=>(om) ?_);refine cz cw 9 [8] []<|(vr) ?_;refine ac O (ew O O e iA O) ?_;refine ac O (λkX=>aj eA call131 (iO (p:=p) (cp:=cp) ha) kX)<|(vr) ?_;refine ac O (λkX=>aj eA call131 (iO (p:=p) (cp:=cp) hb) kX)<|(ny)<|(dT)<|(aq) ?_;intro r6;refine(iy)<|(dS) ?_;refine dl (r:=r6) tA ?_;refine cz cw 8 [6] [6]<|(zu)<|(zx) ?_;refine cC O (aK ab O O O (jp (k:=0) (m:=2) (aR mA)) O O)<|(zx) ?_;refine cC O (aK ab O O O (jp (k:=2) (m:=2) (aR mA)) O O) ?_;refine cC O (vY O O qV (λw=>qo 9998 w _ _ _ _) O) ?_;refine cC O (Nm O O)<|(dT)<|(de) ?_;refine mj (.norm ⟨⟨undef,O⟩,(um)<|(aN)<|(xY)<|(kS)<|gk⟩)
end Go.Proofs
namespace Go.V
def nx:Option (Nat×Value×Value)->Array Value
 |none=> #[.bool false]
 |some (_,p)=> #[.bool true,p.1,p.2]
theorem uM (o:Option (Nat×Value×Value)):(nx o)[0]? =some (.bool o.isSome):=by cases o<;>rfl
def Rs (seen:List Nat):Option (Nat×Value×Value)->List Nat
 |none=>seen
 |some (i,_)=>seen++[i]
structure alD (kvs:List (Value×Value)) (seen:List Nat) (o:Option (Nat×Value×Value)):Prop where
 all:o=none->∀i,i<kvs.length->i∈seen
 one:∀i p,o=some (i,p)->kvs[i]? =some p/\i∉seen/\i<kvs.length
section
variable {P:Program} {c:bC} {n:Nat} {ops:Array Oper} {Fs:List an} {L:List ae} {f:Fm} {Q:bG} {rest:List Oper}
variable {d:Nat} {ty:TypeId} {ps:String} {aft:Array Edge} {x:Operand} {kvs:List (Value×Value)} {m r:Nat} {seen:List Nat}
theorem uU (hx:ap f x= .b (.pointer (some ⟨r,0,none⟩))) (hmap:vh Fs L m kvs) (hit:(r,jH m kvs.length seen)∈L)
  {Lu:List Nat->List ae} (hU:∀s,cf L r (jH m kvs.length seen) (jH m kvs.length s) (Lu s)) (hL:Lu seen=L) (hd:Nat.blt d n=true)
  (k:∀o,alD kvs seen o->ak P c n ops Fs (Lu (Rs seen o)) (aT f d (.tuple (nx o))) rest Q):
  ak P c n ops Fs L f (⟨some d,.next x false,ty,ps,aft,none⟩::rest) Q:=
 ahJ (Lu:=Lu) hx hmap hit (λi=>hU _) hd (λhall=>by
   have:=k none ⟨λ_=>hall,(λ_ _ e=>nomatch e)⟩;simp only[Rs,hL] at this;exact this) λi p h1 h2 h3=>k (some (i,p)) ⟨(λe=>nomatch e),λj q e=>by cases e;exact⟨h1,h2,h3⟩⟩
end
theorem alf {α:Type} {P:α->Prop} {l:List α} {x:α} (h:∀y∈l,P y) (hx:P x):∀y∈l++[x],P y:=λy hy=>by
 rcases bB.1 hy with k|k
 ·exact h y k
 ·simp at k;subst k;exact hx
structure eO (n:Nat) (seen:List Nat):Prop where
 nd:seen.Nodup
 lt:∀i∈seen,i<n
theorem eO.nil {n:Nat}:eO n []:=⟨.nil,λ_ h=>nomatch h⟩
theorem eO.snoc {n:Nat} {seen:List Nat} {i:Nat} (h:eO n seen) (h1:i∉seen) (h2:i<n):eO n (seen++[i]):=
 ⟨uF.2 ⟨h.nd,by simp,λa ha b hb e=>by simp at hb;subst hb;subst e;exact h1 ha⟩,λj hj=>by
  rcases bB.1 hj with h'|h'
  ·exact h.lt j h'
  ·simp at h';subst h';exact h2⟩
theorem uN:∀(n:Nat) (l:List Nat),l.Nodup->(∀i∈l,i<n)->l.length<=n
 |0,l,_,h=>by
  cases l with
  |nil=>exact bg _
  |cons a l=>exact absurd (h a (.head _)) (iZ _)
 |n+1,l,nd,h=>by
  by_cases hm:n∈l
  ·have h1:=uN n (l.erase n) (nd.erase n) (λi hi=>by
    have h2:=(nd.mem_erase_iff).1 hi;have:=h i h2.2;omega)
   rw[PL hm] at h1;omega
  ·have:=uN n l nd (λi hi=>by
    have h3:=h i hi;rcases dL i n with k|k
    ·exact k
    ·have:i=n:=by omega
     subst this;exact absurd hi hm)
   omega
theorem eO.le {n:Nat} {seen:List Nat} (h:eO n seen):seen.length<=n:=uN n seen h.nd h.lt
theorem eO.lt_of {n i:Nat} {seen:List Nat} (h:eO n seen) (h1:i∉seen) (h2:i<n):seen.length<n:=by
 have:=(h.snoc h1 h2).le;simp at this;omega
end Go.V
namespace Go.Proofs
open Tryz
open Go.V
variable {w rm:Nat} {m:NM} {p:Option Addr} {cp:Nat} {pts:List Pt}
abbrev Ac (p:Option Addr) (pts:List Pt) (cp:Nat):Value:= .slice p pts.length cp
abbrev Co (p:Option Addr) (pts:List Pt) (cp:Nat):an:=bF 2 (Ac p pts cp) pts.length (bl pts)
def XH (m:NM) (x:Pt):Prop:=∃e∈m,e.2=x
theorem afy (hm:m.length<=1048576):ai prog 185 [xu w rm].toArray [] [hG rm m]
  (λv Fs' L'=>(∃p pts cp,v=Ac p pts cp/\Fs'=[Co p pts cp]/\pts.length<=m.length/\∀x∈pts,XH m x)/\L'=[hG rm m]):=by
 have hml:(oE m).length=m.length:=by simp
 refine am func185 λ_=>(au) ?_;intro _;refine(fP) ?_;refine Ng ab O O O (eo (kvs:=oE m) mA) (by rw[hml];omega) O ?_;refine pk (e:=79) (size:=2) ab O O O O O O (zl:=[aw 0,aw 0]) nA O (l:=0) (cp:=(oE m).length) O O (bf _) O (by show(oE m).length*16<=_;omega) O λv0 B0 hs0=>?_;obtain⟨p0,c0,rfl⟩:=hs0.shape;refine(bR)<|(fR) ?_;refine uS ab O O O (eo (kvs:=oE m) mA) O λri=>(dF)<|aU [(3,3),(5,5),(13,20)] (λ(x:List Nat×(Option Addr×Nat)×List ae×List Pt)=>eO (oE m).length x.1/\x.2.2.2.length=x.1.length/\aJ 79 2 (.slice x.2.1.1 x.2.2.2.length x.2.1.2) x.2.2.2.length (bl x.2.2.2) x.2.2.1/\∀y∈x.2.2.2,XH m y) (λx=>[(3,.slice x.2.1.1 x.2.2.2.length x.2.1.2)]) (λ_=>[]) (λx=>(ri,jH rm (oE m).length x.1)::x.2.2.1) (λx=>(oE m).length-x.1.length) (([],(p0,c0),B0,[])) (⟨eO.nil,O,hs0,λ_ h=>nomatch h⟩) λ⟨seen,⟨p1,c1⟩,B1,ps⟩ fr ⟨h5,h6,h7,h8⟩=>?_;dsimp only at h5 h6 h7 h8;have hle:=h5.le;refine(ba) ?_;refine uU (m:=rm) (kvs:=oE m) (seen:=seen) O (eo mA) mA (λ_=>uA) O O λo ho=>?_;refine sC O (uM o) O<|(cn)<|ao ?_ ?_
 ·intro hc14;obtain⟨⟨i,q⟩,rfl⟩:=uE.1 hc14;obtain⟨hq,hns,hil⟩:=ho.one i q rfl;have hlt:=h5.lt_of hns hil;obtain⟨e,he,rfl⟩:=sd (F:=λe:Bk×Pt=>(wm e.1,pv e.2)) rfl hq;refine(uf) ?_;refine uV (m:=rm) (kvs:=oE m) (seen:=seen) (i:=i) O (eo mA) mA hq O<|(kR)<|(aq) ?_;intro r5;refine(y7)<|(eD) ?_;intro b19;refine di (e:=79) (size:=2) (news:=bl [e.2]) ab O O O O O O O (B:=B1) tA h7 O (bD mA) O O dp (by show(ps.length+1)*16<=_;omega) O λv' B' hs'=>?_;rw[<-Ny] at hs';have hs2:aJ 79 2 v' (ps++[e.2]).length (bl (ps++[e.2])) B':=by rw[aW];exact hs'
  obtain⟨p2,c2,rfl⟩:=hs2.shape;refine(iR) ?_;exact⟨(seen++[i],(p2,c2),B',ps++[e.2]),by dsimp only;rw[aW];simp only[dZ];omega,⟨h5.snoc hns hil,by simp[h6],hs2,alf h8 ⟨e,bn he,rfl⟩⟩,lA,kA,fA,hA⟩
 ·intro hc14;refine(jh) ?_;refine eN h7 tA<|(aY)<|(bO)<|aH [Co p1 ps c1] [hG rm m] ?_;exact⟨⟨p1,ps,c1,O,O,aa,h8⟩,O⟩
end Go.Proofs
namespace Go.V
section
variable {P:Program} {c:bC} {n:Nat} {ops:Array Oper} {Fs:List an} {L:List ae} {f:Fm} {Q:bG} {rest:List Oper}
variable {d:Nat} {ty:TypeId} {ps:String} {aft:Array Edge} {aC:Nat->Option TI} {x y:Operand} {T:TypeId}
theorem ml (Tb:bZ P aC) {ti te:TI} (ht:aC T=some ti) (hk:ti.kind=1) {e:Nat} (hel:ti.elT=e) (hte:aC e=some te) {size:Nat} (hsz:te.sz=size) (hp0:Nat.blt 0 size=true)
  {zl:List Value} (hz:NF (xS te.zero.v) zl) (hzl:Nat.beq zl.length size=true) {l cp:Nat} {ki kj:IntKind} (hx:ap f x= .b (.int ki l)) (hy:ap f y= .b (.int kj cp)) (hle:l<=cp)
  (hb0:Nat.blt 0 te.bytes=true) (hbig:cp*te.bytes<=140737488355328) (hd:Nat.blt d n=true)
  (k:∀r,ak P c n ops Fs ((r,.cells (jA zl size cp).toArray e (0,0))::L) (aT f d (.slice (some ⟨r,0,none⟩) l cp)) rest Q):
  ak P c n ops Fs L f (⟨some d,.makeSlice T x y,ty,ps,aft,none⟩::rest) Q:=by
 refine mX O (bU hd) λh w re al=>?_;subst hel;obtain⟨hdesc,hsr⟩:=(Tb T ti ht).el hk;have hu:=ts (Tb T ti ht) hdesc;obtain⟨inf,hinf,hi1,hi2,hi3⟩:=(Tb _ te hte).info;have hpos:=vM.mp hp0;have hbp:=vM.mp hb0;have hzl':=nO hzl;have hzz:te.zero.v.cells=zl.toArray:=by rw[Fb,hz.eq]
 have hcp:cp<=140737488355328:=tc (Nat.le_mul_of_pos_right cp hbp) hbig;have hzero:madeCells te.zero.v.cells (cp*size)=(jA zl size cp).toArray:=by
  rw[hzz];apply xc;simp only[madeCells,jA,J1,J5,ox,hzl'];refine(FE) ?_;intro i _;have:i%size<zl.length:=by rw[hzl'];exact nI _ hpos
  simp[this]
 have hbig2:((inf.bytes:Int)*(cp:Int))<=281474976710656:=by
  rw[hi2,J0];have:((cp*te.bytes:Nat):Int)<=(140737488355328:Nat):=Int.ofNat_le.2 hbig;rw[Int.natCast_mul] at this;omega
 have hr:=run_make (P:=P) w T ti.elT inf te.zero.v hu hinf hi3 ki kj l cp aa aa hbig2 aa;rw[xa,xa,hi1.trans hsz,hzero] at hr;refine⟨.slice (some ⟨w.heap.size,0,none⟩) l cp,_,Fs,_,h,?_,re.push _,al,k _⟩;simp only[execOp,bo,hx,hy,Bx.v_b,hr,bV,bS];rfl
end
end Go.V
namespace Go.Proofs
open Tryz
open Go.V
variable {p:Option Addr} {cp:Nat} {pts:List Pt}
abbrev WI:BI:=((0,0,0,0),0)
abbrev ID (n:Nat):List BI:=List.replicate n WI
theorem Ks (n:Nat):jA [aw 0,aw 0,aw 0,aw 0,iv 0] 5 n=(ID n).flatMap bi:=rX (F:=bi) WI rfl rfl bz n
def y0 (S:BI->Prop) (i:Nat) (xs:List BI):Prop:=∀j,j<i->∃x,xs[j]? =some x/\S x
theorem y0.snoc {S:BI->Prop} {i:Nat} {xs:List BI} {x:BI} (h:y0 S i xs) (hi:i<xs.length) (hx:S x):y0 S (i+1) (xs.set i x):=λj hj=>by
 by_cases e:j=i
 ·subst e;exact⟨x,yk hi,hx⟩
 ·obtain⟨y,h1,h2⟩:=h j aa;exact⟨y,by rw[pe aa];exact h1,h2⟩
theorem y0.all {S:BI->Prop} {n:Nat} {xs:List BI} (h:y0 S n xs) (hl:xs.length=n):jw S n xs:=⟨hl,λx hx=>by
 obtain⟨j,hj⟩:=lg hx;obtain⟨y,h1,h2⟩:=h j (by rw[<-hl];exact da hj);rw[hj] at h1;cases h1;exact h2⟩
theorem Ww {S:BI->Prop} {p:Option Addr} {n cap:Nat} (h:n=0):ai prog 245 [.slice p n cap].toArray [] []
  (λv Fs' L'=>(∃r V z,v= .pointer (some ⟨r,0,none⟩)/\Fs'=[lE S r V z]/\z=0)/\L'=[]):=by subst h;exact akT
abbrev vT (x:Pt):bH:=(x.1,x.2,x.1,x.2)
def rA (pts:List Pt) (x:BI):Prop:=∃(k:Nat) (y:Pt),x.2=(k:Int)/\pts[k]? =some y/\x.1=vT y
abbrev TJ (p:Option Addr) (n cp r:Nat):Value:= .agg #[.slice p n cp,.pointer (some ⟨r,0,none⟩)]
theorem agm (hb:pts.length<=1048576):ai prog 184 [Ac p pts cp].toArray [Co p pts cp] []
  (λv Fs' L'=>(∃r V z,v=TJ p pts.length cp r/\Fs'=[lE (rA pts) r V z]/\z<=2*pts.length)/\L'=[]):=by
 refine am func184 λ_=>(wL) ?_;intro r2;refine(qC)<|(dH) ?_;refine ml (e:=307) (size:=5) ab O O O O O O (zl:=[aw 0,aw 0,aw 0,aw 0,iv 0]) nA O O O (bg _) O (by show pts.length*40<=_;omega) O λg=>?_;rw[Ks];refine(nu)<|aU [(4,5),(11,30)] (λ(x:Nat×List BI)=>x.1<=pts.length/\x.2.length=pts.length/\y0 (rA pts) x.1 x.2) (λx=>[(11,iv x.1)]) (λ_=>[]) (λx=>[eW g x.2]) (λx=>pts.length-x.1) ((0,ID pts.length)) (⟨bf _,by simp,λ_ h=>absurd h (iZ _)⟩) λ⟨i,ws⟩ fr ⟨h5,h6,h7⟩=>?_;dsimp only at h5 h6 h7;refine(cM)<|ao ?_ ?_
 ·intro hc12;have hlt:i<pts.length:=by have:=of_decide_eq_true hc12;dsimp only at this;omega
  obtain⟨x,hx⟩:∃x,pts[i]? =some x:=⟨_,aG hlt⟩;refine(rK) ?_;refine cU (size:=2) (i:=i) ab O O O O O aa mA aa (flat_take (F:=λp:Pt=>[aw p.1,aw p.2]) (λ_ _=>O) hx) O λ_ _=>(uk)<|(aq) ?_;intro r5;refine(gb)<|(cu)<|(cO)<|(zk)<|(zk)<|(cN)<|(aB)<|(cN) ?_;refine bp (s:=5) (i:=i) ab O O O O O aa aa O ?_;refine EQ (F:=bi) (k:=5) (xs:=ws) (j:=i) (e:=(vT x,(i:Int))) ab O O O O O O (tQ _) aa aa uA<|(rM) ?_;exact⟨(i+1,ws.set i (vT x,(i:Int))),oA,⟨oA,by simpa using h6,h7.snoc aa ⟨i,x,rfl,hx,rfl⟩⟩,lA,kA,fA,hA⟩
 ·intro hc12;have hge:i=pts.length:=by have:=of_decide_eq_false hc12;dsimp only at this;omega
  have hall:jw (rA pts) pts.length ws:=(hge▸h7).all h6;refine(jh) ?_;rcases xe pts.length with h0|hpos
  ·refine(cO)<|aI eA call245 (Ww (S:=rA pts) h0) λv Fs' ⟨r,V,z,e1,e2,hzz⟩=>?_;subst e1;subst e2;refine(iw)<|aH [lE (rA pts) r V z] [] ?_;exact⟨⟨r,V,z,O,O,aa⟩,O⟩
  ·refine(cO)<|aS eA call245 (N3 (g:=g) hb hall O (bg _) hpos) λv Fs' L' ⟨⟨r,V,z,e1,e2,hzz⟩,e3⟩=>?_;subst e1;subst e2;subst e3;refine(iw)<|aH [lE (rA pts) r V z] [] ?_;exact⟨⟨r,V,z,O,O,aa⟩,O⟩
end Go.Proofs
namespace Go.Proofs
open Tryz
open Go.V
abbrev Ln:=Pt×Pt
def km (l:Ln):List Value:=[aw l.1.1,aw l.1.2,aw l.2.1,aw l.2.2]
def uW (l:List Ln):List Value:=l.flatMap km
def bK:List Pt->List Ln
 |[]=>[]
 |[_]=>[]
 |a::b::l=>if aV a b then bK (b::l) else(a,b)::bK (b::l)
theorem Lb:∀(l:List Pt) (a b:Pt),bK (l++[a,b])=bK (l++[a])++(if aV a b then [] else [(a,b)])
 |[],a,b=>by simp only[j6,bK]
 |[c],a,b=>by
  simp only[pY,j6,bK];cases aV c a<;>simp
 |c::d::l,a,b=>by
  have ih:=Lb (d::l) a b;simp only[pY] at ih ⊢;simp only[bK];cases aV c d<;>simp[ih]
theorem GU:∀l:List Pt,(bK l).length<=l.length
 |[]=>bg _
 |[_]=>bf _
 |a::b::l=>by
  have:=GU (b::l);simp only[bK];split
  ·exact Bg this
  ·simp only[cE] at this ⊢;omega
mutual
def GM.pts:GM->List Pt
 |.ls l=>l
 |.mls l=>l.flatten
 |.gc gs=>fH gs
def fH:List GM->List Pt
 |[]=>[]
 |g::gs=>g.pts++fH gs
end
mutual
def GM.lns:GM->List Ln
 |.ls l=>bK l
 |.mls l=>l.flatMap bK
 |.gc gs=>nW gs
def nW:List GM->List Ln
 |[]=>[]
 |g::gs=>g.lns++nW gs
end
theorem Eb:∀a b:List GM,fH (a++b)=fH a++fH b
 |[],b=>rfl
 |g::a,b=>by simp only[pY,fH,Eb a b,cG]
theorem S6:∀a b:List GM,nW (a++b)=nW a++nW b
 |[],b=>rfl
 |g::a,b=>by simp only[pY,nW,S6 a b,cG]
theorem kx.pts {α:Type} {R:α->Pt->α->Prop} {s s':α} {g:GM} (h:kx R s g s'):jT R s g.pts s':=by
 induction h with
 |ls h=>simpa only[GM.pts] using h
 |mls h=>simpa only[GM.pts] using h
 |gc0=>simpa only[GM.pts,fH] using .nil
 |gcc _ _ ih1 ih2=>simp only[GM.pts,fH] at ih1 ih2 ⊢;exact ih1.app ih2
def ia (l:Ln):bH:=(bif fJ l.1.1 l.2.1 then l.2.1 else l.1.1,bif fJ l.1.2 l.2.2 then l.2.2 else l.1.2,bif fJ l.1.1 l.2.1 then l.1.1 else l.2.1,bif fJ l.1.2 l.2.2 then l.1.2 else l.2.2)
variable {p:Option Addr} {cp:Nat} {lns:List Ln}
abbrev EB (p:Option Addr) (lns:List Ln) (cp:Nat):Value:= .slice p lns.length cp
abbrev NG (p:Option Addr) (lns:List Ln) (cp:Nat):an:=bF 4 (EB p lns cp) lns.length (uW lns)
def vH (lns:List Ln) (x:BI):Prop:=∃(k:Nat) (y:Ln),x.2=(k:Int)/\lns[k]? =some y/\x.1=ia y
theorem agn (hb:lns.length<=1048576):ai prog 194 [EB p lns cp].toArray [NG p lns cp] []
  (λv Fs' L'=>(∃r V z,v=TJ p lns.length cp r/\Fs'=[lE (vH lns) r V z]/\z<=2*lns.length)/\L'=[]):=by
 refine am func194 λ_=>(wL) ?_;intro r2;refine(qC)<|(dH) ?_;refine ml (e:=307) (size:=5) ab O O O O O O (zl:=[aw 0,aw 0,aw 0,aw 0,iv 0]) nA O O O (bg _) O (by show lns.length*40<=_;omega) O λg=>?_;rw[Ks];refine(nu)<|aU [(4,5),(11,23)] (λ(x:Nat×List BI)=>x.1<=lns.length/\x.2.length=lns.length/\y0 (vH lns) x.1 x.2) (λx=>[(11,iv x.1)]) (λ_=>[]) (λx=>[eW g x.2]) (λx=>lns.length-x.1) ((0,ID lns.length)) (⟨bf _,by simp,λ_ h=>absurd h (iZ _)⟩) λ⟨i,ws⟩ fr ⟨h5,h6,h7⟩=>?_;dsimp only at h5 h6 h7;refine(cM)<|ao ?_ ?_
 ·intro hc12;have hlt:i<lns.length:=by have:=of_decide_eq_true hc12;dsimp only at this;omega
  obtain⟨x,hx⟩:∃x,lns[i]? =some x:=⟨_,aG hlt⟩;refine(rK) ?_;refine cU (size:=4) (i:=i) ab O O O O O aa mA aa (flat_take (F:=km) (λ_ _=>O) hx) O λ_ _=>(uk)<|(aq) ?_;intro r5;refine(gb)<|(cu)<|(cO)<|(gq)<|aj eA call188 (Ms (a:=x.1) (b:=x.2))<|(aB)<|(cN) ?_;refine bp (s:=5) (i:=i) ab O O O O O aa aa O ?_;refine EQ (F:=bi) (k:=5) (xs:=ws) (j:=i) (e:=(ia x,(i:Int))) ab O O O O O O (tQ _) aa aa uA<|(rM) ?_;exact⟨(i+1,ws.set i (ia x,(i:Int))),oA,⟨oA,by simpa using h6,h7.snoc aa ⟨i,x,rfl,hx,rfl⟩⟩,lA,kA,fA,hA⟩
 ·intro hc12;have hge:i=lns.length:=by have:=of_decide_eq_false hc12;dsimp only at this;omega
  have hall:jw (vH lns) lns.length ws:=(hge▸h7).all h6;refine(jh) ?_;rcases xe lns.length with h0|hpos
  ·refine(cO)<|aI eA call245 (Ww (S:=vH lns) h0) λv Fs' ⟨r,V,z,e1,e2,hzz⟩=>?_;subst e1;subst e2;refine(iw)<|aH [lE (vH lns) r V z] [] ?_;exact⟨⟨r,V,z,O,O,aa⟩,O⟩
  ·refine(cO)<|aS eA call245 (N3 (g:=g) hb hall O (bg _) hpos) λv Fs' L' ⟨⟨r,V,z,e1,e2,hzz⟩,e3⟩=>?_;subst e1;subst e2;subst e3;refine(iw)<|aH [lE (vH lns) r V z] [] ?_;exact⟨⟨r,V,z,O,O,aa⟩,O⟩
end Go.Proofs
namespace Go.Proofs
open Tryz
open Go.V
abbrev uo (v:Value) (l:List Ln) (B:List ae):Prop:=aJ 223 4 v l.length (uW l) B
theorem uo.snoc {v:Value} {l:List Ln} {x:Ln} {B:List ae} (h:aJ 223 4 v (l.length+1) (uW l++km x) B):uo v (l++[x]) B:=by
 have:uW l++km x=uW (l++[x]):=by simp[uW]
 rw[this] at h;unfold uo;rw[aW];exact h
variable {α:Type} {p:Option Addr} {cp:Nat} {l:List Pt} {q:Sq} {lss:List (List Pt)} {gs:List GM} {g:GM} {v:Value} {lns:List Ln} {B:List ae}
theorem Ro (ls:List (List Pt)):(ls.flatMap bK).length<=ls.flatten.length:=by
 induction ls with
 |nil=>simp
 |cons l ls ih=>
  have:=GU l;simp only[dC,oX,aW];omega
mutual
theorem S4:∀g:GM,g.lns.length<=g.pts.length
 |.ls l=>by simpa only[GM.lns,GM.pts] using GU l
 |.mls l=>by simpa only[GM.lns,GM.pts] using Ro l
 |.gc gs=>by simpa only[GM.lns,GM.pts] using Mm gs
theorem Mm:∀gs:List GM,(nW gs).length<=(fH gs).length
 |[]=>by simp[nW]
 |g::gs=>by
  have h1:=S4 g;have h2:=Mm gs;simp only[nW,fH,aW];omega
end
theorem xM {α:Type} {l:List α} {i:Nat} {x:α} (h:l[i]? =some x):l=l.take i++x::l.drop (i+1):=by
 have hl:=da h;rw[aG hl] at h;cases h;simp
theorem ac3 {N i:Nat} (h:lss[i]? =some l) (hb:lns.length+lss.flatten.length<=N):(lns++(lss.take i).flatMap bK).length+l.length<=N:=by
 rw[xM h] at hb;simp only[o0,oX,aW] at hb;have:=Ro (lss.take i);simp only[aW];omega
theorem ac2 {N i:Nat} (h:gs[i]? =some g) (hb:lns.length+(fH gs).length<=N):(lns++nW (gs.take i)).length+g.pts.length<=N:=by
 rw[xM h,Eb] at hb;simp only[fH,aW] at hb;have:=Mm (gs.take i);simp only[aW];omega
abbrev JM (l:List Ln):cZ:=λv Fs' L'=>uo v l L'/\Fs'=[]
theorem WO {v0:Value} (h0:uo v0 lns B) (hb:lns.length+l.length<=16777216):
  ai prog 195 [v0,gv (.ls l) v].toArray [aE (.ls l) v] B (JM (lns++bK l)):=by
 refine am func195 λ_=>(au) ?_;intro _;refine(bR)<|(cR)<|aj eA call25 (lz (g:= .ls l) (v:=v))<|(dF)<|(pO)<|aI eA call29 (qQ (l:=l)) λv1 Fs1 ⟨q,e1,e2,e3⟩=>?_;subst e2;subst e3;subst e1;refine aj eA call84 (tN (q:=q))<|(aq) ?_;intro r5;refine(wO)<|aj eA call98 (jB (l:=q.l))<|(wG)<|aU [(0,0),(7,9),(25,40)] (λ(x:Nat×Value×List ae)=>x.1<=q.l.length/\uo x.2.1 (lns++bK (q.l.take x.1)) x.2.2) (λx=>[(7,iv x.1),(0,x.2.1)]) (λ_=>[]) (λx=>x.2.2) (λx=>q.l.length-x.1) ((0,v0,B)) (⟨bf _,by simpa[bK] using h0⟩) λ⟨i,v1,B1⟩ fr ⟨h5,h6⟩=>?_;dsimp only at h5 h6;refine(lN)<|ao ?_ ?_
 ·intro hc27;have hlt:i<q.l.length:=by have:=of_decide_eq_true hc27;dsimp only at this;omega
  obtain⟨b,hb'⟩:∃x,q.l[i]? =some x:=⟨_,aG hlt⟩;have hsl:=GU (q.l.take i);rw[lV] at hsl;refine(CP) ?_;rcases i with _|i
  ·refine(mH)<|(aB)<|aj eA call286 (UQ (l:=q.l))<|(x5) ?_;intro r8;refine(de)<|(cF)<|(gH)<|(jM) ?_;exact⟨(1,v1,B1),oA,⟨oA,by simpa[bK,dO hb'] using h6⟩,lA,kA,fA,hA⟩
  ·refine(mH)<|(aB) ?_;obtain⟨a,ha⟩:∃x,q.l[i]? =some x:=⟨_,aG aa⟩;have e6:bK (q.l.take (i+1+1))=bK (q.l.take (i+1))++(if aV a b then [] else [(a,b)]):=by rw[dO hb',dO ha,cG];exact Lb _ a b
   refine aj eA call286 (UP ha hb')<|(x5) ?_;intro r8;refine(de)<|(cF)<|(aN)<|ao ?_ ?_
   ·intro hc36;have e7:bK (q.l.take (i+1+1))=bK (q.l.take (i+1))++[(a,b)]:=by rw[e6];simp at hc36;simp[hc36]
    refine(aY)<|(gq)<|(eD) ?_;intro b39;refine di (e:=223) (size:=4) (news:=km (a,b)) ab O O O O O O O (B:=B1) tA h6 O (bD mA) O O (by simp only[maxLen,aW];omega) (by show((lns++bK (q.l.take (i+1))).length+1)*32<=_;simp only[aW];omega) O λv' B' hs'=>(I4) ?_;exact⟨(i+1+1,v',B'),oA,⟨oA,by dsimp only;rw[e7,<-cG];exact uo.snoc hs'⟩,lA,kA,fA,hA⟩
   ·intro hc36;have e7:bK (q.l.take (i+1+1))=bK (q.l.take (i+1)):=by rw[e6];simp at hc36;simp[hc36]
    refine(bX)<|(jM) ?_;exact⟨(i+1+1,v1,B1),oA,⟨oA,by dsimp only;rw[e7];exact h6⟩,lA,kA,fA,hA⟩
 ·intro hc27;have hge:i=q.l.length:=by have:=of_decide_eq_false hc27;dsimp only at this;omega
  subst hge;rw[dg] at h6;refine(eG)<|(ir)<|(bJ)<|(bO)<|aH [] B1 ?_;exact⟨h6,O⟩
theorem alc {v0:Value} (h0:uo v0 lns B) (hb:lns.length+(GM.mls lss).pts.length<=16777216):
  ai prog 195 [v0,gv (.mls lss) v].toArray [aE (.mls lss) v] B (JM (lns++(GM.mls lss).lns)):=by
 simp only[GM.pts,GM.lns] at hb ⊢;refine am func195 λ_=>(au) ?_;intro _;refine(bR)<|(cR)<|aj eA call25 (lz (g:= .mls lss) (v:=v))<|(dF)<|(Ft)<|aI eA call35 (qP (lss:=lss)) λv1 Fs1 ⟨p,cp,e2,e3⟩=>?_;subst e2;subst e3;refine dP (φ:=lss.length<=1048576) (λhp al=>by obtain⟨_,h,_⟩:=al (bQ p lss cp) mA;exact h.2) λhlb=>(aq) ?_;intro r10;refine(cu)<|(vD)<|aU [(0,0),(11,12),(45,57)] (λ(x:Nat×Value×List ae)=>x.1<=lss.length/\uo x.2.1 (lns++(lss.take x.1).flatMap bK) x.2.2) (λx=>[(11,iv x.1),(0,x.2.1)]) (λ_=>[]) (λx=>x.2.2) (λx=>lss.length-x.1) ((0,v0,B)) (⟨bf _,by simpa using h0⟩) λ⟨i,v1,B1⟩ fr ⟨h5,h6⟩=>?_;dsimp only at h5 h6;refine(eE)<|(eH)<|aj eA call58 (xr (lss:=lss))<|(kU)<|ao ?_ ?_
 ·intro hc48;have hlt:i<lss.length:=by have:=of_decide_eq_true hc48;dsimp only at this;omega
  obtain⟨l,hli⟩:∃x,lss[i]? =some x:=⟨_,aG hlt⟩;have hlen:=ac3 (lns:=lns) hli hb;refine(mB)<|aI eA call59 (vW hli) λv2 Fs1 ⟨q1,e1,e2,e3⟩=>?_;subst e1;subst e2;subst e3;refine(aq) ?_;intro r12;refine(y7)<|aI eA call43 (yE (q:=q1)) λv2 Fs2 ⟨u,e4,e5⟩=>?_;subst e4;subst e5;refine aS eA call195 (WO (l:=q1.l) (v:=u) h6 hlen) λv' Fs' B' ⟨hs',e2⟩=>?_;subst e2;refine(I4) ?_;exact⟨(i+1,v',B'),oA,⟨oA,by dsimp only;rw[dO hli,ft,<-cG];simpa using hs'⟩,lA,kA,fA,hA⟩
 ·intro hc48;have hge:i=lss.length:=by have:=of_decide_eq_false hc48;dsimp only at this;omega
  subst hge;rw[dg] at h6;refine(eG)<|(ir)<|(bJ)<|(bO)<|aH [] B1 ?_;exact⟨h6,O⟩
theorem WP:∀(k:Nat) (g:GM) (v v0:Value) (lns:List Ln) (B:List ae),SizeOf.sizeOf g<=k->uo v0 lns B->lns.length+g.pts.length<=16777216->
  ai prog 195 [v0,gv g v].toArray [aE g v] B (JM (lns++g.lns))
 |0,g,v,v0,lns,B,h,_,_=>by cases g<;>simp at h
 |k+1,.ls l,v,v0,lns,B,h,h0,hb=>by simpa only[GM.lns] using WO h0 (by simpa only[GM.pts] using hb)
 |k+1,.mls lss,v,v0,lns,B,h,h0,hb=>alc h0 hb
 |k+1,.gc gs,v,v0,lns,B,h,h0,hb=>by
  simp only[GM.pts,GM.lns] at hb ⊢;have IH:∀g∈gs,∀(v v0:Value) (lns:List Ln) (B:List ae),uo v0 lns B->lns.length+g.pts.length<=16777216->ai prog 195 [v0,gv g v].toArray [aE g v] B (JM (lns++g.lns)):=λg hg v v0 lns B h0 hb=>WP k g v v0 lns B (by have:=vN hg;simp at h;omega) h0 hb;refine am func195 λ_=>(au) ?_;intro _;refine(bR)<|(cR)<|aj eA call25 (lz (g:= .gc gs) (v:=v))<|(ot)<|(Ft)<|aI eA call39 (sb (gs:=gs)) λv1 Fs1 ⟨p,cp,e2,e3⟩=>?_;subst e2;subst e3;refine dP (φ:=gs.length<=1048576) (λhp al=>by obtain⟨_,h,_⟩:=al (dA p gs cp) mA;exact h.2) λhlb=>(aq) ?_;intro r13;refine(wO)<|aj eA call95 (Al (gs:=gs))<|(wG)<|aU [(0,0),(15,15),(80,89)] (λ(x:Nat×Value×List ae)=>x.1<=gs.length/\uo x.2.1 (lns++nW (gs.take x.1)) x.2.2) (λx=>[(15,iv x.1),(0,x.2.1)]) (λ_=>[]) (λx=>x.2.2) (λx=>gs.length-x.1) ((0,v0,B)) (⟨bf _,by simpa[nW] using h0⟩) λ⟨i,v1,B1⟩ fr ⟨h5,h6⟩=>?_;dsimp only at h5 h6;refine(lN)<|ao ?_ ?_
  ·intro hc82;have hlt:i<gs.length:=by have:=of_decide_eq_true hc82;dsimp only at this;omega
   obtain⟨g,hgi⟩:∃x,gs[i]? =some x:=⟨_,aG hlt⟩;have hlen:=ac2 (lns:=lns) hgi hb;refine(j5)<|(js)<|(aB)<|aI eA call96 (Ci hgi) λv2 Fs1 ⟨u,e2,e3⟩=>?_;subst e2;subst e3;refine aS eA call195 (IH g (bn hgi) u v1 _ B1 h6 hlen) λv' Fs' B' ⟨hs',e2⟩=>?_;subst e2;refine(I4) ?_;exact⟨(i+1,v',B'),oA,⟨oA,by dsimp only;rw[dO hgi,S6,<-cG];simpa[nW] using hs'⟩,lA,kA,fA,hA⟩
  ·intro hc82;have hge:i=gs.length:=by have:=of_decide_eq_false hc82;dsimp only at this;omega
   subst hge;rw[dg] at h6;refine(eG)<|(ir)<|(bJ)<|(bO)<|aH [] B1 ?_;exact⟨h6,O⟩
end Go.Proofs
namespace Go.Proofs
open Tryz
open Go.V
def lk (a:Pt):List Pt->List Pt
 |[]=>[]
 |b::l=>if aV b a then lk b l else b::lk b l
def uq:List Pt->List Pt
 |[]=>[]
 |a::l=>a::lk a l
theorem Qg:∀(c:Pt) (l:List Pt) (a b:Pt),lk c (l++[a,b])=lk c (l++[a])++(if aV b a then [] else [b])
 |c,[],a,b=>by
  simp only[j6,lk];cases aV a c<;>cases aV b a<;>simp[lk]
 |c,d::l,a,b=>by
  have ih:=Qg d l a b;simp only[pY,lk,ih];cases aV d c<;>simp
theorem Yu (l:List Pt) (a b:Pt):uq (l++[a,b])=uq (l++[a])++(if aV b a then [] else [b]):=by
 cases l with
 |nil=>simp[uq,lk]
 |cons c l=>simp only[pY,uq,Qg]
theorem Qj:∀(a:Pt) (l:List Pt),(lk a l).length<=l.length
 |_,[]=>bg _
 |a,b::l=>by
  have:=Qj b l;simp only[lk];split<;>simp only[cE]<;>omega
theorem DJ:∀l:List Pt,(uq l).length<=l.length
 |[]=>bg _
 |a::l=>by have:=Qj a l;simp only[uq,cE];omega
theorem Yt {l:List Pt} {i:Nat} {a b:Pt} (hi:1<=i) (ha:l[i-1]? =some a) (hb:l[i]? =some b):uq (l.take (i+1))=uq (l.take i)++(if aV b a then [] else [b]):=by
 obtain⟨j,rfl⟩:∃j,i=j+1:=⟨i-1,aa⟩;simp only[Bs] at ha;rw[dO hb,dO ha,cG];exact Yu _ a b
theorem Gz {α:Type} {l:List α} {k:Nat} {x:α} (hk:k<l.length):(l.set k x).take (k+1)=l.take k++[x]:=by
 rw[Gf,List.take_set_of_le (bg _)];simp[hk]
theorem Qf {l:List Pt} (h:0<l.length):l.take 1=uq (l.take 1):=by
 cases l with
 |nil=>cases h
 |cons a l=>rfl
theorem acB {l m:List Pt} {i k:Nat} {b:Pt} (h:∀j,i<=j+1->l[j]? =m[j]?) (hb:l[i]? =some b) (hk:k<=i):∀j,i+1<=j+1->(l.set k b)[j]? =m[j]? :=by
 intro j hj;rw[s9];split
 ·rename_i e;subst e;have:k=i:=by omega
  subst this;rw[<-h k aa,hb];simp[da hb]
 ·exact h j aa
theorem aiZ {l:List Pt} {k:Nat} (b:Pt) (h:k<l.length):(bl l).take (k*2)++[aw b.1,aw b.2]++(bl l).drop (k*2+2)=bl (l.set k b):=
 tI (F:=λp:Pt=>[aw p.1,aw p.2]) b (λ_ _=>rfl) (aG h)
abbrev gj (v:Value) (l:List Pt) (B:List ae):Prop:=aJ 79 2 v l.length (bl l) B
abbrev pE:Pt->List Value:=λp=>[aw p.1,aw p.2]
variable {cs:List Pt} {v:Value} {B:List ae}
theorem Qk (h0:gj v cs B) (hb:cs.length<=16777216):ai prog 335 [v].toArray [] B (λv' Fs' L'=>gj v' (uq cs) L'/\Fs'=[]):=by
 obtain⟨p,cap,rfl⟩:=h0.shape;rcases xe cs.length with hz|hpos
 ·have hnil:cs=[]:=Bn.1 hz;subst hnil;refine am func335 λ_=>(wB)<|(sO)<|(vE)<|(bJ)<|(mJ)<|aH [] B ?_;exact⟨h0,O⟩
 ·obtain⟨g,cap',cur,e5,rfl,hc1,hc2,hc3,hc4⟩:=h0.one hpos;cases e5;refine am func335 λ_=>(wB)<|(sO)<|(aN) ?_;refine gz O (λhc7=>absurd hc7 (by have:=of_decide_eq_true hc7;omega)) (λhc7=>(bX)<|(ba)<|(oQ)<|aU [(3,4),(9,33)] (λ(x:Nat×Nat×List Pt×Array Value)=>(1<=x.1/\x.1<=cs.length)/\x.2.1=(uq (cs.take x.1)).length/\x.2.2.1.length=cs.length/\x.2.2.1.take x.2.1=uq (cs.take x.1)/\(∀j,x.1<=j+1->x.2.2.1[j]? =cs[j]?)/\aJ 79 2 (.slice (some ⟨g,0,none⟩) cs.length cap) cs.length (bl x.2.2.1) [(g,.cells x.2.2.2 79 (0,0))]) (λx=>[(4,iv x.1),(3,iv x.2.1)]) (λ_=>[]) (λx=>[(g,.cells x.2.2.2 79 (0,0))]) (λx=>cs.length-x.1) ((1,1,cs,cur)) (⟨⟨bg _,hpos⟩,by rw[<-Qf hpos,lV];dsimp only;omega,O,Qf hpos,λ_ _=>O,h0⟩) λ⟨i,k,ws,cur1⟩ fr ⟨⟨h3,h4⟩,hk,h5,h6,h7,h8⟩=>?_);dsimp only at h3 h4 hk h5 h6 h7 h8;refine(lL)<|(dH)<|(kU)<|ao ?_ ?_
  ·intro hc12;have hlt:i<cs.length:=by have:=of_decide_eq_true hc12;dsimp only at this;omega
   obtain⟨b,hb'⟩:∃x,cs[i]? =some x:=⟨_,aG hlt⟩;obtain⟨a,ha'⟩:∃x,cs[i-1]? =some x:=⟨_,aG aa⟩;have hbw:ws[i]? =some b:=by rw[h7 i aa];exact hb'
   have haw:ws[i-1]? =some a:=by rw[h7 (i-1) aa];exact ha'
   have hst:=Yt h3 ha' hb';have hul:=DJ (cs.take i);rw[lV,<-hk] at hul;obtain⟨g1,cap1,cur2,e5,e6,hd1,hd2,hd3,hd4⟩:=h8.one hpos;cases e5;simp only[Bm,yg,PR,and_true,true_and] at e6;subst e6;refine(CP)<|(JC)<|(zn) ?_;refine ac O (bp (s:=2) (i:=i) ab O O O O O aa aa O) ?_;refine ac O (aK ab O O O (fK (F:=pE) (k:=2) (iI mA hd4) (jG ws) hbw aa) O O)<|(zn)<|(AQ) ?_;refine ac O (bp (s:=2) (i:=i-1) ab O O O O O aa aa O) ?_;refine ac O (aK ab O O O (fK (F:=pE) (k:=2) (iI mA hd4) (jG ws) haw aa) O O) ?_;refine ac O (vY O O qV (λw=>qo 9998 w _ _ _ _) O)<|(pH)<|ao ?_ ?_
   ·intro hc24;have he:aV b a=false:=by simp only[aV,Bool.and_eq_false_iff];simpa using hc24
    rw[he] at hst;simp only[ld,if_false] at hst;refine(fb)<|(dG) ?_;refine bp (s:=2) (i:=i) ab O O O O O (by omega) (by omega) O ?_;refine aK ab O O O (fK (F:=pE) (k:=2) (iI mA hd4) (jG ws) hbw (by omega)) O O ?_;refine bp (s:=2) (i:=k) ab O O O O O (by first|omega|dsimp only) (by omega) O ?_;refine uQ (i:=k) (size:=2) (vs:=pE b) ab O h8 O O O O O O (by omega) (λ_=>uA) λcur3 hs3=>?_;rw[aiZ b (show k<ws.length by omega)] at hs3;refine(aN)<|(aY)<|(dm)<|(I4) ?_;exact⟨(i+1,k+1,ws.set k b,cur3),oA,⟨⟨oA,oA⟩,by rw[hst,aW,<-hk];rfl,by simpa using h5,by rw[hst,Gz aa,h6],acB h7 hbw aa,hs3⟩,lA,kA,fA,hA⟩
   ·intro hc24;have he:aV b a=true:=by simp only[aV,eI];simpa using hc24
    rw[he] at hst;simp only[if_true,jz] at hst;refine(bX)<|(jM) ?_;exact⟨(i+1,k,ws,cur1),oA,⟨⟨oA,oA⟩,by rw[hst,<-hk],h5,by rw[hst,h6],λj hj=>h7 j aa,h8⟩,lA,kA,fA,hA⟩
  ·intro hc12;have hge:i=cs.length:=by have:=of_decide_eq_false hc12;dsimp only at this;omega
   subst hge;rw[dg] at h6 hk;have hul:=DJ cs;refine(eG)<|(fb) ?_;refine ER ab O O O (l:=0) (h:=k) O .none (.some O O) (bf _) aa O<|(bO)<|aH [] [(g,.cells cur1 79 (0,0))] ?_;exact⟨by have h9:=xl h8 h5 (k:=k) aa;rw[h6] at h9;unfold gj;rw[<-hk];simpa[bw,Addr.add] using h9,rfl⟩
end Go.Proofs
namespace Go.Proofs
open Tryz
open Go.V Go.Sort
structure SF (β:Type) [Inhabited β] where
 lf:Nat
 sf:Nat
 lfv:List Value
 lcv:List Value
 sfv:List Value
 scv:List Value
 G:List an
 LL:Array β->List ae
 lt:β->β->Bool
 n:Nat
 Ok:Array β->Prop
structure kq {β:Type} [Inhabited β] (S:SF β):Prop where
 lessE:∀(args:Array Value) (w:World),(callFunc S.lf args).run prog w= .ok (.enter S.lf args) w
 less:∀d,S.Ok d->∀(x y:Int) (i j:Nat),x=i->y=j->i<S.n->j<S.n->
  ai prog S.lf (S.lfv++([iv x,iv y]++S.lcv)).toArray S.G (S.LL d) (λv Fs' L'=>(v= .bool (S.lt d[i]! d[j]!)/\Fs'=[])/\L'=S.LL d)
 swap:∀d,S.Ok d->∀(x y:Int) (i j:Nat),x=i->y=j->i<S.n->j<S.n->
  IJ prog S.sf (S.sfv++([iv x,iv y]++S.scv)).toArray (S.LL d) (λv L'=>v= .tuple #[]/\L'=S.LL (swp d i j))
 size:∀d,S.Ok d->d.size=S.n
 ok:∀d,S.Ok d->∀i j:Nat,i<S.n->j<S.n->S.Ok (swp d i j)
 small:S.n<=4294967295
variable {β:Type} [Inhabited β] {S:SF β} {d:Array β} {a b:Nat}
abbrev SF.v (S:SF β):Value:= .agg #[.func (.func S.lf) S.lfv.toArray S.lcv.toArray,.func (.func S.sf) S.sfv.toArray S.scv.toArray]
abbrev AG (S:SF β) (d:Array β):cZ:=λ_ Fs' L'=>Fs'=[]/\S.Ok d/\L'=S.LL d
theorem T5 {lt:β->β->Bool} {j:Nat} (h:¬(a<j/\lt d[j]! d[j-1]! =true)):insInner lt a j d=d:=by
 cases j with
 |zero=>rfl
 |succ j=>
  simp only[Bs] at h;simp only[insInner];rw[if_neg];simpa using h
theorem ag9 {lt:β->β->Bool} {j:Nat} (h:a<j) (h2:lt d[j]! d[j-1]! =true):insInner lt a j d=insInner lt a (j-1) (swp d j (j-1)):=by
 cases j with
 |zero=>omega
 |succ j=>
  simp only[Bs] at h2 ⊢;simp only[insInner];rw[if_pos];simp[h2,h]
theorem ag7 {lt:β->β->Bool} {i:Nat} (h:b<=i):insOuter lt a b i d=d:=by
 rw[insOuter,if_neg aa]
theorem ag8 {lt:β->β->Bool} {i:Nat} (h:i<b):insOuter lt a b i d=insOuter lt a b (i+1) (insInner lt a i d):=by
 rw[insOuter,if_pos h]
theorem ag5 (hS:kq S) (hd:S.Ok d) (hab:a<=b) (hb:b<=S.n):ai prog 370 [S.v,iv a,iv b].toArray S.G (S.LL d) (AG S (insertionSort S.lt d a b)):=by
 have hsm:=hS.small;refine am func370 λ_=>(au) ?_;intro _;refine(qC)<|(dm)<|(nz)<|aU [(6,7),(10,34)] (λ(x:Nat×Array β)=>(a+1<=x.1/\x.1<=b+1)/\S.Ok x.2/\insOuter S.lt a b x.1 x.2=insOuter S.lt a b (a+1) d) (λx=>[(6,iv x.1)]) (λ_=>[]) (λx=>S.LL x.2) (λx=>b-x.1) ((a+1,d)) (⟨⟨bg _,by dsimp only;omega⟩,hd,O⟩) λ⟨i,d1⟩ fr ⟨⟨h3,h4⟩,h5,h6⟩=>?_;dsimp only at h3 h4 h5 h6;refine(lN)<|ao ?_ ?_
 ·intro hc12;have hlt:i<b:=by have:=of_decide_eq_true hc12;dsimp only at this;omega
  rw[ag8 hlt] at h6;refine(rK)<|(nz)<|aU [(7,7),(16,34)] (λ(y:Nat×Array β)=>(a<=y.1/\y.1<=i)/\S.Ok y.2/\insInner S.lt a y.1 y.2=insInner S.lt a i d1) (λy=>[(7,iv y.1)]) (λ_=>[]) (λy=>S.LL y.2) (λy=>y.1) ((i,d1)) (⟨⟨by dsimp only;omega,bg _⟩,h5,O⟩) λ⟨j,d2⟩ fr1 ⟨⟨g3,g4⟩,g5,g6⟩=>?_;dsimp only at g3 g4 g5 g6;refine(vo) ?_;rcases dL a j with hj|hj
  ·refine(cO) ?_;refine aL O O (by show some (decide _)=some true;simp;omega) O<|(jW)<|(ON) ?_;refine ah O O (dj O eA hS.lessE (NF.refl _) (hS.less d2 g5 _ _ j (j-1) O aa aa aa) λv Fs' L' ⟨⟨e1,e2⟩,e3⟩=>?_);subst e1;subst e2;subst e3;refine(fm)<|ao ?_ ?_
   ·intro hc26;refine(j5)<|(qB)<|(dG)<|(jg) ?_;refine nZ O eA (NF.refl _) (hS.swap d2 g5 _ _ j (j-1) O aa aa aa) tA O λv L' ⟨e1,e2⟩=>?_;subst e1;subst e2;refine(aN)<|(zb) ?_;refine ew (m:=((j-1:Nat):Int)) O O aa iA O<|(bt) ?_;exact⟨(j-1,swp d2 j (j-1)),oA,⟨⟨oA,oA⟩,hS.ok d2 g5 j (j-1) aa aa,by dsimp only;rw[<-ag9 hj hc26];exact g6⟩,lA,kA,fA,hA⟩
   ·intro hc26;refine(eG)<|(jM) ?_;exact⟨(i+1,d2),oA,⟨⟨oA,oA⟩,g5,by dsimp only;rw[<-h6,<-g6,T5 (by simp[hc26])]⟩,lA,kA,fA,hA⟩
  ·refine(cO) ?_;refine aL O O (by show some (decide _)=some false;simp;omega) O<|(vn)<|(jM) ?_;exact⟨(i+1,d2),oA,⟨⟨oA,oA⟩,g5,by dsimp only;rw[<-h6,<-g6,T5 aa]⟩,lA,kA,fA,hA⟩
 ·intro hc12;have hge:b<=i:=by have:=of_decide_eq_false hc12;dsimp only at this;omega
  rw[ag7 hge] at h6;have e:d1=insertionSort S.lt d a b:=h6;refine(nF)<|ed [] (S.LL d1) ?_;exact⟨O,e▸h5,by rw[e]⟩
theorem acm {lt:β->β->Bool} {hi r:Nat} (h:hi<=2*r+1):siftDown lt hi a r d=d:=by
 rw[siftDown,dif_pos aa]
theorem acn {lt:β->β->Bool} {hi r:Nat} (h:2*r+1+1<hi) (h1:lt d[a+(2*r+1)]! d[a+(2*r+1)+1]! =true) (h2:lt d[a+r]! d[a+(2*r+2)]! =false):siftDown lt hi a r d=d:=by
 rw[siftDown,dif_neg aa,if_pos (by simp[h,h1]),if_pos (by simp[h2])]
theorem aco {lt:β->β->Bool} {hi r:Nat} (h:2*r+1+1<hi) (h1:lt d[a+(2*r+1)]! d[a+(2*r+1)+1]! =true) (h2:lt d[a+r]! d[a+(2*r+2)]! =true):siftDown lt hi a r d=siftDown lt hi a (2*r+2) (swp d (a+r) (a+(2*r+2))):=by
 rw[siftDown,dif_neg aa,if_pos (by simp[h,h1]),if_neg (by simp[h2]),dif_pos aa]
theorem Rc {lt:β->β->Bool} {hi r:Nat} (h:2*r+1<hi) (h1:¬(2*r+1+1<hi/\lt d[a+(2*r+1)]! d[a+(2*r+1)+1]! =true)) (h2:lt d[a+r]! d[a+(2*r+1)]! =false):siftDown lt hi a r d=d:=by
 rw[siftDown,dif_neg aa,if_neg (by simpa using h1),if_pos (by simp[h2])]
theorem Rd {lt:β->β->Bool} {hi r:Nat} (h:2*r+1<hi) (h1:¬(2*r+1+1<hi/\lt d[a+(2*r+1)]! d[a+(2*r+1)+1]! =true)) (h2:lt d[a+r]! d[a+(2*r+1)]! =true):siftDown lt hi a r d=siftDown lt hi a (2*r+1) (swp d (a+r) (a+(2*r+1))):=by
 rw[siftDown,dif_neg aa,if_neg (by simpa using h1),if_neg (by simp[h2])]
theorem Rb {r hi:Nat} (hS:kq S) (hd:S.Ok d) (hb:a+hi<=S.n) (hr:r<=S.n):ai prog 405 [S.v,iv r,iv hi,iv a].toArray S.G (S.LL d) (AG S (siftDown S.lt hi a r d)):=by
 have hsm:=hS.small;refine am func405 λ_=>(au) ?_;intro _;refine(qC)<|(nz)<|aU [(8,9),(11,54)] (λ(x:Nat×Array β)=>x.1<=S.n/\S.Ok x.2/\siftDown S.lt hi a x.1 x.2=siftDown S.lt hi a r d) (λx=>[(8,iv x.1)]) (λ_=>[]) (λx=>S.LL x.2) (λx=>S.n+1-x.1) ((r,d)) (⟨by dsimp only;omega,hd,O⟩) λ⟨i,d1⟩ fr ⟨h3,h5,h6⟩=>?_;dsimp only at h3 h5 h6;refine(gU)<|(bJ) ?_;refine iM (m:=((2*i:Nat):Int)) O O aa iA O ?_;refine dD (m:=((2*i+1:Nat):Int)) O O aa iA O<|(jL)<|(uj)<|ao ?_ ?_
 ·intro hc16;have hge:hi<=2*i+1:=by have:=of_decide_eq_true hc16;omega
  rw[acm hge] at h6;refine(CV)<|ed [] (S.LL d1) ?_;exact⟨O,h6▸h5,by rw[h6]⟩
 ·intro hc16;have hlt:2*i+1<hi:=by have:=of_decide_eq_false hc16;omega
  refine(om)<|(ce) ?_;rcases dL (2*i+1+1) hi with hj|hj
  ·refine(aY)<|(qA) ?_;refine aL O O (by show some (decide _)=some true;simp;omega) O<|(jW)<|(OL)<|(fN)<|(fN)<|(OL)<|(OL) ?_;refine ah O O (dj O eA hS.lessE (NF.refl _) (hS.less d1 h5 _ _ (a+(2*i+1)) (a+(2*i+1)+1) aa aa aa aa) λv Fs' L' ⟨⟨e1,e2⟩,e3⟩=>?_);subst e1;subst e2;subst e3;refine(fm)<|ao ?_ ?_
   ·intro hc32;obtain⟨q,hq,hqh⟩:∃q,q=2*i+2/\q<hi:=⟨_,rfl,aa⟩;have hno:S.lt d1[a+i]! d1[a+q]! =false->siftDown S.lt hi a i d1=d1:=λh=>acn hj hc32 (hq▸h);have hgo:S.lt d1[a+i]! d1[a+q]! =true->siftDown S.lt hi a i d1=siftDown S.lt hi a q (swp d1 (a+i) (a+q)):=λh=>by rw[hq] at h ⊢;exact aco hj hc32 h
    refine(aY) ?_;refine dD (m:=((2*i+2:Nat):Int)) O O aa iA O<|(bR)<|(nt) ?_;refine dj O eA hS.lessE (NF.refl _) (hS.less d1 h5 _ _ (a+i) (a+q) aa aa aa aa) λv Fs' L' ⟨⟨e1,e2⟩,e3⟩=>?_;subst e1;subst e2;subst e3;refine(Ja)<|ao ?_ ?_
    ·intro hc44;rw[hno (by simpa using hc44)] at h6;refine(AW)<|aH [] (S.LL d1) ?_;exact⟨O,h6▸h5,by rw[h6]⟩
    ·intro hc44;rw[hgo (by simpa using hc44)] at h6;refine(bX)<|(nt) ?_;refine nZ O eA (NF.refl _) (hS.swap d1 h5 _ _ (a+i) (a+q) aa aa aa aa) tA O λv L' ⟨e1,e2⟩=>?_;subst e1;subst e2;subst hq;refine(lK) ?_;exact⟨(2*i+2,swp d1 (a+i) (a+(2*i+2))),oA,⟨oA,hS.ok d1 h5 _ _ aa aa,h6⟩,lA,kA,fA,hA⟩
   ·intro hc32;obtain⟨q,hq,hqh⟩:∃q,q=2*i+1/\q<hi:=⟨_,rfl,aa⟩;have hno:S.lt d1[a+i]! d1[a+q]! =false->siftDown S.lt hi a i d1=d1:=λh=>Rc hlt (by simp[hc32]) (hq▸h);have hgo:S.lt d1[a+i]! d1[a+q]! =true->siftDown S.lt hi a i d1=siftDown S.lt hi a q (swp d1 (a+i) (a+q)):=λh=>by rw[hq] at h ⊢;exact Rd hlt (by simp[hc32]) h
    refine(om)<|(nt) ?_;refine dj O eA hS.lessE (NF.refl _) (hS.less d1 h5 _ _ (a+i) (a+q) aa aa aa aa) λv Fs' L' ⟨⟨e1,e2⟩,e3⟩=>?_;subst e1;subst e2;subst e3;refine(Ja)<|ao ?_ ?_
    ·intro hc44;rw[hno (by simpa using hc44)] at h6;refine(AW)<|aH [] (S.LL d1) ?_;exact⟨O,h6▸h5,by rw[h6]⟩
    ·intro hc44;rw[hgo (by simpa using hc44)] at h6;refine(bX)<|(nt) ?_;refine nZ O eA (NF.refl _) (hS.swap d1 h5 _ _ (a+i) (a+q) aa aa aa aa) tA O λv L' ⟨e1,e2⟩=>?_;subst e1;subst e2;subst hq;refine(lK) ?_;exact⟨(2*i+1,swp d1 (a+i) (a+(2*i+1))),oA,⟨oA,hS.ok d1 h5 _ _ aa aa,h6⟩,lA,kA,fA,hA⟩
  ·refine(aY)<|(qA) ?_;refine aL O O (by show some (decide _)=some false;simp;omega) O<|(oq)<|(zc)<|(pJ)<|(vo) ?_;obtain⟨q,hq,hqh⟩:∃q,q=2*i+1/\q<hi:=⟨_,rfl,aa⟩;have hno:S.lt d1[a+i]! d1[a+q]! =false->siftDown S.lt hi a i d1=d1:=λh=>Rc hlt aa (hq▸h);have hgo:S.lt d1[a+i]! d1[a+q]! =true->siftDown S.lt hi a i d1=siftDown S.lt hi a q (swp d1 (a+i) (a+q)):=λh=>by rw[hq] at h ⊢;exact Rd hlt aa h
   refine(qB)<|(dG)<|(dm)<|(dG)<|(dm) ?_;refine dj O eA hS.lessE (NF.refl _) (hS.less d1 h5 _ _ (a+i) (a+q) aa aa aa aa) λv Fs' L' ⟨⟨e1,e2⟩,e3⟩=>?_;subst e1;subst e2;subst e3;refine(Ja)<|ao ?_ ?_
   ·intro hc44;rw[hno (by simpa using hc44)] at h6;refine(AW)<|aH [] (S.LL d1) ?_;exact⟨O,h6▸h5,by rw[h6]⟩
   ·intro hc44;rw[hgo (by simpa using hc44)] at h6;refine(bX)<|(nt) ?_;refine nZ O eA (NF.refl _) (hS.swap d1 h5 _ _ (a+i) (a+q) aa aa aa aa) tA O λv L' ⟨e1,e2⟩=>?_;subst e1;subst e2;subst hq;refine(lK) ?_;exact⟨(2*i+1,swp d1 (a+i) (a+(2*i+1))),oA,⟨oA,hS.ok d1 h5 _ _ aa aa,h6⟩,lA,kA,fA,hA⟩
end Go.Proofs
namespace Go.Proofs
open Tryz
open Go.V Go.Sort
variable {β:Type} [Inhabited β] {S:SF β} {d:Array β} {a b:Nat}
theorem ahp (hS:kq S) (hd:S.Ok d) (hab:a<b) (hb:b<=S.n):ai prog 371 [S.v,iv a,iv b].toArray S.G (S.LL d) (AG S (heapSort S.lt d a b)):=by
 have hsm:=hS.small;refine am func371 λ_=>(au) ?_;intro _;refine(qC)<|(fo)<|(iz) ?_;refine ew (m:=((b-a:Nat):Int)) O O aa iA O<|(iC) ?_;refine ew (m:=((b-a-1:Nat):Int)) O O aa iA O ?_;refine pj (m:=(((b-a-1)/2:Nat):Int)) O O aa aa aa iA O<|(nz)<|aU [(9,9),(18,26)] (λ(x:Int×Array β)=>∃k:Nat,x.1=(k:Int)-1/\k<=S.n/\S.Ok x.2/\heapBuild S.lt (b-a) a k x.2=heapBuild S.lt (b-a) a ((b-a-1)/2+1) d) (λx=>[(9,iv x.1)]) (λ_=>[]) (λx=>S.LL x.2) (λx=>(x.1+1).toNat) (((((b-a-1)/2:Nat):Int),d)) (⟨(b-a-1)/2+1,by dsimp only;omega,aa,hd,O⟩) λ⟨i,d1⟩ fr ⟨k,h3,h4,h5,h6⟩=>?_;dsimp only at h3 h4 h5 h6;refine(eE)<|(uj)<|ao ?_ ?_
 ·intro hc19;have hge:=of_decide_eq_true hc19;dsimp only at hge;obtain⟨j,rfl⟩:∃j,k=j+1:=⟨k-1,aa⟩;obtain rfl:i=(j:Int):=by omega
  rw[heapBuild] at h6;refine(j5)<|(mH)<|(mD)<|aS eA call405 (Rb (r:=j) (hi:=b-a) (a:=a) hS h5 aa aa) λv Fs' L' ⟨e1,e2,e3⟩=>?_;subst e1;subst e3;refine(aN)<|(zb)<|(jg)<|(bt) ?_;exact⟨((j:Int)-1,_),oA,⟨j,O,oA,e2,h6⟩,lA,kA,fA,hA⟩
 ·intro hc19;have hlt:=of_decide_eq_false hc19;dsimp only at hlt;obtain rfl:k=0:=by omega
  have h7:d1=heapBuild S.lt (b-a) a ((b-a-1)/2+1) d:=h6;refine(CU) ?_;refine ew (m:=((b-a:Nat):Int)-1) O O aa iA O<|(nz)<|aU [(10,10),(29,44)] (λ(x:Int×Array β)=>∃k:Nat,x.1=(k:Int)-1/\k<=b-a/\S.Ok x.2/\heapPop S.lt a k x.2=heapPop S.lt a (b-a) d1) (λx=>[(10,iv x.1)]) (λ_=>[]) (λx=>S.LL x.2) (λx=>(x.1+1).toNat) ((((b-a:Nat):Int)-1,d1)) (⟨b-a,O,bg _,h5,O⟩) λ⟨i2,d2⟩ fr2 ⟨k,g3,g4,g5,g6⟩=>?_;dsimp only at g3 g4 g5 g6;refine(eE)<|(uj)<|ao ?_ ?_
  ·intro hc30;have hge:=of_decide_eq_true hc30;dsimp only at hge;obtain⟨j,rfl⟩:∃j,k=j+1:=⟨k-1,aa⟩;obtain rfl:i2=(j:Int):=by omega
   rw[heapPop] at g6;refine(j5)<|(fR)<|(mD)<|(dm) ?_;refine nZ O eA (NF.refl _) (hS.swap d2 g5 _ _ a (a+j) aa aa aa aa) tA O λv L' ⟨e1,e2⟩=>?_;subst e1;subst e2;have g7:=hS.ok d2 g5 a (a+j) aa aa;refine(aN)<|(mH)<|(mD)<|aS eA call405 (Rb (r:=0) (hi:=j) (a:=a) hS g7 aa aa) λv Fs' L' ⟨e1,e2,e3⟩=>?_;subst e1;subst e3;refine(aN)<|(zb)<|(jg)<|(bt) ?_;exact⟨((j:Int)-1,_),oA,⟨j,O,oA,e2,g6⟩,lA,kA,fA,hA⟩
  ·intro hc30;have hlt:=of_decide_eq_false hc30;dsimp only at hlt;obtain rfl:k=0:=by omega
   have g7:d2=heapSort S.lt d a b:=by rw[h7] at g6;exact g6
   refine(nF)<|ed [] (S.LL d2) ?_;exact⟨O,g7▸g5,by rw[g7]⟩
theorem ac9 (hS:kq S) (hd:S.Ok d) (hab:a<b) (hb:b<=S.n):ai prog 374 [S.v,iv a,iv b].toArray S.G (S.LL d) (AG S (reverseRange d a b)):=by
 have hsm:=hS.small;refine am func374 λ_=>(au) ?_;intro _;refine(qC)<|(cF) ?_;refine ew (m:=((b-1:Nat):Int)) O O aa iA O<|(nz)<|aU [(6,7),(11,22)] (λ(x:Nat×Nat×Array β)=>(a<=x.1/\x.1<=b/\x.2.1<b)/\S.Ok x.2.2/\reverseLoop x.1 x.2.1 x.2.2=reverseLoop a (b-1) d) (λx=>[(6,iv x.1),(7,iv x.2.1)]) (λ_=>[]) (λx=>S.LL x.2.2) (λx=>b-x.1) ((a,b-1,d)) (⟨⟨bg _,by dsimp only;omega,by dsimp only;omega⟩,hd,O⟩) λ⟨i,j,d1⟩ fr ⟨⟨h1,h2,h3⟩,h5,h6⟩=>?_;dsimp only at h1 h2 h3 h5 h6;refine(lN)<|ao ?_ ?_
 ·intro hc13;have hlt:=of_decide_eq_true hc13;dsimp only at hlt;rw[reverseLoop,if_pos aa] at h6;refine(kV)<|(CQ) ?_;refine nZ O eA (NF.refl _) (hS.swap d1 h5 _ _ i j (by first|omega|rfl) (by first|omega|rfl) (by omega) (by omega)) tA O λv L' ⟨e1,e2⟩=>?_;subst e1;subst e2;refine(qC)<|(dm)<|(bt)<|(aY) ?_;refine ew (m:=((j-1:Nat):Int)) O O Dh iA O<|(iR) ?_;exact⟨(i+1,j-1,_),oA,⟨⟨oA,oA,oA⟩,hS.ok d1 h5 i j aa aa,h6⟩,lA,kA,fA,hA⟩
 ·intro hc13;have hge:=of_decide_eq_false hc13;dsimp only at hge;rw[reverseLoop,if_neg aa] at h6;have g7:d1=reverseRange d a b:=h6;refine(nF)<|ed [] (S.LL d1) ?_;exact⟨O,g7▸h5,by rw[g7]⟩
end Go.Proofs
namespace Go.Proofs
open Tryz
open Go.V Go.Sort
variable {β:Type} [Inhabited β] {S:SF β} {d:Array β} {a b i j k s rc:Nat}
abbrev wl (rc s:Nat):ae:=(rc,.cells #[iv s] 3 (0,0))
abbrev be (r:Nat):Value:= .pointer (some ⟨r,0,none⟩)
theorem LI (hS:kq S) (hd:S.Ok d) (ha:a<S.n) (hb:b<S.n) (hs:s<=4294967295):ai prog 415 [S.v,iv a,iv b,be rc].toArray S.G (wl rc s::S.LL d)
  (λv Fs' L'=>(v= .tuple #[iv (order2 S.lt d a b s).1,iv (order2 S.lt d a b s).2.1]/\Fs'=[])/\L'=wl rc (order2 S.lt d a b s).2.2::S.LL d):=by
 refine am func415 λ_=>(au) ?_;intro _;refine(gb)<|(bR)<|(CQ) ?_;refine dj O eA hS.lessE (NF.refl _) (hS.less d hd _ _ b a O O hb ha) λv Fs' L' ⟨⟨e1,e2⟩,e3⟩=>?_;subst e1;subst e2;subst e3;refine(aN)<|ao ?_ ?_
 ·intro hc14;have e:order2 S.lt d a b s=(b,a,s+1):=by{unfold order2;rw[if_pos hc14]}
  refine(bJ)<|(CO)<|(gG)<|(dm)<|(CO)<|(gn)<|(aN)<|(fb)<|(gb)<|(mJ)<|aH [] (wl rc (s+1)::S.LL d) ?_;exact(by rw[e];exact⟨⟨O,O⟩,O⟩)
 ·intro hc14;have e:order2 S.lt d a b s=(a,b,s):=by{unfold order2;rw[if_neg (by simp[hc14])]}
  refine(bX)<|(fb)<|(gb)<|(bO)<|aH [] (wl rc s::S.LL d) ?_;exact(by rw[e];exact⟨⟨O,O⟩,O⟩)
theorem BM {lt:β->β->Bool} {n:Nat} (ha:a<n) (hb:b<n):(order2 lt d a b s).1<n/\(order2 lt d a b s).2.1<n/\(order2 lt d a b s).2.2<=s+1:=by
 unfold order2;split
 ·exact⟨hb,ha,bg _⟩
 ·exact⟨ha,hb,by simp⟩
theorem BS {lt:β->β->Bool} {n:Nat} (hi:i<n) (hj:j<n) (hk:k<n):(median lt d i j k s).1<n/\(median lt d i j k s).2<=s+3:=by
 simp only[median];have h1:=BM (lt:=lt) (d:=d) (s:=s) hi hj;have h2:=BM (lt:=lt) (d:=d) (s:=(order2 lt d i j s).2.2) h1.2.1 hk;have h3:=BM (lt:=lt) (d:=d) (s:=(order2 lt d (order2 lt d i j s).2.1 k (order2 lt d i j s).2.2).2.2) h1.1 h2.1;exact⟨h3.2.1,aa⟩
theorem Mf (hS:kq S) (hd:S.Ok d) (hi:i<S.n) (hj:j<S.n) (hk:k<S.n) (hs:s<=1000):ai prog 409 [S.v,iv i,iv j,iv k,be rc].toArray S.G (wl rc s::S.LL d)
  (λv Fs' L'=>(v=iv (median S.lt d i j k s).1/\Fs'=[])/\L'=wl rc (median S.lt d i j k s).2::S.LL d):=by
 have h1:=BM (lt:=S.lt) (d:=d) (s:=s) hi hj;have h2:=BM (lt:=S.lt) (d:=d) (s:=(order2 S.lt d i j s).2.2) h1.2.1 hk;have h3:=BM (lt:=S.lt) (d:=d) (s:=(order2 S.lt d (order2 S.lt d i j s).2.1 k (order2 S.lt d i j s).2.2).2.2) h1.1 h2.1;refine am func409 λ_=>(au) ?_;intro _;refine(rL)<|(mD)<|aS eA call415 (LI (rc:=rc) (s:=s) (a:=i) (b:=j) hS hd hi hj aa) λv Fs' L' ⟨⟨e1,e2⟩,e3⟩=>?_;subst e1;subst e2;subst e3;refine(wC)<|(rL)<|(mD)<|aS eA call415 (LI (rc:=rc) (s:=(order2 S.lt d i j s).2.2) (a:=(order2 S.lt d i j s).2.1) (b:=k) hS hd h1.2.1 hk aa) λv Fs' L' ⟨⟨e1,e2⟩,e3⟩=>?_;subst e1;subst e2;subst e3;refine(wC)<|(rL)<|(mD)<|aS eA call415 (LI (rc:=rc) (s:=(order2 S.lt d (order2 S.lt d i j s).2.1 k (order2 S.lt d i j s).2.2).2.2) (a:=(order2 S.lt d i j s).1) (b:=(order2 S.lt d (order2 S.lt d i j s).2.1 k (order2 S.lt d i j s).2.2).1) hS hd h1.1 h2.1 aa) λv Fs' L' ⟨⟨e1,e2⟩,e3⟩=>?_;subst e1;subst e2;subst e3;refine(wC)<|(cF)<|(bO)<|aH [] (wl rc (median S.lt d i j k s).2::S.LL d) ?_;exact gk
theorem Mg (hS:kq S) (hd:S.Ok d) (h0:0<i) (hi:i+1<S.n) (hs:s<=1000):ai prog 408 [S.v,iv i,be rc].toArray S.G (wl rc s::S.LL d)
  (λv Fs' L'=>(v=iv (medianAdjacent S.lt d i s).1/\Fs'=[])/\L'=wl rc (medianAdjacent S.lt d i s).2::S.LL d):=by
 have hsm:=hS.small;refine am func408 λ_=>(au) ?_;intro _;refine(rL)<|(aB) ?_;refine ew (m:=((i-1:Nat):Int)) O O aa iA O<|(dG)<|(qA)<|aS eA call409 (Mf (rc:=rc) (s:=s) (i:=i-1) (j:=i) (k:=i+1) hS hd aa aa aa hs) λv Fs' L' ⟨⟨e1,e2⟩,e3⟩=>?_;subst e1;subst e2;subst e3;refine(bO)<|aH [] (wl rc (medianAdjacent S.lt d i s).2::S.LL d) ?_;exact gk
end Go.Proofs
namespace Go.Proofs
open Tryz
open Go.V Go.Sort
variable {β:Type} [Inhabited β] {S:SF β} {d:Array β} {a b i j k s rc x:Nat}
abbrev uv (x:Nat):Value:= .int .u64 x
abbrev Gl (rc x:Nat):ae:=(rc,.cells #[uv x] 479 (0,0))
theorem K8 {x n m:Nat} (hn:n<=64) (hm:x*2^n%18446744073709551616=m):IntKind.u64.wrap ((x:Int)*2^min ((n:Nat):Int).toNat IntKind.u64.bits)=(m:Int):=by
 have e:min ((n:Nat):Int).toNat IntKind.u64.bits=n:=by
  have:IntKind.u64.bits=64:=rfl;rw[this];omega
 rw[e];have e2:((x:Int)*2^n)=((x*2^n:Nat):Int):=by push_cast;rfl
 rw[e2,P5,hm]
theorem GO {x n:Nat} (hn:n<=64):((x:Int)).fdiv (2^min ((n:Nat):Int).toNat IntKind.u64.bits)=((x/2^n:Nat):Int):=by
 have e:min ((n:Nat):Int).toNat IntKind.u64.bits=n:=by
  have:IntKind.u64.bits=64:=rfl;rw[this];omega
 have e2:(2:Int)^n=((2^n:Nat):Int):=by push_cast;rfl
 rw[e,e2,Pp _ (wX _)]
 push_cast;rfl
theorem aeF (hx:x<18446744073709551616):ai prog 407 [be rc].toArray [] [Gl rc x] (λv Fs' L'=>(v=uv (xorNextN x)/\Fs'=[])/\L'=[Gl rc (xorNextN x)]):=by
 have p:(18446744073709551616:Nat)=2^64:=by decide
 obtain⟨y,hy⟩:∃y,y=x^^^(x*8192%18446744073709551616):=⟨_,rfl⟩;obtain⟨z,hz⟩:∃z,z=y^^^(y/128):=⟨_,rfl⟩;have hyl:y<18446744073709551616:=by rw[hy,p];exact J3 aa aa
 have hzl:z<18446744073709551616:=by rw[hz,p];exact J3 aa aa
 have hr:xorNextN x=z^^^(z*131072%18446744073709551616):=by rw[hz,hy];rfl
 refine am func407 λ_=>(ba)<|(bR)<|(OE) ?_;refine ac O (M9 (m:=((x*8192%18446744073709551616:Nat):Int)) O O bz (K8 (n:=13) bz O) O) ?_;refine ac O (M6 (m:=(y:Int)) O O (by rw[Kt hx (nI _ bz),hy]) O)<|(vG)<|(jY)<|(gn)<|(cn)<|(OE) ?_;refine ac O (ES (m:=((y/128:Nat):Int)) O O bz (GO (n:=7) bz) O) ?_;refine ac O (M6 (m:=(z:Int)) O O (by rw[Kt hyl aa,hz]) O)<|(vG)<|(jY)<|(gn)<|(cn)<|(OE) ?_;refine ac O (M9 (m:=((z*131072%18446744073709551616:Nat):Int)) O O bz (K8 (n:=17) bz O) O) ?_;refine ac O (M6 (m:=((xorNextN x:Nat):Int)) O O (by rw[Kt hzl (nI _ bz),hr]) O)<|(vG)<|(jY)<|(gn)<|(qC)<|(CO)<|(gG)<|(bO)<|aH [] [Gl rc (xorNextN x)] ?_;exact gk
end Go.Proofs
namespace Go.V
section
variable {P:Program} {c:bC} {n:Nat} {ops:Array Oper} {Fs:List an} {L:List ae} {f:Fm} {Q:bG} {rest:List Oper}
variable {d:Nat} {ty:TypeId} {ps:String} {aft:Array Edge} {x y:Operand} {T:TypeId}
theorem HS (hu:P.underlying T=some .string) (hx:ap f x= .b (.string Lib.len8tab)) {ki:IntKind} {a:Int} (hy:ap f y= .b (.int ki a)) (h0:0<=a) (h1:a<=255) {m:Int} (hm:Lib.len8 a=m) (hd:Nat.blt d n=true)
  (k:ak P c n ops Fs L (aT f d (.int .u8 m)) rest Q):ak P c n ops Fs L f (⟨some d,.index T x y,ty,ps,aft,none⟩::rest) Q:=
 dh rfl (bU hd) _ (λh w sa al=>by
  subst hm;simp only[execOp,hx,hy,Bx.v_b];have:=Lib.run_index_len8tab (P:=P) (w:=w) T ki a hu h0 h1;simp only[bo,this,bV,bS]) k
end
end Go.V
namespace Go.Proofs
open Tryz
open Go.V Go.Sort
variable {x:Nat}
theorem afq {x:Nat} (h:x≠0):bitsLen x=1+bitsLen (x/2):=by
 unfold bitsLen;rw[if_neg h];by_cases h1:x=1
 ·subst h1;decide
 ·rw[if_neg aa,Nat.log2_def,if_pos aa];omega
theorem WH:∀(f x:Nat),x<2^f->Lib.bitLenAux f x=bitsLen x
 |0,x,h=>by
  have:x=0:=by simp at h;omega
  subst this;rfl
 |f+1,x,h=>by
  simp only[Lib.bitLenAux];split
  ·rename_i h0;subst h0;rfl
  ·rename_i h0;rw[WH f (x/2) (by rw[PT] at h;omega),afq h0]
theorem Fe {x:Nat} (h:x<18446744073709551616):Lib.bitLen x=bitsLen x:=WH 64 x h
theorem Hz {y:Nat} (h:y<256):Lib.len8 (y:Int)=(bitsLen y:Int)/\bitsLen y<=8:=by
 have h1:=Lib.len8_eq ⟨y,h⟩;have h2:=Lib.bitLen_le8 ⟨y,h⟩;have h3:=Fe (x:=y) aa;simp only at h1 h2;rw[<-h3];exact⟨h1,h2⟩
theorem WG {x:Nat} (h:256<=x) (hx:x<18446744073709551616):bitsLen x=8+bitsLen (x/2^8):=by
 rw[<-Fe hx,<-Fe aa];exact Lib.bitLen_shift8 x h hx
theorem ak1 {x:Nat} (h:65536<=x) (hx:x<18446744073709551616):bitsLen x=16+bitsLen (x/2^16):=by
 rw[<-Fe hx,<-Fe aa];exact Lib.bitLen_shift16 x h hx
theorem Gm {y:Nat} (h:y<256):IntKind.u8.wrap (y:Int)=(y:Int):=by
 have e:(2^IntKind.u8.bits:Int)=256:=by decide
 simp only[IntKind.wrap,e,IntKind.signed,Pz,ld,if_false];omega
theorem afO (hx:x<=4294967295):ai prog 369 [uv x].toArray [] [] (Is (iv (bitsLen x))):=by
 obtain⟨N,hN⟩:∃N,bitsLen x=N:=⟨_,rfl⟩;rw[hN];refine am func369 λ_=>(wB)<|(uj) ?_;refine gz O (λhc4=>absurd hc4 (by have:=of_decide_eq_true hc4;omega)) (λhc4=>(bX)<|(eE)<|(uj)<|ao ?_ ?_)
 ·intro hc8;have h16:=of_decide_eq_true hc8;obtain⟨y,hy⟩:∃y,y=x/2^16:=⟨_,rfl⟩;have hb:=ak1 (x:=x) aa aa;rw[<-hy] at hb;have hyx:y<=4294967295:=by rw[hy];omega
  refine(bJ) ?_;refine ES (m:=(y:Int)) O O bz (by rw[hy];exact GO (n:=16) bz) O<|(bt)<|(aY)<|(dm)<|(iC)<|(uj)<|ao ?_ ?_
  ·intro hc14;have h8:=of_decide_eq_true hc14;obtain⟨z,hz⟩:∃z,z=y/2^8:=⟨_,rfl⟩;have hb8:=WG (x:=y) aa aa;rw[<-hz] at hb8;have hz256:z<256:=by rw[hz];omega
   have hl:=Hz hz256;refine(bJ) ?_;refine ES (m:=(z:Int)) O O bz (by rw[hz];exact GO (n:=8) bz) O<|(bt)<|(aY)<|(dm)<|(iz) ?_;refine vZ ab O O O O (Gm hz256) O ?_;refine HS Tryz.underlying9 br O (wX _) aa hl.1 O<|(OK) ?_;refine dD (m:=(N:Int)) O O aa iA O<|cV
  ·intro hc14;have h8:=of_decide_eq_false hc14;obtain⟨z,hz⟩:∃z,z=y:=⟨_,rfl⟩;have hb8:bitsLen y=0+bitsLen z:=by rw[hz];omega
   have hz256:z<256:=by rw[hz];omega
   have hl:=Hz hz256;subst hz;refine(bX)<|(fb) ?_;refine vZ ab O O O O (Gm hz256) O ?_;refine HS Tryz.underlying9 br O (wX _) aa hl.1 O<|(OK) ?_;refine dD (m:=(N:Int)) O O aa iA O<|cV
 ·intro hc8;have h16:=of_decide_eq_false hc8;obtain⟨y,hy⟩:∃y,y=x:=⟨_,rfl⟩;have hb:bitsLen x=0+bitsLen y:=by rw[hy];omega
  have hyx:y<=4294967295:=by rw[hy];omega
  subst hy;refine(bX)<|(eE)<|(uj)<|ao ?_ ?_
  ·intro hc14;have h8:=of_decide_eq_true hc14;obtain⟨z,hz⟩:∃z,z=y/2^8:=⟨_,rfl⟩;have hb8:=WG (x:=y) aa aa;rw[<-hz] at hb8;have hz256:z<256:=by rw[hz];omega
   have hl:=Hz hz256;refine(bJ) ?_;refine ES (m:=(z:Int)) O O bz (by rw[hz];exact GO (n:=8) bz) O<|(bt)<|(aY)<|(dm)<|(iz) ?_;refine vZ ab O O O O (Gm hz256) O ?_;refine HS Tryz.underlying9 br O (wX _) aa hl.1 O<|(OK) ?_;refine dD (m:=(N:Int)) O O aa iA O<|cV
  ·intro hc14;have h8:=of_decide_eq_false hc14;obtain⟨z,hz⟩:∃z,z=y:=⟨_,rfl⟩;have hb8:bitsLen y=0+bitsLen z:=by rw[hz];omega
   have hz256:z<256:=by rw[hz];omega
   have hl:=Hz hz256;subst hz;refine(bX)<|(fb) ?_;refine vZ ab O O O O (Gm hz256) O ?_;refine HS Tryz.underlying9 br O (wX _) aa hl.1 O<|(OK) ?_;refine dD (m:=(N:Int)) O O aa iA O<|cV
end Go.Proofs
namespace Go.Proofs
open Tryz
open Go.V Go.Sort
variable {β:Type} [Inhabited β] {S:SF β} {d:Array β} {a b x n:Nat}
theorem WM (hx:x<=4294967295):ai prog 313 [uv x].toArray [] [] (Is (iv (bitsLen x))):=by
 refine am func313 λ_=>(ba)<|(bR)<|(gL)<|(Fu)<|aj eA call369 (afO hx)<|cV
theorem WF {x:Nat} (hx:x<=4294967295):bitsLen x<=33:=by
 unfold bitsLen;split
 ·omega
 ·rename_i h;have h1:=JZ h;have:x.log2<33:=by
   rcases dL x.log2 33 with l|l
   ·exact l
   ·have:=zH (n:=2) bz l;omega
  omega
theorem aeR {x:Nat} (h:x≠0):1<<<bitsLen x<=2*x:=by
 unfold bitsLen;rw[if_neg h,rW,PT];have h1:=JZ h;omega
theorem P4 {x:Nat} (h:x<18446744073709551616):IntKind.u64.wrap (x:Int)=(x:Int):=by rw[P5,uC h]
theorem aex (hx:x<=4294967295):ai prog 406 [iv x].toArray [] [] (Is (uv (1<<<bitsLen x))):=by
 have hb:=WF hx;have hp:1*2^bitsLen x<=1*2^33:=Nat.mul_le_mul_left _ (zH bz hb);refine am func406 λ_=>(Jl)<|(FD)<|aj eA call313 (WM hx)<|(FD)<|(cF) ?_;refine M9 (m:=((1<<<bitsLen x:Nat):Int)) O O (wX _) (K8 (x:=1) (n:=bitsLen x) aa (by rw[rW,uC aa])) O<|cV
def yT (d:Array β) (a length i0:Nat):Nat->UInt64×Array β
 |0=>(UInt64.ofNat length,d)
 |t+1=>breakStep a length (1<<<bitsLen length) (yT d a length i0 t) (i0+t)
theorem akW (h:8<=b-a):breakPatterns d a b=(yT d a (b-a) (a+(b-a)/4*2-1) 3).2:=by
 unfold breakPatterns;rw[if_pos aa];rfl
theorem akV (hS:kq S) (hd:S.Ok d) (hab:a+8<=b) (hb:b<=S.n):ai prog 372 [S.v,iv a,iv b].toArray S.G (S.LL d) (AG S (breakPatterns d a b)):=by
 have hsm:=hS.small;obtain⟨len,hlen⟩:∃len,len=b-a:=⟨_,rfl⟩;obtain⟨i0,hi0⟩:∃i0,i0=a+len/4*2-1:=⟨_,rfl⟩;obtain⟨md,hmd⟩:∃md,md=1<<<bitsLen len:=⟨_,rfl⟩;have hm1:md<=2*len:=by rw[hmd];exact aeR aa
 have hm0:0<md:=by rw[hmd,rW];have:=Nat.pow_pos (n:=bitsLen len) (show 0<2 by decide);omega
 have hall:=akW (d:=d) (a:=a) (b:=b) aa;rw[<-hlen,<-hi0] at hall;refine am func372 λ_=>(au) ?_;intro _;refine(aN)<|(fb) ?_;refine ew (m:=(len:Int)) O O aa iA O<|(cF)<|(uj) ?_;refine gz O (λhc15=>?_) (λhc15=>absurd hc15 qK);refine(bJ)<|(FD)<|(nH) ?_;intro r7;refine(gn)<|(qC)<|aj eA call406 (aex (x:=len) aa)<|(iz) ?_;refine pj (m:=((len/4:Nat):Int)) O O aa aa aa iA O<|(xX)<|(dm) ?_;refine ew (m:=((i0+0:Nat):Int)) O O aa iA O<|(nz)<|aU [(9,10),(26,53)] (λ(x:Nat×Nat×Array β)=>x.1<=3/\x.2.1=(yT d a len i0 x.1).1.toNat/\x.2.2=(yT d a len i0 x.1).2/\S.Ok x.2.2) (λx=>[(9,iv ((i0+x.1:Nat):Int))]) (λ_=>[]) (λx=>Gl r7 x.2.1::S.LL x.2.2) (λx=>3-x.1) ((0,len,d)) (⟨bf _,by show len=(UInt64.ofNat len).toNat;rw[UInt64.toNat_ofNat',uC aa],rfl,hd⟩) λ⟨t,q,d1⟩ fr ⟨h3,h4,h5,h6⟩=>?_;dsimp only at h3 h4 h5 h6;refine(lL)<|(aB) ?_;refine pj (m:=((len/4:Nat):Int)) O O aa aa aa iA O<|(xX)<|(dm)<|(dm)<|(C5)<|(aN)<|ao ?_ ?_
 ·intro hc33;have hlt:=of_decide_eq_true hc33;have ht:t<3:=by dsimp only at hlt;omega
  obtain⟨o,ho⟩:∃o,o=xorNextN q&&&(md-1):=⟨_,rfl⟩;have hol:o<=md-1:=by rw[ho];exact Nat.and_le_right
  have hql:q<18446744073709551616:=by rw[h4];exact UInt64.toNat_lt _
  have hst:yT d a len i0 (t+1)=(xorNext (yT d a len i0 t).1,swp d1 (i0+t) (a+(if o>=len then o-len else o))):=by rw[yT,breakStep,h5,ho,h4,hmd,xorNext_toNat]
  have hq':xorNextN q=(yT d a len i0 (t+1)).1.toNat:=by rw[hst];simp only;rw[xorNext_toNat,h4]
  refine(ix)<|aS eA call407 (aeF (rc:=r7) (x:=q) hql) λv Fs' L' ⟨⟨e1,e2⟩,e3⟩=>?_;subst e1;subst e2;subst e3;refine(aB) ?_;refine ahD (m:=((md-1:Nat):Int)) O O (by rw[<-hmd,<-P4 (x:=md-1) aa];congr 1;omega) O ?_;refine aia (m:=(o:Int)) O O (by rw[ho];exact ale (xorNextN_lt _ hql) aa) O<|(OK)<|(jL)<|(uj)<|ao ?_ ?_
  ·intro hc43;have hge:=of_decide_eq_true hc43;have e0:(if o>=len then o-len else o)=o-len:=if_pos aa;rw[e0] at hst;have hs2:=hS.swap d1 h6 ((i0+t:Nat):Int) ((a:Int)+(o-len:Nat)) (i0+t) (a+(o-len)) rfl aa aa aa;have hk2:=hS.ok d1 h6 (i0+t) (a+(o-len)) aa aa;refine(cO) ?_;refine ew (m:=((o-len:Nat):Int)) O O aa iA O<|(bt)<|(qB)<|(mD)<|(dm) ?_;refine nZ O eA (NF.refl _) hs2 tA O λv L' ⟨e1,e2⟩=>?_;subst e1;subst e2;refine(aN)<|(zb) ?_;refine dD (m:=((i0+(t+1):Nat):Int)) O O aa iA O<|(bt) ?_;exact⟨(t+1,xorNextN q,swp d1 (i0+t) (a+(o-len))),oA,⟨oA,hq',by rw[hst],hk2⟩,lA,kA,fA,hA⟩
  ·intro hc43;have hge:=of_decide_eq_false hc43;have e0:(if o>=len then o-len else o)=o:=if_neg aa;rw[e0] at hst;have hs2:=hS.swap d1 h6 ((i0+t:Nat):Int) ((a:Int)+(o:Nat)) (i0+t) (a+o) rfl aa aa aa;have hk2:=hS.ok d1 h6 (i0+t) (a+o) aa aa;refine(bX)<|(qB)<|(mD)<|(dm) ?_;refine nZ O eA (NF.refl _) hs2 tA O λv L' ⟨e1,e2⟩=>?_;subst e1;subst e2;refine(aN)<|(zb) ?_;refine dD (m:=((i0+(t+1):Nat):Int)) O O aa iA O<|(bt) ?_;exact⟨(t+1,xorNextN q,swp d1 (i0+t) (a+o)),oA,⟨oA,hq',by rw[hst],hk2⟩,lA,kA,fA,hA⟩
 ·intro hc33;have hge:=of_decide_eq_false hc33;have ht:t=3:=by dsimp only at hge;omega
  subst ht;have e:d1=breakPatterns d a b:=by rw[hall,h5]
  refine(nF)<|ed [] (S.LL d1) ?_;exact⟨O,e▸h6,by rw[e]⟩
end Go.Proofs
namespace Go.Proofs
open Tryz
open Go.V Go.Sort
variable {β:Type} [Inhabited β] {S:SF β} {d:Array β} {a b x n:Nat}
def Cd:Hint->Nat
 |.unknown=>0
 |.increasing=>1
 |.decreasing=>2
theorem Mh {lt:β->β->Bool} {n i s:Nat} (h0:0<i) (hi:i+1<n):(medianAdjacent lt d i s).1<n/\(medianAdjacent lt d i s).2<=s+3:=BS aa aa hi
theorem adO (hS:kq S) (hd:S.Ok d) (hab:a+12<b) (hb:b<=S.n):ai prog 373 [S.v,iv a,iv b].toArray S.G (S.LL d)
  (λv Fs' L'=>(v= .tuple #[iv (choosePivot S.lt d a b).1,iv (Cd (choosePivot S.lt d a b).2)]/\Fs'=[])/\L'=S.LL d):=by
 have hsm:=hS.small;obtain⟨l,hl⟩:∃l,l=b-a:=⟨_,rfl⟩;obtain⟨q,hq⟩:∃q,q=l/4:=⟨_,rfl⟩;obtain⟨i,hi⟩:∃i,i=a+l/4*1:=⟨_,rfl⟩;obtain⟨j,hj⟩:∃j,j=a+l/4*2:=⟨_,rfl⟩;obtain⟨k,hk⟩:∃k,k=a+l/4*3:=⟨_,rfl⟩;refine am func373 λ_=>(au) ?_;intro _;refine(gb)<|(iz) ?_;refine ew (m:=(l:Int)) O O aa iA O<|(fo)<|(nH) ?_;intro r9;refine(aN)<|(fb) ?_;refine pj (m:=(q:Int)) O O aa aa aa iA O<|(xX) ?_;refine dD (m:=(i:Int)) O O aa iA O<|(iz) ?_;refine pj (m:=(q:Int)) O O aa aa aa iA O<|(xX) ?_;refine dD (m:=(j:Int)) O O aa iA O<|(iz) ?_;refine pj (m:=(q:Int)) O O aa aa aa iA O<|(xX) ?_;refine dD (m:=(k:Int)) O O aa iA O<|(iC)<|(uj) ?_;refine gz O (λhc32=>?_) (λhc32=>absurd hc32 qK);refine(eE)<|(uj)<|ao ?_ ?_
 ·intro hc34;have h50:=of_decide_eq_true hc34;have m1:=Mh (lt:=S.lt) (d:=d) (n:=S.n) (i:=i) (s:=0) aa aa;obtain⟨ri,hri⟩:∃r,r=medianAdjacent S.lt d i 0:=⟨_,rfl⟩;rw[<-hri] at m1;have m2:=Mh (lt:=S.lt) (d:=d) (n:=S.n) (i:=j) (s:=ri.2) aa aa;obtain⟨rj,hrj⟩:∃r,r=medianAdjacent S.lt d j ri.2:=⟨_,rfl⟩;rw[<-hrj] at m2;have m3:=Mh (lt:=S.lt) (d:=d) (n:=S.n) (i:=k) (s:=rj.2) aa aa;obtain⟨rk,hrk⟩:∃r,r=medianAdjacent S.lt d k rj.2:=⟨_,rfl⟩;rw[<-hrk] at m3;obtain⟨r,hr⟩:∃r,r=median S.lt d ri.1 rj.1 rk.1 rk.2:=⟨_,rfl⟩;have m4:=BS (lt:=S.lt) (d:=d) (n:=S.n) (i:=ri.1) (j:=rj.1) (k:=rk.1) (s:=rk.2) aa aa aa;rw[<-hr] at m4;have hmed:=Mf (rc:=r9) (s:=rk.2) (i:=ri.1) (j:=rj.1) (k:=rk.1) hS hd aa aa aa aa;rw[<-hr] at hmed;have hcp:choosePivot S.lt d a b=(r.1,if r.2=0 then .increasing else if r.2=12 then .decreasing else .unknown):=by{simp only[choosePivot];rw[<-hl,if_pos (show l>=8 by omega),if_pos (show l>=50 by omega),<-hi,<-hj,<-hk,<-hri,<-hrj,<-hrk,<-hr]}
  refine(cR)<|(aB)<|aS eA call408 (Mg (rc:=r9) (s:=0) (i:=i) hS hd aa aa aa) λv Fs' L' ⟨⟨e1,e2⟩,e3⟩=>?_;subst e1;subst e2;subst e3;rw[<-hri];refine(rL)<|(aB)<|aS eA call408 (Mg (rc:=r9) (s:=ri.2) (i:=j) hS hd aa aa aa) λv Fs' L' ⟨⟨e1,e2⟩,e3⟩=>?_;subst e1;subst e2;subst e3;rw[<-hrj];refine(bt)<|(mH)<|(aB)<|aS eA call408 (Mg (rc:=r9) (s:=rj.2) (i:=k) hS hd aa aa aa) λv Fs' L' ⟨⟨e1,e2⟩,e3⟩=>?_;subst e1;subst e2;subst e3;rw[<-hrk];refine(bt)<|(mH)<|(mD)<|aS eA call409 (hmed) λv Fs' L' ⟨⟨e1,e2⟩,e3⟩=>?_;subst e1;subst e2;subst e3;refine(fo)<|(gG)<|(dF)<|(dY)<|ao ?_ ?_
  ·intro hc51;have h0:r.2=0:=by have:=of_decide_eq_true hc51;omega
   have e:choosePivot S.lt d a b=(r.1,.increasing):=by rw[hcp,if_pos h0]
   refine(CS)<|aH [] (S.LL d) ?_;exact(by rw[e];exact⟨⟨O,O⟩,O⟩)
  ·intro hc51;have h0:r.2≠0:=by have:=of_decide_eq_false hc51;omega
   refine(dY)<|ao ?_ ?_
   ·intro hc54;have h1:r.2=12:=by have:=of_decide_eq_true hc54;omega
    have e:choosePivot S.lt d a b=(r.1,.decreasing):=by rw[hcp,if_neg h0,if_pos h1]
    refine(CS)<|aH [] (S.LL d) ?_;exact(by rw[e];exact⟨⟨O,O⟩,O⟩)
   ·intro hc54;have h1:r.2≠12:=by have:=of_decide_eq_false hc54;omega
    have e:choosePivot S.lt d a b=(r.1,.unknown):=by rw[hcp,if_neg h0,if_neg h1]
    refine(CS)<|aH [] (S.LL d) ?_;exact(by rw[e];exact⟨⟨O,O⟩,O⟩)
 ·intro hc34;have h50:=of_decide_eq_false hc34;obtain⟨r,hr⟩:∃r,r=median S.lt d i j k 0:=⟨_,rfl⟩;have m4:=BS (lt:=S.lt) (d:=d) (n:=S.n) (i:=i) (j:=j) (k:=k) (s:=0) aa aa aa;rw[<-hr] at m4;have hmed:=Mf (rc:=r9) (s:=0) (i:=i) (j:=j) (k:=k) hS hd aa aa aa aa;rw[<-hr] at hmed;have hcp:choosePivot S.lt d a b=(r.1,if r.2=0 then .increasing else if r.2=12 then .decreasing else .unknown):=by{simp only[choosePivot];rw[<-hl,if_pos (show l>=8 by omega),if_neg (show¬l>=50 by omega),<-hi,<-hj,<-hk,<-hr]}
  refine(bX)<|(mH)<|(mD)<|aS eA call409 (hmed) λv Fs' L' ⟨⟨e1,e2⟩,e3⟩=>?_;subst e1;subst e2;subst e3;refine(fo)<|(gG)<|(dF)<|(dY)<|ao ?_ ?_
  ·intro hc51;have h0:r.2=0:=by have:=of_decide_eq_true hc51;omega
   have e:choosePivot S.lt d a b=(r.1,.increasing):=by rw[hcp,if_pos h0]
   refine(CS)<|aH [] (S.LL d) ?_;exact(by rw[e];exact⟨⟨O,O⟩,O⟩)
  ·intro hc51;have h0:r.2≠0:=by have:=of_decide_eq_false hc51;omega
   refine(dY)<|ao ?_ ?_
   ·intro hc54;have h1:r.2=12:=by have:=of_decide_eq_true hc54;omega
    have e:choosePivot S.lt d a b=(r.1,.decreasing):=by rw[hcp,if_neg h0,if_pos h1]
    refine(CS)<|aH [] (S.LL d) ?_;exact(by rw[e];exact⟨⟨O,O⟩,O⟩)
   ·intro hc54;have h1:r.2≠12:=by have:=of_decide_eq_false hc54;omega
    have e:choosePivot S.lt d a b=(r.1,.unknown):=by rw[hcp,if_neg h0,if_neg h1]
    refine(CS)<|aH [] (S.LL d) ?_;exact(by rw[e];exact⟨⟨O,O⟩,O⟩)
end Go.Proofs
namespace Go.Proofs
open Tryz
open Go.V Go.Sort
variable {β:Type} [Inhabited β] {S:SF β} {d d1 d3 d4:Array β} {a b x n i i0 j s:Nat} {lt:β->β->Bool}
theorem Ru (h:i<b->lt d[i]! d[i-1]! =true):scanSorted lt d b i=i:=by
 rw[scanSorted,if_neg];simp only[eI,decide_eq_true_eq,zJ];rintro⟨h1,h2⟩;rw[h h1] at h2;cases h2
theorem acP (h:i<b) (h2:lt d[i]! d[i-1]! =false):scanSorted lt d b i=scanSorted lt d b (i+1):=by
 rw[scanSorted,if_pos (by simp[h,h2])]
theorem Rf (h:1<=j->lt d[j]! d[j-1]! =false):shiftDown lt j d=d:=by
 cases j with
 |zero=>rfl
 |succ j=>
  have:=h aa;simp only[Bs] at this;rw[shiftDown,if_pos (by simp[this])]
theorem acs (h:1<=j) (h2:lt d[j]! d[j-1]! =true):shiftDown lt j d=shiftDown lt (j-1) (swp d j (j-1)):=by
 cases j with
 |zero=>omega
 |succ j=>
  simp only[Bs] at h2 ⊢;rw[shiftDown,if_neg (by simp[h2])]
theorem Re (h:j<b->lt d[j]! d[j-1]! =false):shiftUp lt b j d=d:=by
 rw[shiftUp];split
 ·rename_i h1;rw[if_pos (by simp[h h1])]
 ·rfl
theorem acr (h:j<b) (h2:lt d[j]! d[j-1]! =true):shiftUp lt b j d=shiftUp lt b (j+1) (swp d j (j-1)):=by
 rw[shiftUp,if_pos h,if_neg (by simp[h2])]
theorem aea (hi:scanSorted lt d b i0=b):partialIns lt a b (s+1) i0 d=(d,true):=by
 simp only[partialIns,hi,if_true]
theorem aeb (hi:scanSorted lt d b i0=i) (hb:i≠b) (h:b-a<50):partialIns lt a b (s+1) i0 d=(d,false):=by
 simp only[partialIns,hi,if_neg hb,if_pos h]
theorem LD (hi:scanSorted lt d1 b i0=i) (hb:i≠b) (h:¬b-a<50) (e3:d3=if i-a>=2 then shiftDown lt (i-1) (swp d1 i (i-1)) else swp d1 i (i-1))
  (e4:d4=if b-i>=2 then shiftUp lt b (i+1) d3 else d3):partialIns lt a b (s+1) i0 d1=partialIns lt a b s i d4:=by
 simp only[partialIns,hi,if_neg hb,if_neg h,<-e3,<-e4]
theorem ad9 (hS:kq S) (hd:S.Ok d) (hab:a+12<b) (hb:b<=S.n):ai prog 375 [S.v,iv a,iv b].toArray S.G (S.LL d)
  (λv Fs' L'=>v= .bool (partialInsertionSort S.lt d a b).2/\Fs'=[]/\S.Ok (partialInsertionSort S.lt d a b).1/\L'=S.LL (partialInsertionSort S.lt d a b).1):=by
 have hsm:=hS.small;obtain⟨R,hR⟩:∃R,R=partialInsertionSort S.lt d a b:=⟨_,rfl⟩;rw[<-hR];have hR':partialIns S.lt a b 5 (a+1) d=R:=hR.symm;refine am func375 λ_=>(au) ?_;intro _;refine(cF)<|(dm)<|(oQ)<|aU [(6,10),(13,90)] (λ(x:Nat×Nat×Array β)=>x.1<=5/\(a+1<=x.2.1/\x.2.1<=b)/\S.Ok x.2.2/\partialIns S.lt a b (5-x.1) x.2.1 x.2.2=R) (λx=>[(8,iv x.1),(7,iv x.2.1)]) (λ_=>[]) (λx=>S.LL x.2.2) (λx=>5-x.1) ((0,a+1,d)) (⟨bf _,⟨bg _,by dsimp only;omega⟩,hd,hR'⟩) λ⟨s,i0,d1⟩ fr ⟨h1,⟨h2,h3⟩,h5,h6⟩=>?_;dsimp only at h1 h2 h3 h5 h6;refine(eE)<|(kU)<|ao ?_ ?_
 ·intro hc14;have hlt:s<5:=by have:=of_decide_eq_true hc14;dsimp only at this;omega
  obtain⟨s',hs'⟩:∃s',5-s=s'+1:=⟨4-s,aa⟩;rw[hs'] at h6;refine(CP)<|jl (S.LL d1) [(7,7),(17,30)] (λ(y:Nat)=>(i0<=y/\y<=b)/\scanSorted S.lt d1 b i0=y) (λy=>[(7,iv y)]) (λ_=>[]) (λy=>S.LL d1) ?_ ?_
  ·refine(gU)<|aU [(7,7),(17,30)] (λ(y:Nat)=>(i0<=y/\y<=b)/\scanSorted S.lt d1 b y=scanSorted S.lt d1 b i0) (λy=>[(7,iv y)]) (λ_=>[]) (λy=>S.LL d1) (λy=>b-y) (i0) (⟨⟨bg _,h3⟩,O⟩) λi fr1 ⟨⟨g1,g2⟩,g3⟩=>?_;refine(vo) ?_;rcases dL i b with hi|hi
   ·refine(cO) ?_;refine aL O O (by show some (decide _)=some true;simp;omega) O<|(jW)<|(ON) ?_;refine ah O O (dj O eA hS.lessE (NF.refl _) (hS.less d1 h5 _ _ i (i-1) O aa aa aa) λv Fs' L' ⟨⟨e1,e2⟩,e3⟩=>?_);subst e1;subst e2;subst e3;refine(JB)<|(fm)<|ao ?_ ?_
    ·intro hc28;refine(kV)<|(sL) ?_;exact⟨i+1,oA,⟨⟨oA,oA⟩,by rw[<-g3,acP hi (by simpa using hc28)]⟩,lA,kA,fA,hA⟩
    ·intro hc28;refine(eG) ?_;exact⟨i,⟨⟨g1,g2⟩,by rw[<-g3,Ru (λ_=>by simpa using hc28)]⟩,lA,kA,fA,hA⟩
   ·refine(cO) ?_;refine aL O O (by show some (decide _)=some false;simp;omega) O<|(oq)<|(jK)<|(vt)<|(gL)<|(eG) ?_;exact⟨i,⟨⟨g1,g2⟩,by rw[<-g3,Ru aa]⟩,lA,kA,fA,hA⟩
  ·intro i gB ⟨⟨g1,g2⟩,hsc⟩;refine(lL)<|(kT)<|(aN)<|ao ?_ ?_
   ·intro hc33;have hib:i=b:=by have:=of_decide_eq_true hc33;omega
    have hfin:partialIns S.lt a b (s'+1) i0 d1=(d1,true):=aea (hib▸hsc);rw[hfin] at h6;subst h6;refine(mI)<|(ul)<|(ul)<|aH [] (S.LL d1) ?_;exact⟨O,O,h5,O⟩
   ·intro hc33;have hib:i≠b:=by have:=of_decide_eq_false hc33;omega
    refine(bX)<|(lL) ?_;refine ew (m:=((b-a:Nat):Int)) O O aa iA O<|(kU)<|ao ?_ ?_
    ·intro hc37;have hfew:b-a<50:=by have:=of_decide_eq_true hc37;omega
     have hfin:partialIns S.lt a b (s'+1) i0 d1=(d1,false):=aeb hsc hib hfew;rw[hfin] at h6;subst h6;refine(mI)<|(ul)<|(ul)<|aH [] (S.LL d1) ?_;exact⟨O,O,h5,O⟩
    ·intro hc37;have hfew:¬b-a<50:=by have:=of_decide_eq_false hc37;omega
     refine(bX)<|(CQ)<|(jg) ?_;refine nZ O eA (NF.refl _) (hS.swap d1 h5 _ _ i (i-1) O aa aa aa) tA O λv L' ⟨e1,e2⟩=>?_;subst e1;have k5:=hS.ok d1 h5 i (i-1) aa aa;obtain⟨d2,hd2⟩:∃d2,d2=swp d1 i (i-1):=⟨_,rfl⟩;rw[<-hd2] at e2 k5;subst e2;refine(cn)<|(fb) ?_;refine ew (m:=((i-a:Nat):Int)) O O aa iA O<|(uj)<|jl (S.LL d2) [(9,9),(48,66)] (λ(x:Array β)=>S.Ok x/\x=if i-a>=2 then shiftDown S.lt (i-1) d2 else d2) (λx=>[]) (λ_=>[]) (λx=>S.LL x) ?_ ?_
     ·refine ao ?_ ?_
      ·intro hc47;have h47:=of_decide_eq_true hc47;refine(bJ) ?_;refine ew (m:=((i-1:Nat):Int)) O O aa iA O<|(nz)<|aU [(9,9),(50,66)] (λ(y:Nat×Array β)=>y.1<i/\S.Ok y.2/\shiftDown S.lt y.1 y.2=shiftDown S.lt (i-1) d2) (λy=>[(9,iv y.1)]) (λ_=>[]) (λy=>S.LL y.2) (λy=>y.1) ((i-1,d2)) (⟨oA,k5,O⟩) λ⟨j,d5⟩ fr2 ⟨w1,w2,w3⟩=>?_;dsimp only at w1 w2 w3;refine(eE)<|(uj)<|ao ?_ ?_
       ·intro hc51;have h51:=of_decide_eq_true hc51;dsimp only at h51;refine(CP)<|(CQ)<|(jg) ?_;refine dj O eA hS.lessE (NF.refl _) (hS.less d5 w2 _ _ j (j-1) O aa aa aa) λv Fs' L' ⟨⟨e1,e2⟩,e3⟩=>?_;subst e1;subst e2;subst e3;refine(Ja)<|ao ?_ ?_
        ·intro hc60;refine(AT)<|(wy)<|(OA) ?_;exact⟨d5,⟨w2,by rw[if_pos aa,<-w3,Rf (λ_=>by simpa using hc60)]⟩,lA,kA,fA,hA⟩
        ·intro hc60;refine(bX)<|(qB)<|(dG)<|(jg) ?_;refine nZ O eA (NF.refl _) (hS.swap d5 w2 _ _ j (j-1) O aa aa aa) tA O λv L' ⟨e1,e2⟩=>?_;subst e1;subst e2;refine(aN)<|(zb) ?_;refine ew (m:=((j-1:Nat):Int)) O O aa iA O<|(bt) ?_;exact⟨(j-1,swp d5 j (j-1)),oA,⟨oA,hS.ok d5 w2 j (j-1) aa aa,by dsimp only;rw[<-acs aa (by simpa using hc60)];exact w3⟩,lA,kA,fA,hA⟩
       ·intro hc51;have h51:=of_decide_eq_false hc51;have hz:j=0:=by dsimp only at h51;omega
        refine(eG) ?_;exact⟨d5,⟨w2,by rw[if_pos aa,<-w3,Rf aa]⟩,lA,kA,fA,hA⟩
      ·intro hc47;have h47:=of_decide_eq_false hc47;refine(bX) ?_;exact⟨d2,⟨k5,by rw[if_neg aa]⟩,lA,kA,fA,hA⟩
     ·intro d3 gC ⟨q5,e3⟩;refine(fb) ?_;refine ew (m:=((b-i:Nat):Int)) O O aa iA O<|(uj)<|ao ?_ ?_
      ·intro hc70;have h70:=of_decide_eq_true hc70;refine(bJ)<|(dm)<|(nz)<|aU [(10,10),(73,90)] (λ(y:Nat×Array β)=>(i+1<=y.1/\y.1<=b)/\S.Ok y.2/\shiftUp S.lt b y.1 y.2=shiftUp S.lt b (i+1) d3) (λy=>[(10,iv y.1)]) (λ_=>[]) (λy=>S.LL y.2) (λy=>b-y.1) ((i+1,d3)) (⟨⟨bg _,oA⟩,q5,O⟩) λ⟨j,d5⟩ fr3 ⟨⟨w0,w1⟩,w2,w3⟩=>?_;dsimp only at w0 w1 w2 w3;refine(lN)<|ao ?_ ?_
       ·intro hc75;have h75:=of_decide_eq_true hc75;dsimp only at h75;refine(CP)<|(CQ)<|(jg) ?_;refine dj O eA hS.lessE (NF.refl _) (hS.less d5 w2 _ _ j (j-1) O aa aa aa) λv Fs' L' ⟨⟨e1,e2⟩,e3⟩=>?_;subst e1;subst e2;subst e3;refine(Ja)<|ao ?_ ?_
        ·intro hc84;have e4:d5=if b-i>=2 then shiftUp S.lt b (i+1) d3 else d3:=by rw[if_pos aa,<-w3,Re (λ_=>by simpa using hc84)]
         rw[LD (s:=s') hsc hib hfew (hd2▸e3) e4] at h6;refine(AT)<|(wy)<|(OA)<|(jM) ?_;exact⟨(s+1,i,d5),oA,⟨oA,⟨oA,g2⟩,w2,by dsimp only;rw[<-h6];congr 1;omega⟩,lA,kA,fA,hA⟩
        ·intro hc84;refine(bX)<|(qB)<|(dG)<|(jg) ?_;refine nZ O eA (NF.refl _) (hS.swap d5 w2 _ _ j (j-1) O aa aa aa) tA O λv L' ⟨e1,e2⟩=>?_;subst e1;subst e2;refine(Jb) ?_;exact⟨(j+1,swp d5 j (j-1)),oA,⟨⟨oA,oA⟩,hS.ok d5 w2 j (j-1) aa aa,by dsimp only;rw[<-acr aa (by simpa using hc84)];exact w3⟩,lA,kA,fA,hA⟩
       ·intro hc75;have h75:=of_decide_eq_false hc75;have hz:j=b:=by dsimp only at h75;omega
        have e4:d5=if b-i>=2 then shiftUp S.lt b (i+1) d3 else d3:=by rw[if_pos aa,<-w3,Re aa]
        rw[LD (s:=s') hsc hib hfew (hd2▸e3) e4] at h6;refine(eG)<|(jM) ?_;exact⟨(s+1,i,d5),oA,⟨oA,⟨oA,g2⟩,w2,by dsimp only;rw[<-h6];congr 1;omega⟩,lA,kA,fA,hA⟩
      ·intro hc70;have h70:=of_decide_eq_false hc70;have e4:d3=if b-i>=2 then shiftUp S.lt b (i+1) d3 else d3:=by rw[if_neg aa]
       rw[LD (s:=s') hsc hib hfew (hd2▸e3) e4] at h6;refine(bX)<|(jM) ?_;exact⟨(s+1,i,d3),oA,⟨oA,⟨oA,g2⟩,q5,by dsimp only;rw[<-h6];congr 1;omega⟩,lA,kA,fA,hA⟩
 ·intro hc14;have hge:s=5:=by have:=of_decide_eq_false hc14;dsimp only at this;omega
  subst hge;have h7:(d1,false)=R:=h6;subst h7;refine(eG)<|(mI)<|aH [] (S.LL d1) ?_;exact⟨O,O,h5,O⟩
end Go.Proofs
namespace Go.Proofs
open Tryz
open Go.V Go.Sort
variable {β:Type} [Inhabited β] {S:SF β} {d d1 d3 d4:Array β} {a b x n i i2 j j2 s pv:Nat} {lt:β->β->Bool} {p:β->Bool}
theorem BC (h:i<=j->p d[i]! =false):scanUp p d j i=i:=by
 rw[scanUp,if_neg];simp only[eI,decide_eq_true_eq];rintro⟨h1,h2⟩;rw[h h1] at h2;cases h2
theorem Ld (h:i<=j) (h2:p d[i]! =true):scanUp p d j i=scanUp p d j (i+1):=by
 rw[scanUp,if_pos (by simp[h,h2])]
theorem BD (h:i<=j->p d[j]! =false) (hi:0<i):scanDown p d i j=j:=by
 cases j with
 |zero=>rfl
 |succ j=>
  rw[scanDown,if_neg];simp only[eI,decide_eq_true_eq];rintro⟨h1,h2⟩;rw[h h1] at h2;cases h2
theorem Le (h:i<=j) (hi:0<i) (h2:p d[j]! =true):scanDown p d i j=scanDown p d i (j-1):=by
 cases j with
 |zero=>omega
 |succ j=>rw[scanDown,if_pos (by simp[h,h2])];rfl
theorem aee (h1:scanUp (λx=>!lt d[a]! x) d j i=i2) (h2:scanDown (λx=>lt d[a]! x) d i2 j=j2) (h:j2<i2):partEqLoop lt a i j d=(i2,d):=by
 rw[partEqLoop];simp only[h1,h2];rw[if_pos aa]
theorem aeg (h1:scanUp (λx=>!lt d[a]! x) d j i=i2) (h2:scanDown (λx=>lt d[a]! x) d i2 j=j2) (h:i2<=j2) (h0:0<i2) (hi:i<=i2) (hj:j2<=j):partEqLoop lt a i j d=partEqLoop lt a (i2+1) (j2-1) (swp d i2 j2):=by
 rw[partEqLoop];simp only[h1,h2];rw[if_neg aa,dif_pos aa]
theorem aef (hS:kq S) (hd:S.Ok d) (hab:a+12<b) (hb:b<=S.n) (hp:pv<S.n):ai prog 376 [S.v,iv a,iv b,iv pv].toArray S.G (S.LL d)
  (λv Fs' L'=>v=iv (partitionEqual S.lt d a b pv).1/\Fs'=[]/\S.Ok (partitionEqual S.lt d a b pv).2/\L'=S.LL (partitionEqual S.lt d a b pv).2/\a<(partitionEqual S.lt d a b pv).1/\(partitionEqual S.lt d a b pv).1<=b):=by
 have hsm:=hS.small;obtain⟨R,hR⟩:∃R,R=partitionEqual S.lt d a b pv:=⟨_,rfl⟩;rw[<-hR];have hR':partEqLoop S.lt a (a+1) (b-1) (swp d a pv)=R:=hR.symm;refine am func376 λ_=>(au) ?_;intro _;refine(fP)<|(dG) ?_;refine nZ O eA (NF.refl _) (hS.swap d hd _ _ a pv O O aa aa) tA O λv L' ⟨e1,e2⟩=>?_;subst e1;subst e2;have k5:=hS.ok d hd a pv aa aa;refine(qC)<|(qA) ?_;refine ew (m:=((b-1:Nat):Int)) O O aa iA O<|(gb)<|(bR)<|(gU)<|aU [(9,10),(20,56)] (λ(x:Nat×Nat×Array β)=>(a+1<=x.1/\x.1<=x.2.1+2/\x.2.1<b/\x.1<=b)/\S.Ok x.2.2/\partEqLoop S.lt a x.1 x.2.1 x.2.2=R) (λx=>[(9,iv x.1),(10,iv x.2.1)]) (λ_=>[]) (λx=>S.LL x.2.2) (λx=>x.2.1+1-x.1) ((a+1,b-1,swp d a pv)) (⟨⟨bg _,oA,oA,oA⟩,k5,hR'⟩) λ⟨i,j,d1⟩ fr ⟨⟨h1,h2,h3,h4⟩,h5,h6⟩=>?_;dsimp only at h1 h2 h3 h4 h5 h6;refine(gU)<|(ce)<|jl (S.LL d1) [(9,9),(20,32)] (λ(y:Nat)=>(i<=y/\(y<=j+1\/y=i))/\scanUp (λx=>!S.lt d1[a]! x) d1 j i=y) (λy=>[(9,iv y)]) (λ_=>[]) (λy=>S.LL d1) ?_ ?_
 ·refine(gU)<|aU [(9,9),(20,32)] (λ(y:Nat)=>(i<=y/\(y<=j+1\/y=i))/\scanUp (λx=>!S.lt d1[a]! x) d1 j y=scanUp (λx=>!S.lt d1[a]! x) d1 j i) (λy=>[(9,iv y)]) (λ_=>[]) (λy=>S.LL d1) (λy=>j+1-y) (i) (⟨⟨bg _,.inr O⟩,O⟩) λy fr1 ⟨⟨g1,g2⟩,g3⟩=>?_;refine(vo) ?_;rcases dL j y with hi|hi
  ·refine(cO) ?_;refine aL O O (by show some (decide _)=some false;simp;omega) O<|(vn) ?_;exact⟨y,⟨⟨g1,g2⟩,by rw[<-g3];exact BC aa⟩,lA,kA,fA,hA⟩
  ·refine(cO) ?_;refine aL O O (by show some (decide _)=some true;simp;omega) O<|(jW) ?_;refine ah O O (dj O eA hS.lessE (NF.refl _) (hS.less d1 h5 _ _ a y O aa aa aa) λv Fs' L' ⟨⟨e1,e2⟩,e3⟩=>?_);subst e1;subst e2;subst e3;refine(JB)<|(fm)<|ao ?_ ?_
   ·intro hc30;refine(kV)<|(sL) ?_;exact⟨y+1,oA,⟨⟨oA,.inl oA⟩,by rw[<-g3];exact(Ld hi (by simpa using hc30)).symm⟩,lA,kA,fA,hA⟩
   ·intro hc30;refine(eG) ?_;exact⟨y,⟨⟨g1,g2⟩,by rw[<-g3];exact BC (λ_=>by simpa using hc30)⟩,lA,kA,fA,hA⟩
 ·intro i2 gB ⟨⟨g1,g2⟩,hup⟩;refine(ce)<|jl (S.LL d1) [(10,10),(33,44)] (λ(y:Nat)=>(y<=j/\(i2<=y+1\/y=j))/\scanDown (λx=>S.lt d1[a]! x) d1 i2 j=y) (λy=>[(10,iv y)]) (λ_=>[]) (λy=>S.LL d1) ?_ ?_
  ·refine(gU)<|aU [(10,10),(33,44)] (λ(y:Nat)=>(y<=j/\(i2<=y+1\/y=j))/\scanDown (λx=>S.lt d1[a]! x) d1 i2 y=scanDown (λx=>S.lt d1[a]! x) d1 i2 j) (λy=>[(10,iv y)]) (λ_=>[]) (λy=>S.LL d1) (λy=>y) (j) (⟨⟨bg _,.inr O⟩,O⟩) λy fr2 ⟨⟨f1,f2⟩,f3⟩=>?_;refine(vo) ?_;rcases dL y i2 with hi|hi
   ·refine(cO) ?_;refine aL O O (by show some (decide _)=some false;simp;omega) O<|(Jc)<|(aN)<|(gL)<|(eG) ?_;exact⟨y,⟨⟨f1,f2⟩,by rw[<-f3];exact BD aa aa⟩,lA,kA,fA,hA⟩
   ·refine(cO) ?_;refine aL O O (by show some (decide _)=some true;simp;omega) O<|(jW) ?_;refine ah O O (dj O eA hS.lessE (NF.refl _) (hS.less d1 h5 _ _ a y O aa aa aa) λv Fs' L' ⟨⟨e1,e2⟩,e3⟩=>?_);subst e1;subst e2;subst e3;refine(fm)<|ao ?_ ?_
    ·intro hc42;refine(kV)<|(aY) ?_;refine ew (m:=((y-1:Nat):Int)) O O aa iA O<|(iR) ?_;exact⟨y-1,oA,⟨⟨oA,.inl oA⟩,by rw[<-f3];exact(Le hi aa hc42).symm⟩,lA,kA,fA,hA⟩
    ·intro hc42;refine(eG) ?_;exact⟨y,⟨⟨f1,f2⟩,by rw[<-f3];exact BD (λ_=>hc42) aa⟩,lA,kA,fA,hA⟩
  ·intro j2 gC ⟨⟨f1,f2⟩,hdn⟩;refine(lL)<|(sJ)<|ao ?_ ?_
   ·intro hc47;have hgt:j2<i2:=by have:=of_decide_eq_true hc47;omega
    rw[aee hup hdn hgt] at h6;subst h6;refine(CV)<|(ir)<|(bJ)<|(bO)<|aH [] (S.LL d1) ?_;exact⟨O,O,h5,O,by dsimp only;omega,by dsimp only;omega⟩
   ·intro hc47;have hle:i2<=j2:=by have:=of_decide_eq_false hc47;omega
    rw[aeg hup hdn hle aa g1 f1] at h6;refine(bX)<|(CQ) ?_;refine nZ O eA (NF.refl _) (hS.swap d1 h5 _ _ i2 j2 O O aa aa) tA O λv L' ⟨e1,e2⟩=>?_;subst e1;subst e2;refine(qC)<|(dm)<|(bt)<|(aY) ?_;refine ew (m:=((j2-1:Nat):Int)) O O aa iA O<|(iR) ?_;exact⟨(i2+1,j2-1,swp d1 i2 j2),oA,⟨⟨oA,oA,oA,oA⟩,hS.ok d1 h5 i2 j2 aa aa,h6⟩,lA,kA,fA,hA⟩
end Go.Proofs
namespace Go.Proofs
open Tryz
open Go.V Go.Sort
variable {β:Type} [Inhabited β] {S:SF β} {d d0 d1 d3 d4:Array β} {a b x n i i2 j j2 s pv:Nat} {lt:β->β->Bool} {p:β->Bool}
theorem aec (h1:scanUp (λx=>lt x d[a]!) d j i=i2) (h2:scanDown (λx=>!lt x d[a]!) d i2 j=j2) (h:j2<i2):partLoop lt a i j d=(j2,d):=by
 rw[partLoop];simp only[h1,h2];rw[if_pos aa]
theorem aed (h1:scanUp (λx=>lt x d[a]!) d j i=i2) (h2:scanDown (λx=>!lt x d[a]!) d i2 j=j2) (h:i2<=j2) (h0:0<i2) (hi:i<=i2) (hj:j2<=j):partLoop lt a i j d=partLoop lt a (i2+1) (j2-1) (swp d i2 j2):=by
 rw[partLoop];simp only[h1,h2];rw[if_neg aa,dif_pos aa]
theorem ad8 (h0:d0=swp d a pv) (h1:scanUp (λx=>lt x d0[a]!) d0 (b-1) (a+1)=i) (h2:scanDown (λx=>!lt x d0[a]!) d0 i (b-1)=j) (h:j<i):partition lt d a b pv=(j,true,swp d0 j a):=by
 subst h0;simp only[partition,h1,h2];rw[if_pos aa]
theorem ad6 (h0:d0=swp d a pv) (h1:scanUp (λx=>lt x d0[a]!) d0 (b-1) (a+1)=i) (h2:scanDown (λx=>!lt x d0[a]!) d0 i (b-1)=j) (h:i<=j):
  partition lt d a b pv=((partLoop lt a (i+1) (j-1) (swp d0 i j)).1,false,swp (partLoop lt a (i+1) (j-1) (swp d0 i j)).2 (partLoop lt a (i+1) (j-1) (swp d0 i j)).1 a):=by
 subst h0;simp only[partition,h1,h2];rw[if_neg aa]
theorem ad7 (hS:kq S) (hd:S.Ok d) (hab:a+12<b) (hb:b<=S.n) (hp:pv<S.n):ai prog 377 [S.v,iv a,iv b,iv pv].toArray S.G (S.LL d)
  (λv Fs' L'=>v= .tuple #[iv (partition S.lt d a b pv).1,.bool (partition S.lt d a b pv).2.1]/\Fs'=[]/\S.Ok (partition S.lt d a b pv).2.2/\L'=S.LL (partition S.lt d a b pv).2.2/\a<=(partition S.lt d a b pv).1/\(partition S.lt d a b pv).1<b):=by
 have hsm:=hS.small;obtain⟨R,hR⟩:∃R,R=partition S.lt d a b pv:=⟨_,rfl⟩;rw[<-hR];obtain⟨d0,hd0⟩:∃d0,d0=swp d a pv:=⟨_,rfl⟩;have k5:=hS.ok d hd a pv aa aa;rw[<-hd0] at k5;refine am func377 λ_=>(au) ?_;intro _;refine(gb)<|(fP)<|(dG) ?_;refine nZ O eA (NF.refl _) (hS.swap d hd _ _ a pv O O aa aa) tA O λv L' ⟨e1,e2⟩=>?_;subst e1;rw[<-hd0] at e2;subst e2;refine(qC)<|(qA) ?_;refine ew (m:=((b-1:Nat):Int)) O O aa iA O<|(gb)<|(bR)<|jl (S.LL d0) [(10,10),(21,32)] (λ(y:Nat)=>(a+1<=y/\y<=b)/\scanUp (λx=>S.lt x d0[a]!) d0 (b-1) (a+1)=y) (λy=>[(10,iv y)]) (λ_=>[]) (λy=>S.LL d0) ?_ ?_
 ·refine(gU)<|aU [(10,10),(21,32)] (λ(y:Nat)=>(a+1<=y/\y<=b)/\scanUp (λx=>S.lt x d0[a]!) d0 (b-1) y=scanUp (λx=>S.lt x d0[a]!) d0 (b-1) (a+1)) (λy=>[(10,iv y)]) (λ_=>[]) (λy=>S.LL d0) (λy=>b-y) (a+1) (⟨⟨bg _,oA⟩,O⟩) λy fr1 ⟨⟨g1,g2⟩,g3⟩=>?_;refine(vo) ?_;rcases dL (b-1) y with hi|hi
  ·refine(cO) ?_;refine aL O O (by show some (decide _)=some false;simp;omega) O<|(Jc)<|(aN)<|(gL)<|(eG) ?_;exact⟨y,⟨⟨g1,g2⟩,by rw[<-g3];exact BC aa⟩,lA,kA,fA,hA⟩
  ·refine(cO) ?_;refine aL O O (by show some (decide _)=some true;simp;omega) O<|(jW) ?_;refine ah O O (dj O eA hS.lessE (NF.refl _) (hS.less d0 k5 _ _ y a O O aa aa) λv Fs' L' ⟨⟨e1,e2⟩,e3⟩=>?_);subst e1;subst e2;subst e3;refine(fm)<|ao ?_ ?_
   ·intro hc30;refine(kV)<|(sL) ?_;exact⟨y+1,oA,⟨⟨oA,oA⟩,by rw[<-g3];exact(Ld hi hc30).symm⟩,lA,kA,fA,hA⟩
   ·intro hc30;refine(eG) ?_;exact⟨y,⟨⟨g1,g2⟩,by rw[<-g3];exact BC (λ_=>hc30)⟩,lA,kA,fA,hA⟩
 ·intro i gA0 ⟨⟨g1,g2⟩,hup⟩;refine(ce)<|jl (S.LL d0) [(11,11),(33,45)] (λ(y:Nat)=>(y<b/\i<=y+1)/\scanDown (λx=>!S.lt x d0[a]!) d0 i (b-1)=y) (λy=>[(11,iv y)]) (λ_=>[]) (λy=>S.LL d0) ?_ ?_
  ·refine(gU)<|aU [(11,11),(33,45)] (λ(y:Nat)=>(y<b/\i<=y+1)/\scanDown (λx=>!S.lt x d0[a]!) d0 i y=scanDown (λx=>!S.lt x d0[a]!) d0 i (b-1)) (λy=>[(11,iv y)]) (λ_=>[]) (λy=>S.LL d0) (λy=>y) (b-1) (⟨⟨oA,oA⟩,O⟩) λy fr2 ⟨⟨f1,f2⟩,f3⟩=>?_;refine(vo) ?_;rcases dL y i with hi|hi
   ·refine(cO) ?_;refine aL O O (by show some (decide _)=some false;simp;omega) O<|(vn) ?_;exact⟨y,⟨⟨f1,f2⟩,by rw[<-f3];exact BD aa aa⟩,lA,kA,fA,hA⟩
   ·refine(cO) ?_;refine aL O O (by show some (decide _)=some true;simp;omega) O<|(jW) ?_;refine ah O O (dj O eA hS.lessE (NF.refl _) (hS.less d0 k5 _ _ y a O O aa aa) λv Fs' L' ⟨⟨e1,e2⟩,e3⟩=>?_);subst e1;subst e2;subst e3;refine(JB)<|(fm)<|ao ?_ ?_
    ·intro hc43;refine(kV)<|(aY) ?_;refine ew (m:=((y-1:Nat):Int)) O O aa iA O<|(iR) ?_;exact⟨y-1,oA,⟨⟨oA,oA⟩,by rw[<-f3];exact(Le hi aa hc43).symm⟩,lA,kA,fA,hA⟩
    ·intro hc43;refine(eG) ?_;exact⟨y,⟨⟨f1,f2⟩,by rw[<-f3];exact BD (λ_=>hc43) aa⟩,lA,kA,fA,hA⟩
  ·intro j gB ⟨⟨f1,f2⟩,hdn⟩;refine(lL)<|(sJ)<|ao ?_ ?_
   ·intro hc48;have hgt:j<i:=by have:=of_decide_eq_true hc48;omega
    rw[ad8 hd0 hup hdn hgt] at hR;subst hR;refine(CQ) ?_;refine nZ O eA (NF.refl _) (hS.swap d0 k5 _ _ j a O O aa aa) tA O λv L' ⟨e1,e2⟩=>?_;subst e1;subst e2;refine(qC)<|(gb)<|(mJ)<|aH [] (S.LL (swp d0 j a)) ?_;exact⟨O,O,hS.ok d0 k5 j a aa aa,O,by dsimp only;omega,by dsimp only;omega⟩
   ·intro hc48;have hle:i<=j:=by have:=of_decide_eq_false hc48;omega
    rw[ad6 hd0 hup hdn hle] at hR;have w5:=hS.ok d0 k5 i j aa aa;refine(bX)<|(CQ) ?_;refine nZ O eA (NF.refl _) (hS.swap d0 k5 _ _ i j O O aa aa) tA O λv L' ⟨e1,e2⟩=>?_;subst e1;subst e2;refine(qC)<|(dm)<|(cF) ?_;refine ew (m:=((j-1:Nat):Int)) O O aa iA O<|(bR)<|(gU)<|aU [(10,11),(64,100)] (λ(x:Nat×Nat×Array β)=>(a+2<=x.1/\x.1<=x.2.1+2/\x.2.1<b/\a<=x.2.1)/\S.Ok x.2.2/\partLoop S.lt a x.1 x.2.1 x.2.2=partLoop S.lt a (i+1) (j-1) (swp d0 i j)) (λx=>[(10,iv x.1),(11,iv x.2.1)]) (λ_=>[]) (λx=>S.LL x.2.2) (λx=>x.2.1+1-x.1) ((i+1,j-1,swp d0 i j)) (⟨⟨oA,oA,oA,oA⟩,w5,O⟩) λ⟨ii,jj,d1⟩ fr ⟨⟨h1,h2,h3,h4⟩,h5,h6⟩=>?_;dsimp only at h1 h2 h3 h4 h5 h6;refine(gU)<|(ce)<|jl (S.LL d1) [(10,10),(64,75)] (λ(y:Nat)=>(ii<=y/\(y<=jj+1\/y=ii))/\scanUp (λx=>S.lt x d1[a]!) d1 jj ii=y) (λy=>[(10,iv y)]) (λ_=>[]) (λy=>S.LL d1) ?_ ?_
    ·refine(gU)<|aU [(10,10),(64,75)] (λ(y:Nat)=>(ii<=y/\(y<=jj+1\/y=ii))/\scanUp (λx=>S.lt x d1[a]!) d1 jj y=scanUp (λx=>S.lt x d1[a]!) d1 jj ii) (λy=>[(10,iv y)]) (λ_=>[]) (λy=>S.LL d1) (λy=>jj+1-y) (ii) (⟨⟨bg _,.inr O⟩,O⟩) λy fr3 ⟨⟨u1,u2⟩,u3⟩=>?_;refine(vo) ?_;rcases dL jj y with hi|hi
     ·refine(cO) ?_;refine aL O O (by show some (decide _)=some false;simp;omega) O<|(Jc)<|(aN)<|(gL)<|(eG) ?_;exact⟨y,⟨⟨u1,u2⟩,by rw[<-u3];exact BC aa⟩,lA,kA,fA,hA⟩
     ·refine(cO) ?_;refine aL O O (by show some (decide _)=some true;simp;omega) O<|(jW) ?_;refine ah O O (dj O eA hS.lessE (NF.refl _) (hS.less d1 h5 _ _ y a O O aa aa) λv Fs' L' ⟨⟨e1,e2⟩,e3⟩=>?_);subst e1;subst e2;subst e3;refine(fm)<|ao ?_ ?_
      ·intro hc73;refine(kV)<|(sL) ?_;exact⟨y+1,oA,⟨⟨oA,.inl oA⟩,by rw[<-u3];exact(Ld hi hc73).symm⟩,lA,kA,fA,hA⟩
      ·intro hc73;refine(eG) ?_;exact⟨y,⟨⟨u1,u2⟩,by rw[<-u3];exact BC (λ_=>hc73)⟩,lA,kA,fA,hA⟩
    ·intro i2 gC ⟨⟨u1,u2⟩,hup2⟩;refine(ce)<|jl (S.LL d1) [(11,11),(76,88)] (λ(y:Nat)=>(y<=jj/\(i2<=y+1\/y=jj))/\scanDown (λx=>!S.lt x d1[a]!) d1 i2 jj=y) (λy=>[(11,iv y)]) (λ_=>[]) (λy=>S.LL d1) ?_ ?_
     ·refine(gU)<|aU [(11,11),(76,88)] (λ(y:Nat)=>(y<=jj/\(i2<=y+1\/y=jj))/\scanDown (λx=>!S.lt x d1[a]!) d1 i2 y=scanDown (λx=>!S.lt x d1[a]!) d1 i2 jj) (λy=>[(11,iv y)]) (λ_=>[]) (λy=>S.LL d1) (λy=>y) (jj) (⟨⟨bg _,.inr O⟩,O⟩) λy fr4 ⟨⟨v1,v2⟩,v3⟩=>?_;refine(vo) ?_;rcases dL y i2 with hi|hi
      ·refine(cO) ?_;refine aL O O (by show some (decide _)=some false;simp;omega) O<|(vn) ?_;exact⟨y,⟨⟨v1,v2⟩,by rw[<-v3];exact BD aa aa⟩,lA,kA,fA,hA⟩
      ·refine(cO) ?_;refine aL O O (by show some (decide _)=some true;simp;omega) O<|(jW) ?_;refine ah O O (dj O eA hS.lessE (NF.refl _) (hS.less d1 h5 _ _ y a O O aa aa) λv Fs' L' ⟨⟨e1,e2⟩,e3⟩=>?_);subst e1;subst e2;subst e3;refine(JB)<|(fm)<|ao ?_ ?_
       ·intro hc86;refine(kV)<|(aY) ?_;refine ew (m:=((y-1:Nat):Int)) O O aa iA O<|(iR) ?_;exact⟨y-1,oA,⟨⟨oA,.inl oA⟩,by rw[<-v3];exact(Le hi aa hc86).symm⟩,lA,kA,fA,hA⟩
       ·intro hc86;refine(eG) ?_;exact⟨y,⟨⟨v1,v2⟩,by rw[<-v3];exact BD (λ_=>hc86) aa⟩,lA,kA,fA,hA⟩
     ·intro j2 gD ⟨⟨v1,v2⟩,hdn2⟩;refine(lL)<|(sJ)<|ao ?_ ?_
      ·intro hc91;have hgt:j2<i2:=by have:=of_decide_eq_true hc91;omega
       rw[aec hup2 hdn2 hgt] at h6;rw[<-h6] at hR;subst hR;refine(CV)<|(ir)<|(CQ) ?_;refine nZ O eA (NF.refl _) (hS.swap d1 h5 _ _ j2 a O O aa aa) tA O λv L' ⟨e1,e2⟩=>?_;subst e1;subst e2;refine(qC)<|(gb)<|(bO)<|aH [] (S.LL (swp d1 j2 a)) ?_;exact⟨O,O,hS.ok d1 h5 j2 a aa aa,O,by dsimp only;omega,by dsimp only;omega⟩
      ·intro hc91;have hle2:i2<=j2:=by have:=of_decide_eq_false hc91;omega
       rw[aed hup2 hdn2 hle2 aa u1 v1] at h6;refine(bX)<|(CQ) ?_;refine nZ O eA (NF.refl _) (hS.swap d1 h5 _ _ i2 j2 O O aa aa) tA O λv L' ⟨e1,e2⟩=>?_;subst e1;subst e2;refine(qC)<|(dm)<|(bt)<|(aY) ?_;refine ew (m:=((j2-1:Nat):Int)) O O aa iA O<|(iR) ?_;exact⟨(i2+1,j2-1,swp d1 i2 j2),oA,⟨⟨oA,oA,oA,oA⟩,hS.ok d1 h5 i2 j2 aa aa,h6⟩,lA,kA,fA,hA⟩
end Go.Proofs
namespace Go.Proofs
open Go.V Go.Sort
variable {β:Type} [Inhabited β] {S:SF β} {d d1 d2 d3 d4:Array β} {a b limit lim1 pivot mid:Nat} {lt:β->β->Bool} {wb wp al:Bool} {c:Nat×Hint} {hint:Hint} {pi:Array β×Bool}
theorem ad1 (h:b-a<=12):pdq lt d a b limit wb wp=insertionSort lt d a b:=by
 rw[pdq,if_pos h]
theorem ad2 (h:¬b-a<=12) (h0:limit=0):pdq lt d a b limit wb wp=heapSort lt d a b:=by
 rw[pdq,if_neg h,if_pos h0]
structure FK (lt:β->β->Bool) (d:Array β) (a b limit:Nat) (wb wp:Bool) (d1:Array β) (lim1:Nat) (d2:Array β) (pivot:Nat) (hint:Hint) (pi:Array β×Bool):Prop where
 h12:¬b-a<=12
 h0:limit≠0
 e1:d1=if !wb then breakPatterns d a b else d
 el:lim1=if !wb then limit-1 else limit
 e2:d2=if(choosePivot lt d1 a b).2= .decreasing then reverseRange d1 a b else d1
 ep:pivot=if(choosePivot lt d1 a b).2= .decreasing then(b-1)-((choosePivot lt d1 a b).1-a) else(choosePivot lt d1 a b).1
 eh:hint=if(choosePivot lt d1 a b).2= .decreasing then Hint.increasing else(choosePivot lt d1 a b).2
 epi:pi=if wb&&wp&&hint= .increasing then partialInsertionSort lt d2 a b else(d2,false)
theorem adZ (H:FK lt d a b limit wb wp d1 lim1 d2 pivot hint pi) (h:pi.2=true):pdq lt d a b limit wb wp=pi.1:=by
 obtain⟨h12,h0,e1,el,e2,ep,eh,epi⟩:=H;rw[pdq,if_neg h12,if_neg h0];simp only[<-e1,<-el,<-e2,<-ep,<-eh,<-epi];rw[if_pos h]
theorem ad3 (H:FK lt d a b limit wb wp d1 lim1 d2 pivot hint pi) (h:pi=(d3,false)) (hc:(a>0&&!lt d3[a-1]! d3[pivot]!)=true) (hpe:partitionEqual lt d3 a b pivot=(mid,d4)) (hr:a<mid/\mid<=b):
  pdq lt d a b limit wb wp=pdq lt d4 mid b lim1 wb wp:=by
 obtain⟨h12,h0,e1,el,e2,ep,eh,epi⟩:=H;rw[h] at epi;rw[pdq,if_neg h12,if_neg h0];simp only[<-e1,<-el,<-e2,<-ep,<-eh,<-epi];rw[if_neg bz,if_pos hc,hpe];simp only;rw[dif_pos hr]
theorem ad0 (H:FK lt d a b limit wb wp d1 lim1 d2 pivot hint pi) (h:pi=(d3,false)) (hc:(a>0&&!lt d3[a-1]! d3[pivot]!)=false) (hpt:partition lt d3 a b pivot=(mid,al,d4)) (hr:a<=mid/\mid<b) (hl:mid-a<b-mid):
  pdq lt d a b limit wb wp=pdq lt (pdq lt d4 a mid lim1 true true) (mid+1) b lim1 (decide (mid-a>=(b-a)/8)) al:=by
 obtain⟨h12,h0,e1,el,e2,ep,eh,epi⟩:=H;rw[h] at epi;rw[pdq,if_neg h12,if_neg h0];simp only[<-e1,<-el,<-e2,<-ep,<-eh,<-epi];rw[if_neg bz,if_neg (by rw[hc];decide),hpt];simp only;rw[dif_pos hr,if_pos hl]
theorem adY (H:FK lt d a b limit wb wp d1 lim1 d2 pivot hint pi) (h:pi=(d3,false)) (hc:(a>0&&!lt d3[a-1]! d3[pivot]!)=false) (hpt:partition lt d3 a b pivot=(mid,al,d4)) (hr:a<=mid/\mid<b) (hl:¬mid-a<b-mid):
  pdq lt d a b limit wb wp=pdq lt (pdq lt d4 (mid+1) b lim1 true true) a mid lim1 (decide (b-mid>=(b-a)/8)) al:=by
 obtain⟨h12,h0,e1,el,e2,ep,eh,epi⟩:=H;rw[h] at epi;rw[pdq,if_neg h12,if_neg h0];simp only[<-e1,<-el,<-e2,<-ep,<-eh,<-epi];rw[if_neg bz,if_neg (by rw[hc];decide),hpt];simp only;rw[dif_pos hr,if_neg hl]
theorem LJ {i j s n:Nat} (hi:n<=i) (hj:n<=j):n<=(order2 lt d i j s).1/\n<=(order2 lt d i j s).2.1:=by
 unfold order2;split
 ·exact⟨hj,hi⟩
 ·exact⟨hi,hj⟩
theorem Ez {i j k s n:Nat} (hi:n<=i) (hj:n<=j) (hk:n<=k):n<=(median lt d i j k s).1:=by
 simp only[median];have h1:=LJ (lt:=lt) (d:=d) (s:=s) hi hj;have h2:=LJ (lt:=lt) (d:=d) (s:=(order2 lt d i j s).2.2) h1.2 hk;exact(LJ h1.1 h2.1).2
theorem adP (h:a+12<b):a<=(choosePivot lt d a b).1/\(choosePivot lt d a b).1<b:=by
 simp only[choosePivot];rw[if_pos aa];have q:(b-a)/4*4<=b-a:=Nat.div_mul_le_self _ _;split
 ·refine⟨Ez (Ez aa aa aa) (Ez aa aa aa) (Ez aa aa aa),(BS ?_ ?_ ?_).1⟩
  ·exact rO
  ·exact rO
  ·exact rO
 ·exact⟨Ez aa aa aa,(BS aa aa aa).1⟩
end Go.Proofs
