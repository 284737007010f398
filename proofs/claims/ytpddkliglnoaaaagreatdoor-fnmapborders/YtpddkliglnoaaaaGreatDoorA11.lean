/- Part 11 of the proof that FnMapBorders returns true for every input that its row lets in. No further condition. -/
import Derived.Test.YtpddkliglnoaaaaGreatDoorA10
set_option linter.all false
set_option autoImplicit true
set_option relaxedAutoImplicit true
namespace Go.V
section
variable {P:Program} {c:bC} {n:Nat} {ops:Array Oper} {Fs:List an} {L:List ae} {f:Fm} {Q:bG} {rest:List Oper}
variable {d:Nat} {ty:TypeId} {ps:String} {aft:Array Edge}
theorem ahH {x y:Operand} {T T':TypeId} {a b:Int} (hx:ap f x= .b (.int .i64 a)) (hy:ap f y= .b (.int .i64 b)) (ha:a= -1) (hb:b=2) (hd:Nat.blt d n=true) (k:ak P c n ops Fs L (aT f d (.int .i64 0)) rest Q):
  ak P c n ops Fs L f (⟨some d,.binOp .quo T x y T',ty,ps,aft,none⟩::rest) Q:=by
 subst ha;subst hb;refine dh O (bU hd) _ (λh w sa al=>?_) k;simp only[Bx.v_b,execOp,hx,hy,Go.binOp,eqGuard,ne_eq,not_true_eq_false,if_false,bo,bS];rfl
end
end Go.V
namespace Go.Proofs
open Tryz
open Go.V
variable {rq:Nat} {ob:bH} {qs:List QE} {L:List ae} {i j:Nat} {x y:QE}
abbrev HN (rq:Nat):Value:= .iface 419 (aF rq)
theorem NE {qs qs':List QE} {h:PH} (hp:qs'.Perm qs) (k:(fQ qs).p h):(fQ qs').p h:=λx hx=>k x (hp.mem_iff.1 hx)
theorem GF {qs:List QE} {i j:Nat} {x y:QE} (hi:qs[i]? =some x) (hj:qs[j]? =some y):((qs.set i y).set j x).Perm qs:=by
 have hi':=da hi;have hj':=da hj;have:=Go.Sort.perm_set_set qs i j hi' hj';rw[aG hi'] at hi;rw[aG hj'] at hj;rw[iD hi,iD hj] at this;exact this
theorem Yy (h:QL rq ob qs L) (hj:j<qs.length) (hb:qs.length<=16777216):ai prog 401 [HN rq,iv j].toArray [fQ qs] L (λv Fs' L'=>∃qs',(v= .tuple #[]/\Fs'=[])/\qs'.Perm qs/\QL rq ob qs' L'):=by
 refine am func401 λ_=>(gU)<|aU [(1,1),(4,22)] (λ(x:Nat×List QE×List ae)=>x.1<x.2.1.length/\x.2.1.Perm qs/\QL rq ob x.2.1 x.2.2) (λx=>[(1,iv x.1)]) (λ_=>[]) (λx=>x.2.2) (λx=>x.1) ((j,qs,L)) (⟨hj,.refl _,h⟩) λ⟨j1,q1,L1⟩ fr ⟨h5,h6,h7⟩=>?_;dsimp only at h5 h6 h7;have hl:=h6.length_eq;refine(gU)<|(ce) ?_;rcases xe j1 with hz|hpos
 ·refine(aY)<|(jg) ?_;refine ahH O O aa O O<|(jL) ?_;refine aL O O (iT (p:=(0:Int)=(j1:Int)) aa) O<|(wR)<|(jK)<|(jK)<|(pK)<|(CV)<|ed [] L1 ?_;exact⟨q1,⟨O,O⟩,h6,h7⟩
 ·refine(aY)<|(jg) ?_;refine pj (m:=(((j1-1)/2:Nat):Int)) O O aa aa aa ⟨aa,aa⟩ O ?_;refine(ub) ?_;obtain⟨x,hx⟩:∃x,q1[j1]? =some x:=⟨_,aG h5⟩;obtain⟨y,hy⟩:∃x,q1[(j1-1)/2]? =some x:=⟨_,aG aa⟩;refine cI (fQ q1) (λhp al=>NE h6 (al (fQ qs) mA))<|(cO) ?_;refine aL O O (iF (p:=(((j1-1)/2:Nat):Int)=(j1:Int)) aa) O<|(pI)<|(fN) ?_;refine ah O O (sw O eA (Hv _) call473 (G6 (x:=x) (y:=y) h7 hx hy) fA tA O λv' Fs' L' ⟨⟨b,e1,e2⟩,e3⟩=>?_);have e3:=e3.symm;subst e1;subst e2;subst e3;refine(JB)<|(vt)<|ao ?_ ?_
  ·intro hc17;refine(CV)<|ed [] L1 ?_;exact⟨q1,⟨O,O⟩,h6,h7⟩
  ·intro hc17;refine(bX)<|(OC) ?_;refine sw O eA (Hu _) call476 (G5 (i:=(j1-1)/2) (j:=j1) (x:=y) (y:=x) h7 hy hx) fA tA O λv' Fs' L' ⟨⟨e1,e2⟩,hQ⟩=>?_;subst e1;subst e2;refine(lK) ?_;exact⟨((j1-1)/2,(q1.set ((j1-1)/2) x).set j1 y,L'),oA,⟨by simp;omega,(GF hy hx).trans h6,hQ⟩,lA,kA,fA,hA⟩
end Go.Proofs
namespace Go.Proofs
open Tryz
open Go.V
variable {rq:Nat} {ob:bH} {qs:List QE} {L:List ae} {i j n:Nat} {x y:QE}
theorem US {α:Type} {l:List α} {k:Nat} {d:α} (h:k<l.length):l[k]? =some (l.getD k d):=by
 rw[j7,aG h];rfl
theorem aj3 (h:QL rq ob qs L) (hi:i<qs.length) (hn:n<=qs.length) (hb:qs.length<=16777216):ai prog 402 [HN rq,iv i,iv n].toArray [fQ qs] L (λv Fs' L'=>∃qs' b,(v= .bool b/\Fs'=[])/\qs'.Perm qs/\QL rq ob qs' L'):=by
 refine am func402 λ_=>(Jl)<|(bR)<|(gU)<|aU [(7,10),(12,44)] (λ(x:Nat×List QE×List ae)=>x.1<x.2.1.length/\x.2.1.Perm qs/\QL rq ob x.2.1 x.2.2) (λx=>[(7,iv x.1)]) (λ_=>[]) (λx=>x.2.2) (λx=>qs.length-x.1) ((i,qs,L)) (⟨hi,.refl _,h⟩) λ⟨i1,q1,L1⟩ fr ⟨h5,h6,h7⟩=>?_;dsimp only at h5 h6 h7;have hl:=h6.length_eq;refine cI (fQ q1) (λhp al=>NE h6 (al (fQ qs) mA))<|(gU)<|(bJ) ?_;refine iM (m:=((2*i1:Nat):Int)) O O aa ⟨aa,aa⟩ O ?_;refine dD (m:=((2*i1+1:Nat):Int)) O O aa ⟨aa,aa⟩ O ?_;refine(ub) ?_;rcases dL (2*i1+1) n with hlt|hge
 ·refine(cO) ?_;refine aL O O (iF (p:=((2*i1+1:Nat):Int)>=(n:Int)) aa) O<|(ic) ?_;refine ah O O (aL O O (iF (p:=((2*i1+1:Nat):Int)<0) aa) O<|(pJ)<|(ce) ?_);obtain⟨x,hx⟩:∃x,q1[2*i1+1]? =some x:=⟨_,aG aa⟩;obtain⟨w,hw⟩:∃x,q1[i1]? =some x:=⟨_,aG h5⟩;refine(aY)<|(iC) ?_;refine dD (m:=((2*i1+2:Nat):Int)) O O aa ⟨aa,aa⟩ O ?_;refine(iz)<|(xZ)<|(aB) ?_;refine fY (t:=28) O (λhg28=>?_) (λhg28=>?_)
  ·refine(fN)<|(fN)<|(fN) ?_;refine ah O O (sw O eA (Hv _) call473 (G6 (i:=2*i1+2) (j:=2*i1+1) (x:=q1.getD (2*i1+2) (0,0)) (y:=x) h7 (US (by have h8:=of_decide_eq_true hg28;omega)) hx) fA tA O λv' Fs' L' ⟨⟨b,e1,e2⟩,e3⟩=>?_);have e3:=e3.symm;subst e1;subst e2;subst e3;refine(fm)<|jl (L1) [(9,9),(34,34)] (λ(z:Nat)=>i1<z/\z<n) (λz=>[(9,iv z)]) (λ_=>[]) (λz=>L1) ?_ ?_
   ·refine ao ?_ ?_
    ·intro hc33;have hz9:2*i1+2<n:=by first|(have h8:=of_decide_eq_true hg28;omega)|exact absurd (hc33:(false:Bool)=true) Bool.noConfusion
     refine(aY)<|(bt) ?_;exact⟨2*i1+2,⟨aa,hz9⟩,lA,kA,fA,hA⟩
    ·intro hc33;refine(bX) ?_;exact⟨2*i1+1,⟨aa,aa⟩,lA,kA,fA,hA⟩
   ·intro z fj ⟨hz1,hz2⟩;refine(ce)<|(ba) ?_;obtain⟨u,hu⟩:∃x,q1[z]? =some x:=⟨_,aG aa⟩;refine(mD) ?_;refine sw O eA (Hv _) call473 (G6 (i:=z) (j:=i1) (x:=u) (y:=w) h7 hu hw) fA tA O λv' Fs' L' ⟨⟨b2,e1,e2⟩,e3⟩=>?_;have e3:=e3.symm;subst e1;subst e2;subst e3;refine(Ja)<|ao ?_ ?_
    ·intro hc39;refine(wF)<|aH [] L1 ?_;exact⟨q1,_,⟨O,O⟩,h6,h7⟩
    ·intro hc39;refine(bX)<|(OC) ?_;refine sw O eA (Hu _) call476 (G5 (i:=i1) (j:=z) (x:=w) (y:=u) h7 hw hu) fA tA O λv' Fs' L' ⟨⟨e1,e2⟩,hQ⟩=>?_;subst e1;subst e2;refine(lK) ?_;exact⟨(z,(q1.set i1 u).set z w,L'),oA,⟨by simp;omega,(GF hw hu).trans h6,hQ⟩,lA,kA,fA,hA⟩
  ·refine(zc)<|(vt)<|jl (L1) [(9,9),(34,34)] (λ(z:Nat)=>i1<z/\z<n) (λz=>[(9,iv z)]) (λ_=>[]) (λz=>L1) ?_ ?_
   ·refine ao ?_ ?_
    ·intro hc33;have hz9:2*i1+2<n:=by first|(have h8:=of_decide_eq_true hg28;omega)|exact absurd (hc33:(false:Bool)=true) Bool.noConfusion
     refine(aY)<|(bt) ?_;exact⟨2*i1+2,⟨aa,hz9⟩,lA,kA,fA,hA⟩
    ·intro hc33;refine(bX) ?_;exact⟨2*i1+1,⟨aa,aa⟩,lA,kA,fA,hA⟩
   ·intro z fj ⟨hz1,hz2⟩;refine(ce)<|(ba) ?_;obtain⟨u,hu⟩:∃x,q1[z]? =some x:=⟨_,aG aa⟩;refine(mD) ?_;refine sw O eA (Hv _) call473 (G6 (i:=z) (j:=i1) (x:=u) (y:=w) h7 hu hw) fA tA O λv' Fs' L' ⟨⟨b2,e1,e2⟩,e3⟩=>?_;have e3:=e3.symm;subst e1;subst e2;subst e3;refine(Ja)<|ao ?_ ?_
    ·intro hc39;refine(wF)<|aH [] L1 ?_;exact⟨q1,_,⟨O,O⟩,h6,h7⟩
    ·intro hc39;refine(bX)<|(OC) ?_;refine sw O eA (Hu _) call476 (G5 (i:=i1) (j:=z) (x:=w) (y:=u) h7 hw hu) fA tA O λv' Fs' L' ⟨⟨e1,e2⟩,hQ⟩=>?_;subst e1;subst e2;refine(lK) ?_;exact⟨(z,(q1.set i1 u).set z w,L'),oA,⟨by simp;omega,(GF hw hu).trans h6,hQ⟩,lA,kA,fA,hA⟩
 ·refine(cO) ?_;refine aL O O (iT (p:=((2*i1+1:Nat):Int)>=(n:Int)) aa) O<|(zj)<|(vE)<|(wF)<|aH [] L1 ?_;exact⟨q1,_,⟨O,O⟩,h6,h7⟩
end Go.Proofs
namespace Go.Proofs
open Tryz
open Go.V
variable {rq:Nat} {ob:bH} {qs:List QE} {L:List ae} {i j n:Nat} {x y:QE}
theorem ajn {hp:PH} (h1:(fQ qs).p hp) (h2:(E2 x).p hp):(fQ (qs++[x])).p hp:=λy hy=>by
 rcases bB.1 hy with hy|hy
 ·exact h1 y hy
 ·simp at hy;subst hy;exact h2
theorem ahv (h:QL rq ob qs L) (hb:qs.length<=16777215):ai prog 337 [HN rq,Ik x].toArray [fQ qs,E2 x] L (λv Fs' L'=>∃qs',(v= .tuple #[]/\Fs'=[])/\qs'.Perm (qs++[x])/\QL rq ob qs' L'):=by
 refine nT (fQ (qs++[x])) (λhp al=>ajn (al (fQ qs) (.head _)) (al (E2 x) (.tail _ (.head _)))) ?_;have hl:(qs++[x]).length=qs.length+1:=by simp
 refine am func337 λ_=>(fb) ?_;refine sw O eA (afc _) call475 (adr (x:=x) h aa) fA tA O λv' Fs' L' ⟨⟨e1,e2⟩,hQ⟩=>?_;subst e1;subst e2;refine(aN)<|(cO) ?_;refine sw O eA (SY _) call472 (RX hQ aa) fA tA O λv' Fs' L2 ⟨⟨e1,e2⟩,e3⟩=>?_;subst e1;subst e2;subst e3;refine ew (m:=((qs.length:Nat):Int)) O O aa ⟨aa,aa⟩ O ?_;refine aS eA call401 (Yy (j:=qs.length) hQ aa aa) λv' Fs' L3 ⟨qs',⟨e1,e2⟩,hp,hQ3⟩=>?_;subst e1;subst e2;refine(lJ)<|ed [] L3 ?_;exact⟨qs',⟨O,O⟩,hp,hQ3⟩
theorem Q7 {α:Type}:∀(l:List α),0<l.length->∃m x,l=m++[x]
 |[],h=>absurd h (Nat.lt_irrefl 0)
 |[a],_=>⟨[],a,rfl⟩
 |a::b::l,_=>by
  obtain⟨m,x,e⟩:=Q7 (b::l) (Nat.succ_pos _);exact⟨a::m,x,by rw[e];rfl⟩
theorem ahw (h:QL rq ob qs L) (h0:0<qs.length) (hb:qs.length<=16777215):ai prog 338 [HN rq].toArray [fQ qs] L (λv Fs' L'=>∃x qs',(v=Ik x/\Fs'=[])/\(x::qs').Perm qs/\QL rq ob qs' L'):=by
 obtain⟨x,hx⟩:∃x,qs[0]? =some x:=⟨_,aG h0⟩;obtain⟨y,hy⟩:∃x,qs[qs.length-1]? =some x:=⟨_,aG aa⟩;have hsp:=GF hx hy;have hsl:=hsp.length_eq;refine am func338 λ_=>(Jl) ?_;refine sw O eA (SY _) call472 (RX h aa) fA tA O λv' Fs' L2 ⟨⟨e1,e2⟩,e3⟩=>?_;subst e1;subst e2;subst e3;refine ew (m:=((qs.length-1:Nat):Int)) O O aa ⟨aa,aa⟩ O ?_;refine(iz) ?_;refine sw O eA (Hu _) call476 (G5 (i:=0) (j:=qs.length-1) (x:=x) (y:=y) h hx hy) fA tA O λv' Fs' L3 ⟨⟨e1,e2⟩,hQ⟩=>?_;subst e1;subst e2;refine cL (fQ ((qs.set 0 y).set (qs.length-1) x)) (λhp al=>NE hsp (al (fQ qs) mA))<|(aN)<|(fb)<|aS eA call402 (aj3 (i:=0) (n:=qs.length-1) hQ aa aa aa) λv' Fs' L4 ⟨q4,b4,⟨e1,e2⟩,hp4,hQ4⟩=>?_;subst e1;subst e2;have hl4:=hp4.length_eq;obtain⟨m5,z5,e5⟩:=Q7 q4 aa;subst e5;have hl5:(m5++[z5]).length=m5.length+1:=by simp
 refine(qC) ?_;refine sw O eA (afd _) call474 (ads hQ4 aa) fA tA O λv' Fs' L5 ⟨⟨e1,e2⟩,hQ5⟩=>?_;subst e1;subst e2;refine(bO)<|aH [] L5 ?_;exact⟨z5,m5,⟨O,O⟩,(PO z5 m5).symm.trans (hp4.trans hsp),hQ5⟩
end Go.Proofs
namespace Go.Proofs
open Tryz
open Go.V
theorem LB {α β:Type} {f:α->β}:∀{m:List β} {l:List α},m.Perm (l.map f)->∃l':List α,l'.Perm l/\l'.map f=m
 |[],l,h=>by
  have:=h.length_eq;have:l=[]:=Bn.1 (by simpa using this.symm);subst this;exact⟨[],.refl _,rfl⟩
 |b::m,l,h=>by
  obtain⟨a,ha,hb⟩:=aM.1 (h.mem_iff.1 (.head _));obtain⟨l1,l2,e⟩:=Dm ha;subst e;have h1:(b::m).Perm (b::(l1++l2).map f):=by
   refine h.trans ?_;rw[dX,dV,dX,hb];exact yi
  obtain⟨l',hp,hm⟩:=LB (List.Perm.cons_inv h1);exact⟨a::l',(Bd a hp).trans yi.symm,by rw[dV,hm,hb]⟩
theorem Sd {l m:List Nat} (h:l.Perm m):l.sum=m.sum:=by
 induction h with
 |nil=>rfl
 |cons x _ ih=>simp[ih]
 |swap x y l=>simp;omega
 |trans _ _ ih1 ih2=>exact ih1.trans ih2
def fW (S:BI->Prop) (y:QE×Nat):an where
 p h:=∃(el:List RE) (m:Value),(el.length=4/\y.1.2<4)/\(aO y.1.1 0 (el.flatMap RE.enc++[m])).p h/\∃e:RE,el[y.1.2]? =some e/\(e.c=none->S (e.b,e.id))/\∀c,e.c=some c->∃V,tW S h c V y.2
 mono:=λhle ⟨el,m,h1,h2,e,h3,h4,h5⟩=>⟨el,m,h1,an.mono _ hle h2,e,h3,h4,λc hc=>(h5 c hc).imp λ_ k=>k.mono hle⟩
def pq (S:BI->Prop) (ws:List (QE×Nat)):an where
 p h:=∀y∈ws,(fW S y).p h
 mono:=λhle k y hy=>an.mono _ hle (k y hy)
abbrev wQ (ws:List (QE×Nat)):List QE:=ws.map (·.1)
abbrev wS (ws:List (QE×Nat)):Nat:=(ws.map λy=>1+y.2).sum
theorem Vr {S:BI->Prop} {ws:List (QE×Nat)} {hp:PH} (h:(pq S ws).p hp):(fQ (wQ ws)).p hp:=λx hx=>by
 obtain⟨y,hy,rfl⟩:=aM.1 hx;obtain⟨el,m,h1,h2,_⟩:=h y hy;exact⟨el,m,h1,h2⟩
theorem Kv:∀ws:List (QE×Nat),ws.length<=wS ws
 |[]=>bg _
 |y::ws=>by have:=Kv ws;simp only[wS,dV,Po,cE] at*;omega
theorem abC {f:Nat->Nat} {a b:Nat} (h:a<=b):((List.range a).map f).sum<=((List.range b).map f).sum:=by
 induction h with
 |refl=>exact bg _
 |step _ ih=>rw[Du,dX,Bl];omega
variable {S:BI->Prop} {rq:Nat} {ob:bH} {ws:List (QE×Nat)} {L:List ae} {c z:Nat} {V:bH->List Int}
theorem VC (h:QL rq ob (wQ ws) L) (hb:wS ws+z<=16777215):ai prog 336 [aF c,aF rq].toArray [kL S c V z,pq S ws] L
  (λv Fs' L'=>∃ws',(v= .tuple #[]/\Fs'=[pq S ws'])/\wS ws'=wS ws+z/\QL rq ob (wQ ws') L'):=by
 refine z7 (α:=(List RE×Nat)×(Nat->Nat)) (φ:=λy=>(y.1.1.length=4/\1<=y.1.2/\y.1.2<=4)/\z=((List.range y.1.2).map λi=>1+y.2 i).sum) (G:=λy=>[aO c 0 (y.1.1.flatMap RE.enc++[iv y.1.2]),pq S ((List.range y.1.2).map λi=>((c,i),y.2 i))]) (λhp al=>?_) λy hy=>?_
 ·have:=al _ (.head _);cases this with
  |mk el m V z h1 h2 h3 h4 h5 h6=>
   refine⟨((el,m),z),⟨⟨h1,h2,h3⟩,O⟩,.cons h4 (.cons (λy hy=>?_) (λ_ h=>nomatch h))⟩;obtain⟨i,hi,rfl⟩:=aM.1 hy;have hi':i<m:=nL.1 hi;refine⟨el,iv m,⟨h1,by dsimp only;omega⟩,h4,el[i]'aa,aG (show i<el.length by omega),λhc=>?_,λc' hc=>?_⟩
   ·exact(h5 i _ hi' (aG aa) hc).1
   ·exact⟨_,h6 i _ c' hi' (aG aa) hc⟩
 obtain⟨⟨el,m⟩,zz⟩:=y;obtain⟨⟨h1,h2,h3⟩,h4⟩:=hy;dsimp only at h1 h2 h3 h4 ⊢;refine am func336 λ_=>(vD)<|aU [(3,19)] (λ(x:Nat×List (QE×Nat)×List ae)=>x.1<=m/\wS x.2.1=wS ws+((List.range x.1).map λi=>1+zz i).sum/\QL rq ob (wQ x.2.1) x.2.2) (λx=>[(3,iv x.1)]) (λx=>[pq S x.2.1]) (λx=>x.2.2) (λx=>m-x.1) ((0,ws,L)) (⟨bf _,O,h⟩) λ⟨i,w1,L1⟩ fr ⟨h5,h6,h7⟩=>?_;dsimp only at h5 h6 h7;refine(lL)<|(Fy) ?_;refine az ab O O O (KC (F:=RE.enc) (k:=6) (i:=0) (xs:=el) (aR mA) (qq el) O aa) O<|(kU)<|ao ?_ ?_
 ·intro hc9;have hlt:i<m:=by have:=of_decide_eq_true hc9;dsimp only at this;omega
  have hr1:((List.range (i+1)).map λi=>1+zz i).sum=((List.range i).map λi=>1+zz i).sum+(1+zz i):=by rw[Du,dX,Bl];simp
  have hle:((List.range (i+1)).map λi=>1+zz i).sum<=z:=by rw[h4];exact abC aa
  have hwl:=Kv w1;refine cI (fQ (wQ w1)) (λhp al=>Vr (al (pq S w1) mA)) ?_;refine cI (fW S ((c,i),zz i)) (λhp al=>al (pq S ((List.range m).map λi=>((c,i),zz i))) mA _ (aM.2 ⟨i,nL.2 hlt,O⟩)) ?_;refine cI (E2 (c,i)) (λhp al=>by{obtain⟨el,m,h1,h2,_⟩:=al (fW S ((c,i),zz i)) mA;exact⟨el,m,h1,h2⟩})<|(j5)<|(cJ)<|(rE)<|(dG)<|(Fy) ?_;refine fg (s:=6) (i:=i) ab O O O O O aa (by show _<4;omega) O<|(rE)<|aS eA call337 (ahv (x:=(c,i)) h7 qK) λv' Fs' L2 ⟨qs',⟨e1,e2⟩,hp,hQ⟩=>?_;subst e1;subst e2;obtain⟨w2,hw2,hm2⟩:=LB (f:=λy:QE×Nat=>y.1) (l:=w1++[((c,i),zz i)]) (m:=qs') (by rw[dX];exact hp);subst hm2;refine cL (pq S w2) (λhp al=>λy hy=>by{rcases bB.1 (hw2.mem_iff.1 hy) with h|h;exact al (pq S w1) mA y h;simp at h;subst h;exact al (fW S ((c,i),zz i)) mA}) ?_;have hs2:wS w2=wS w1+(1+zz i):=by{rw[wS,Sd (hw2.map _),dX,Bl];simp}
  refine(Jb) ?_;exact⟨(i+1,w2,L2),oA,⟨by dsimp only;omega,by dsimp only;omega,hQ⟩,lA,kA,fA,hA⟩
 ·intro hc9;have hge:i=m:=by have:=of_decide_eq_false hc9;dsimp only at this;omega
  rw[hge,<-h4] at h6;refine(nF)<|ed [pq S w1] L1 ?_;exact⟨w1,⟨O,O⟩,h6,h7⟩
end Go.Proofs
namespace Go.Proofs
open Tryz
open Go.V
variable {α:Type} {S:BI->Prop} {KK:Nat->α->Prop} {FF:α->List an} {LLs:α->List ae} {G:List an} {fn:Nat} {fv cv:List Value} {q:bH} {a:Addr} {k:Nat} {s:α} {r z:Nat} {V:bH->List Int}
def W3 (S:BI->Prop) (KK:Nat->α->Prop) (FF:α->List an) (LLs:α->List ae) (G:List an) (fn:Nat) (fv cv:List Value) (a:Addr) (k:Nat):Prop:=
 ∀(s:α) (b:bH) (i:Int),KK k s->S (b,i)->ai prog fn (fv++([iv i]++cv)).toArray (aO 1 0 [iH a]::(FF s++G)) (LLs s)
  (λv Fs' L'=>∃s',((v= .nilIface/\KK k s')\/(v=iH a/\KK (k+1) s'))/\Fs'=FF s'/\L'=LLs s')
abbrev alC (KK:Nat->α->Prop) (FF:α->List an) (LLs:α->List ae) (k:Nat):cZ:=λv Fs' L'=>∃(k':Nat) (s':α),(k<=k'/\k'<=k+1)/\KK k' s'/\v= .nilIface/\Fs'=FF s'/\L'=LLs s'
theorem Vn {a:an} {A B Fs:List an} (h0:a∈Fs) (h1:∀x∈A,x∈Fs) (h2:∀x∈B,x∈Fs):∀x∈(a::A)++B,x∈Fs:=λx hx=>by
 rcases bB.1 hx with hx|hx
 ·rcases bm.1 hx with e|hx
  ·subst e;exact h0
  ·exact h1 x hx
 ·exact h2 x hx
theorem ajE {y:QE×Nat} {hp:PH} (h:(fW S y).p hp):∃u:(List RE×Value)×RE×(bH->List Int),(u.1.1[y.1.2]? =some u.2.1/\u.1.1.length=4/\(u.2.1.c=none->S (u.2.1.b,u.2.1.id)))/\cr (aO y.1.1 0 (u.1.1.flatMap RE.enc++[u.1.2])::(match u.2.1.c with|none=>[]|some c=>[kL S c u.2.2 y.2])) hp:=by
 obtain⟨el,m,h1,h2,e,h3,h4,h5⟩:=h;cases hc:e.c with
 |none=>
  refine⟨((el,m),e,λ_=>[]),⟨h3,h1.1,h4⟩,.cons h2 ?_⟩;dsimp only;rw[hc];exact λ_ hh=>nomatch hh
 |some c=>
  obtain⟨V,hV⟩:=h5 c hc;refine⟨((el,m),e,V),⟨h3,h1.1,h4⟩,.cons h2 ?_⟩;dsimp only;rw[hc];exact .cons hV λ_ hh=>nomatch hh
theorem adw (hc:∀(args:Array Value) (w:World),(callFunc fn args).run prog w= .ok (.enter fn args) w) (hcb:W3 S KK FF LLs G fn fv cv a k) (hK:KK k s) (hb:z<=16777215):
  ai prog 259 [aF r,Fc q,gE fn fv cv].toArray (lE S r V z::aO 1 0 [iH a]::(FF s++G)) (LLs s) (alC KK FF LLs k):=by
 refine z7 (α:=Int×Option Nat) (φ:=λy=>y.2=none->V=λ_=>[]) (G:=λy=>match y.2 with|none=>[aO r 0 [.pointer none,iv y.1]]|some rt=>[aO r 0 [.pointer (some ⟨rt,0,none⟩),iv y.1],kL S rt V z]) (λhp al=>?_) λy hy=>?_
 ·obtain⟨c,h|⟨rt,h1,h2⟩⟩:=al _ (.head _)
  ·exact⟨(c,none),λ_=>h.2,.cons h.1 (λ_ h=>nomatch h)⟩
  ·exact⟨(c,some rt),(λh=>nomatch h),.cons h1 (.cons h2 (λ_ h=>nomatch h))⟩
 obtain⟨c,rt⟩:=y;cases rt with
 |none=>
  refine am func259 λ_=>(au) ?_;intro r4;refine(iC)<|(Fy)<|(fM)<|(A2)<|(vq)<|(mJ) ?_;exact .ret (.cons (lZ O) (.nil)) (Fs':=FF s) (L':=LLs s) (λx hx=>mT hx) (sT) ⟨k,s,⟨bg _,PM _⟩,hK,O,O,O⟩
 |some rt=>
  refine am func259 λ_=>(au) ?_;intro r4;refine(iC)<|(Fy)<|(fM)<|(A2)<|(wI) ?_;refine aK ab O O O (jp (k:=0) (m:=4) (bD mA)) O O<|(cN)<|(aq) ?_;intro rq;refine(ug)<|(iW)<|(fo) ?_;refine cL (pq S []) (λhp al=>λy hy=>nomatch hy) ?_;refine(dG)<|(Fy)<|(fM) ?_;refine dj O eA call336 nA (VC (S:=S) (rq:=rq) (ob:=q) (ws:=[]) (L:=[xp rq q none [] 0]) (c:=rt) (z:=z) (V:=V) ⟨none,0,[],aJ.nil _ _,O⟩ (show(0:Nat)+z<=16777215 by omega)) λv1 Fs1 L1 ⟨w0,⟨e1,e2⟩,hws0,hQ0⟩=>?_;subst e1;subst e2;have hws0:wS w0=z:=hws0.trans (gX z);refine(cn)<|(gU)<|aU [(6,6),(9,10),(25,54)] (λ(x:List (QE×Nat)×α×List ae)=>wS x.1<=z/\KK k x.2.1/\QL rq q (wQ x.1) x.2.2) (λ_=>[]) (λx=>pq S x.1::FF x.2.1) (λx=>x.2.2++LLs x.2.1) (λx=>wS x.1) ((w0,s,L1)) (⟨by dsimp only;omega,hK,hQ0⟩) λ⟨ws,t,L2⟩ fr ⟨h5,h6,h7⟩=>?_;dsimp only at h5 h6 h7;have hwl:=Kv ws;have h7':=h7;obtain⟨p2,cp2,B2,hs2,e9⟩:=h7'.ex;subst e9;refine(ce)<|(fR)<|(dH)<|(sJ)<|ao ?_ ?_
  ·intro hc28;have h0:0<(wQ ws).length:=by{have h9:=of_decide_eq_true hc28;omega}
   refine cI (fQ (wQ ws)) (λhp al=>Vr (al (pq S ws) mA))<|(uf)<|(rE)<|aS eA call338 (ahw h7 h0 qK) λv' Fs' L3 ⟨x,qs',⟨e1,e2⟩,hp,hQ3⟩=>?_;subst e1;subst e2;obtain⟨w3,hw3,hm3⟩:=LB (f:=λy:QE×Nat=>y.1) (l:=ws) hp;obtain⟨⟨x',wx⟩,w2,rfl⟩:∃y w2,w3=y::w2:=by{cases w3 with|nil=>cases hm3|cons y w=>exact⟨y,w,rfl⟩}
   obtain⟨rfl,rfl⟩:x'=x/\wQ w2=qs':=by{rw[dV] at hm3;injection hm3 with h8 h9;exact⟨h8,h9⟩}
   have hsum:wS ws=1+wx+wS w2:=by{rw[wS,<-Sd (hw3.map _)];rfl}
   refine cL (pq S w2) (λhp al=>λy hy=>al (pq S ws) mA y (hw3.mem_iff.1 (.tail _ hy))) ?_;refine qX (α:=(List RE×Value)×RE×(bH->List Int)) (φ:=λy=>y.1.1[x'.2]? =some y.2.1/\y.1.1.length=4/\(y.2.1.c=none->S (y.2.1.b,y.2.1.id))) (G:=λy=>aO x'.1 0 (y.1.1.flatMap RE.enc++[y.1.2])::(match y.2.1.c with|none=>[]|some c=>[kL S c y.2.2 wx])) (λhp al=>ajE (al (pq S ws) mA (x',wx) (hw3.mem_iff.1 (.head _)))) λy hy=>?_;obtain⟨⟨el,m⟩,e,V2⟩:=y;obtain⟨he,hel,hSe⟩:=hy;dsimp only at he hel hSe;obtain⟨eb,ec,ei⟩:=e;dsimp only at hSe;refine(Xc)<|(bR) ?_;rcases ec with _|ec
   ·refine(aY)<|(Fy) ?_;refine az ab O O O (jo (F:=RE.enc) (k:=6) (i:=4) (xs:=el) (aR mA) (qq el) he O aa) O<|(A2)<|(vE)<|(fb)<|(Fy) ?_;refine az ab O O O (jo (F:=RE.enc) (k:=6) (i:=5) (xs:=el) (aR mA) (qq el) he O aa) O ?_;refine Nl O eA hc (NF.refl _) (hcb t eb ei h6 (hSe O)) (λx hx=>by{rcases bm.1 hx with e7|hx;subst e7;exact mA;rcases bB.1 hx with hx|hx;exact mT hx;exact mT hx}) tA O λv' Fs' L4 ⟨t',hor,e5,e6⟩=>?_;subst e5;subst e6;refine(bR) ?_;rcases hor with⟨rfl,hK2⟩|⟨rfl,hK2⟩
    ·refine(aY)<|(wA)<|(ir) ?_;exact⟨(w2,t',L3),by dsimp only;omega,⟨by dsimp only;omega,hK2,hQ3⟩,lA,kA,Vn mA (λx hx=>mT hx) (λx hx=>mT hx),hA⟩
    ·refine(aY)<|(XD)<|(vE)<|(eE)<|(fM)<|aj eA call277 (agu)<|(vE)<|(mI)<|(ul)<|(vv) ?_;exact .ret (.cons (lZ O) (.nil)) (Fs':=FF t') (L':=LLs t') (λx hx=>mT hx) (sT) ⟨k+1,t',⟨PM _,bg _⟩,hK2,O,O,O⟩
   ·refine(aY)<|(Fy) ?_;refine az ab O O O (jo (F:=RE.enc) (k:=6) (i:=4) (xs:=el) (aR mA) (qq el) he O aa) O<|(A2)<|(aN)<|(gL)<|(CR) ?_;refine az ab O O O (jo (F:=RE.enc) (k:=6) (i:=4) (xs:=el) (aR mA) (qq el) he O aa) O ?_;refine dj O eA call336 nA (VC (S:=S) (rq:=rq) (ob:=q) (ws:=w2) (c:=ec) (z:=wx) (V:=V2) hQ3 aa) λv1 Fs1 L5 ⟨w4,⟨e1,e2⟩,hws4,hQ4⟩=>?_;subst e1;subst e2;refine(aN)<|(ir) ?_;exact⟨(w4,t,L5),by dsimp only;omega,⟨by dsimp only;omega,h6,hQ4⟩,lA,kA,Vn mA (λx hx=>mT hx) (λx hx=>mT hx),hA⟩
  ·intro hc28;refine(eG)<|(mI) ?_;exact .ret (.cons (lZ O) (.nil)) (Fs':=FF t) (L':=LLs t) (λx hx=>mT hx) (sT) ⟨k,t,⟨bg _,PM _⟩,h6,O,O,O⟩
end Go.Proofs
namespace Go.Proofs
open Tryz
open Go.V
structure qI (ps:List Nat) (h ro:Nat->Nat) (B:Nat):Prop where
 lt:∀(i p:Nat),ps[i]? =some p->p<ps.length
 up:∀(i p:Nat),ps[i]? =some p->p=i\/h i<h p
 rp:∀(i p:Nat),ps[i]? =some p->ro p=ro i
 top:∀(i:Nat),ps[i]? =some i->ro i=i
 rl:∀(i:Nat),i<ps.length->ro i<ps.length
 rr:∀(i:Nat),i<ps.length->ps[ro i]? =some (ro i)
 rh:∀(i:Nat),i<ps.length->ro i=i\/h i<h (ro i)
 bd:∀(i:Nat),i<ps.length->h i<=B
theorem qI.rro {ps:List Nat} {h ro:Nat->Nat} {B i:Nat} (F:qI ps h ro B) (hi:i<ps.length):ro (ro i)=ro i:=F.top _ (F.rr i hi)
theorem qI.press {ps:List Nat} {h ro:Nat->Nat} {B x:Nat} (F:qI ps h ro B) (hx:x<ps.length):qI (ps.set x (ro x)) h ro B:=by
 have hl:(ps.set x (ro x)).length=ps.length:=by simp
 have get:∀(i p:Nat),(ps.set x (ro x))[i]? =some p->(i=x/\p=ro x)\/(i≠x/\ps[i]? =some p):=λi p hp=>by
  rw[s9] at hp;by_cases e:x=i
  ·subst e;simp[hx] at hp;exact .inl ⟨rfl,hp.symm⟩
  ·simp[e] at hp;exact .inr ⟨λh=>e h.symm,hp⟩
 refine⟨λi p hp=>?_,λi p hp=>?_,λi p hp=>?_,λi hp=>?_,λi hi=>?_,λi hi=>?_,λi hi=>?_,λi hi=>F.bd i (hl▸hi)⟩
 ·rw[hl];rcases get i p hp with⟨_,rfl⟩|⟨_,h1⟩
  ·exact F.rl x hx
  ·exact F.lt i p h1
 ·rcases get i p hp with⟨rfl,rfl⟩|⟨_,h1⟩
  ·exact F.rh _ hx
  ·exact F.up i p h1
 ·rcases get i p hp with⟨rfl,rfl⟩|⟨_,h1⟩
  ·exact F.rro hx
  ·exact F.rp i p h1
 ·rcases get i i hp with⟨e1,e2⟩|⟨_,h1⟩
  ·rw[e1] at e2 ⊢;exact e2.symm
  ·exact F.top i h1
 ·rw[hl] at hi ⊢;exact F.rl i hi
 ·rw[hl] at hi;have h8:=F.rl i hi;rw[s9];by_cases e:x=ro i
  ·simp[e,F.rro hi,h8]
  ·rw[if_neg e];exact F.rr i hi
 ·rw[hl] at hi;exact F.rh i hi
abbrev iq (i:Nat):List Value:=[iv i]
abbrev iJ (g:Nat) (l:List Nat):ae:=(g,.cells (l.flatMap iq++[]).toArray 3 (0,0))
abbrev NK (gp gr n:Nat):Value:= .agg #[.slice (some ⟨gp,0,none⟩) n n,.slice (some ⟨gr,0,none⟩) n n]
variable {ps rs:List Nat} {h ro:Nat->Nat} {B x y gp gr n:Nat}
theorem Ia (F:qI ps h ro B) (hx:x<ps.length) (hn:ps.length=n) (hb:n<=1048576):
  ai prog 261 [NK gp gr n,iv x].toArray [] [iJ gp ps] (λv Fs' L'=>∃ps',(v=iv (ro x)/\Fs'=[])/\qI ps' h ro B/\ps'.length=n/\L'=[iJ gp ps']):=by
 subst hn;refine am func261 λ_=>(au) ?_;intro r2;refine(cF)<|(bR)<|(gU)<|aU [(5,5),(8,19)] (λ(r:Nat)=>r<ps.length/\ro r=ro x) (λr=>[(5,iv r)]) (λ_=>[]) (λ_=>[]) (λr=>B+1-h r) (x) (⟨hx,O⟩) λr fr ⟨h5,h6⟩=>?_;obtain⟨p,hp⟩:∃p,ps[r]? =some p:=⟨_,aG h5⟩;have hB:=F.bd r h5;have hpl:=F.lt r p hp;refine(ce)<|(fR)<|(aB) ?_;refine bp (s:=1) (i:=r) ab O O O O O aa aa O ?_;refine az ab O O O (jo (F:=iq) (k:=1) (i:=0) (io mA) (λ_ _=>O) hp O aa) O<|(aB)<|(x7)<|(aN)<|ao ?_ ?_
 ·intro hc14;have hne:p≠r:=by{have h9:=of_decide_eq_true hc14;omega}
  have hlt:h r<h p:=(F.up r p hp).resolve_left hne;have hB2:=F.bd p hpl;refine(kV)<|(qB)<|(aB) ?_;refine bp (s:=1) (i:=r) ab O O O O O aa aa O ?_;refine az ab O O O (jo (F:=iq) (k:=1) (i:=0) (io mA) (λ_ _=>O) hp O aa) O<|(iR) ?_;exact⟨p,aa,⟨hpl,(F.rp r p hp).trans h6⟩,lA,kA,fA,hA⟩
 ·intro hc14;have he:p=r:=by{have h9:=of_decide_eq_false hc14;omega}
  subst he;have hroot:ro x=p:=by{rw[<-h6];exact F.top p hp}
  refine(jh)<|(gU)<|aU [(1,1),(6,6),(20,37)] (λ(z:Nat×List Nat)=>z.1<ps.length/\ro z.1=p/\z.2.length=ps.length/\qI z.2 h ro B) (λz=>[(1,iv z.1)]) (λ_=>[]) (λz=>[iJ gp z.2]) (λz=>B+1-h z.1) ((x,ps)) (⟨hx,hroot,O,F⟩) λ⟨z,qs⟩ fr2 ⟨g5,g6,g7,g8⟩=>?_;dsimp only at g5 g6 g7 g8;obtain⟨w,hw⟩:∃w,qs[z]? =some w:=⟨_,aG aa⟩;have hwl:=g8.lt z w hw;have hBz:=g8.bd z aa;refine(ce)<|(fR)<|(aB) ?_;refine bp (s:=1) (i:=z) ab O O O O O aa aa O ?_;refine az ab O O O (jo (F:=iq) (k:=1) (i:=0) (xs:=qs) (io mA) (λ_ _=>O) hw O aa) O<|(aB)<|(x7)<|(aN)<|ao ?_ ?_
  ·intro hc26;have hne:w≠p:=by{have h9:=of_decide_eq_true hc26;omega}
   have hwz:w≠z:=by{intro e;subst e;exact hne ((g8.top w hw).symm.trans g6)}
   have hlt:h z<h w:=(g8.up z w hw).resolve_left hwz;have hB2:=g8.bd w aa;refine(kV)<|(fR)<|(aB) ?_;refine bp (s:=1) (i:=z) ab O O O O O aa aa O ?_;refine az ab O O O (jo (F:=iq) (k:=1) (i:=0) (xs:=qs) (io mA) (λ_ _=>O) hw O aa) O<|(fP)<|(dG) ?_;refine bp (s:=1) (i:=z) ab O O O O O aa aa O ?_;refine sp (F:=iq) (k:=1) (l:=qs) (j:=z) (tl:=[]) ab O (λ_=>O) p O aa O O O O aa uA<|(lK) ?_;exact⟨(w,qs.set z p),by dsimp only;omega,⟨by dsimp only;omega,by dsimp only;rw[g8.rp z w hw];exact g6,by simp[g7],by{have h9:=g8.press (x:=z) aa;rw[g6] at h9;exact h9}⟩,lA,kA,fA,hA⟩
  ·intro hc26;refine(CU)<|(bO)<|aH [] [iJ gp qs] ?_;exact⟨qs,⟨by rw[hroot];rfl,O⟩,g8,g7,O⟩
end Go.Proofs
namespace Go.Proofs
open Tryz
open Go.V
theorem qI.link {ps:List Nat} {h ro:Nat->Nat} {B a b:Nat} (F:qI ps h ro B) (ha:ps[a]? =some a) (hb:ps[b]? =some b) (hab:a≠b):
  qI (ps.set b a) (λi=>if i=a then max (h a) (h b+1) else h i) (λi=>if ro i=b then a else ro i) (B+1):=by
 have hal:=da ha;have hbl:=da hb;have ra:=F.top a ha;have rb:=F.top b hb;have hl:(ps.set b a).length=ps.length:=by simp
 have get:∀(i p:Nat),(ps.set b a)[i]? =some p->(i=b/\p=a)\/(i≠b/\ps[i]? =some p):=λi p hp=>by
  rw[s9] at hp;by_cases e:b=i
  ·subst e;simp[hbl] at hp;exact .inl ⟨rfl,hp.symm⟩
  ·simp[e] at hp;exact .inr ⟨λh=>e h.symm,hp⟩
 have hge:∀i,h i<=(if i=a then max (h a) (h b+1) else h i):=λi=>by
  split
  ·rename_i e;subst e;omega
  ·exact bg _
 refine⟨λi p hp=>?_,λi p hp=>?_,λi p hp=>?_,λi hp=>?_,λi hi=>?_,λi hi=>?_,λi hi=>?_,λi hi=>?_⟩
 ·rw[hl];rcases get i p hp with⟨_,rfl⟩|⟨_,h1⟩
  ·exact hal
  ·exact F.lt i p h1
 ·rcases get i p hp with⟨e1,e2⟩|⟨hne,h1⟩
  ·rw[e1,e2];right;rw[if_pos rfl,if_neg (λe:b=a=>hab e.symm)];omega
  ·rcases F.up i p h1 with rfl|h2
   ·exact .inl O
   ·right;have h3:=hge p
    try dsimp only
    by_cases e:i=a
    ·subst e;rw[ha] at h1;cases h1;omega
    ·rw[if_neg e];omega
 ·rcases get i p hp with⟨rfl,rfl⟩|⟨hne,h1⟩
  ·simp only[ra,rb,if_true];rw[if_neg hab]
  ·simp only[F.rp i p h1]
 ·rcases get i i hp with⟨e1,e2⟩|⟨hne,h1⟩
  ·exact absurd (e2.symm.trans e1) hab
  ·have:=F.top i h1;simp only[this];rw[if_neg hne]
 ·rw[hl] at hi ⊢
  try dsimp only
  split
  ·exact hal
  ·exact F.rl i hi
 ·rw[hl] at hi
  try dsimp only
  rw[s9];split
  ·rw[if_neg (λe=>hab e.symm)];exact ha
  ·rename_i e;rw[if_neg (λe'=>e e'.symm)];exact F.rr i hi
 ·rw[hl] at hi
  try dsimp only
  by_cases e:ro i=b
  ·rw[if_pos e,if_pos rfl];right;have hia:i≠a:=λe'=>hab (by rw[e',ra] at e;exact e);rw[if_neg hia];rcases F.rh i hi with h1|h1
   ·rw[<-h1,e];omega
   ·rw[e] at h1;omega
  ·rw[if_neg e];by_cases e2:i=a
   ·left;rw[e2];exact ra
   ·rw[if_neg e2];rcases F.rh i hi with h1|h1
    ·exact .inl h1
    ·right;have:=hge (ro i);omega
 ·rw[hl] at hi;have h1:=F.bd i hi;have h2:=F.bd b hbl;have h3:=F.bd a hal
  try dsimp only
  split
  ·omega
  ·omega
variable {ps rs:List Nat} {h ro:Nat->Nat} {B R x y gp gr n:Nat}
theorem Yz (F:qI ps h ro B) (hx:x<n) (hy:y<n) (hn:ps.length=n) (hr:rs.length=n) (hR:∀r∈rs,r<=R) (hR2:R<=1048576) (hb:n<=1048576):
  ai prog 262 [NK gp gr n,iv x,iv y].toArray [] [iJ gp ps,iJ gr rs] (λv Fs' L'=>∃ps' rs' h' ro' B',(v= .tuple #[]/\Fs'=[])/\qI ps' h' ro' B'/\ps'.length=n/\rs'.length=n/\(∀r∈rs',r<=R+1)/\L'=[iJ gr rs',iJ gp ps']):=by
 refine am func262 λ_=>(au) ?_;intro r3;refine(gu)<|(aB)<|aS eA call261 (Ia (gp:=gp) (gr:=gr) F (x:=x) aa hn hb) λv' Fs' L1 ⟨p1,⟨e1,e2⟩,F1,hl1,e3⟩=>?_;subst e1;subst e2;subst e3;refine(rL)<|(aB)<|aS eA call261 (Ia (gp:=gp) (gr:=gr) F1 (x:=y) aa hl1 hb) λv' Fs' L1 ⟨p2,⟨e1,e2⟩,F2,hl2,e3⟩=>?_;subst e1;subst e2;subst e3;have hrx:=F2.rr x aa;have hry:=F2.rr y aa;have hxl:=F2.rl x aa;have hyl:=F2.rl y aa;obtain⟨u,hu⟩:∃u,rs[ro x]? =some u:=⟨_,aG aa⟩;obtain⟨w,hw⟩:∃u,rs[ro y]? =some u:=⟨_,aG aa⟩;refine(jL)<|(kT)<|(aN)<|ao ?_ ?_
 ·intro hc14;refine(xY)<|(gV)<|aH [] [iJ gr rs,iJ gp p2] ?_;exact⟨p2,rs,h,ro,B,⟨O,O⟩,F2,hl2,hr,λr hh=>Bg (hR r hh),O⟩
 ·intro hc14;have hne:ro x≠ro y:=by{have h9:=of_decide_eq_false hc14;omega}
  refine(om)<|(ce)<|(vF)<|(rH) ?_;refine ac O (bp (s:=1) (i:=ro x) ab O O O O O aa aa O) ?_;refine ac O (az ab O O O (jo (F:=iq) (k:=1) (i:=0) (xs:=rs) (io mA) (λ_ _=>O) hu O aa) O)<|(rH) ?_;refine ac O (bp (s:=1) (i:=ro y) ab O O O O O aa aa O) ?_;refine ac O (az ab O O O (jo (F:=iq) (k:=1) (i:=0) (xs:=rs) (io mA) (λ_ _=>O) hw O aa) O) ?_;refine ac O (EU O O O)<|(pH)<|jl ([]) [(1,2),(26,27)] (λ(z:Nat×Nat)=>p2[z.1]? =some z.1/\p2[z.2]? =some z.2/\z.1≠z.2) (λz=>[(1,iv z.1),(2,iv z.2)]) (λ_=>[]) (λ_=>[]) ?_ ?_
  ·refine ao ?_ ?_
   ·intro hc25;refine(cO)<|(gb)<|(bt) ?_;exact⟨(ro y,ro x),⟨hry,hrx,hne.symm⟩,lA,kA,fA,hA⟩
   ·intro hc25;refine(bX) ?_;exact⟨(ro x,ro y),⟨hrx,hry,hne⟩,lA,kA,fA,hA⟩
  ·intro⟨c,d⟩ fj ⟨hc1,hd1,hcd⟩;dsimp only at hc1 hd1 hcd;have hcl:=da hc1;have hdl:=da hd1;have F3:=F2.link hc1 hd1 hcd;have hl3:(p2.set d c).length=n:=by simp[hl2]
   obtain⟨u2,hu2⟩:∃u,rs[c]? =some u:=⟨_,aG aa⟩;obtain⟨w2,hw2⟩:∃u,rs[d]? =some u:=⟨_,aG aa⟩;have hu3:=hR u2 (bn hu2);refine(CQ) ?_;refine bp (s:=1) (i:=d) ab O O O O O aa aa O ?_;refine sp (F:=iq) (k:=1) (l:=p2) (j:=d) (tl:=[]) ab O (λ_=>O) c O aa O O O O hdl uA<|(cn)<|(vF)<|(rH) ?_;refine ac O (bp (s:=1) (i:=c) ab O O O O O aa aa O) ?_;refine ac O (az ab O O O (jo (F:=iq) (k:=1) (i:=0) (xs:=rs) (io mA) (λ_ _=>O) hu2 O aa) O)<|(rH) ?_;refine ac O (bp (s:=1) (i:=d) ab O O O O O aa aa O) ?_;refine ac O (az ab O O O (jo (F:=iq) (k:=1) (i:=0) (xs:=rs) (io mA) (λ_ _=>O) hw2 O aa) O) ?_;refine ac O (HW O O O)<|(pH)<|ao ?_ ?_
   ·intro hc43;refine(qB)<|(aB) ?_;refine bp (s:=1) (i:=c) ab O O O O O aa aa O ?_;refine az ab O O O (jo (F:=iq) (k:=1) (i:=0) (xs:=rs) (io mA) (λ_ _=>O) hu2 O aa) O ?_;refine dD (m:=((u2+1:Nat):Int)) O O aa ⟨aa,aa⟩ O ?_;refine bp (s:=1) (i:=c) ab O O O O O aa aa O ?_;refine sp (F:=iq) (k:=1) (l:=rs) (j:=c) (tl:=[]) ab O (λ_=>O) (u2+1) O aa O O O O aa uA<|(lJ)<|ed [] [iJ gr (rs.set c (u2+1)),iJ gp (p2.set d c)] ?_;exact⟨p2.set d c,rs.set c (u2+1),_,_,_,⟨O,O⟩,F3,hl3,by simp[hr],λr hh=>by{rcases Kh hh with hh|hh;exact Bg (hR r hh);omega},rfl⟩
   ·intro hc43;refine(A0)<|ed [] [iJ gr rs,iJ gp (p2.set d c)] ?_;exact⟨p2.set d c,rs,_,_,_,⟨O,O⟩,F3,hl3,hr,λr hh=>Bg (hR r hh),O⟩
end Go.Proofs
namespace Go.Proofs
open Tryz
open Go.V
variable {n:Nat}
theorem aiN (n:Nat):qI (List.range n) (λ_=>0) (λi=>i) 0:=by
 have get:∀(i p:Nat),(List.range n)[i]? =some p->p=i/\i<n:=λi p hp=>by
  have h:=da hp;rw[Dw] at h;rw[Ge h] at hp;exact⟨(iD hp).symm,h⟩
 refine⟨λi p hp=>?_,λi p hp=> .inl (get i p hp).1,λi p hp=>(get i p hp).1,λi hp=>O,λi hi=>hi,λi hi=>?_,λi hi=> .inl O,λi hi=>bg _⟩
 ·obtain⟨rfl,h⟩:=get i p hp;simpa using h
 ·rw[Dw] at hi;exact Ge hi
theorem XT (n:Nat):jA [iv 0] 1 n=(List.replicate n 0).flatMap iq:=rX (F:=iq) (0:Nat) rfl rfl bz n
theorem vP (n:Nat):jA [iv 0] 1 n=(List.replicate n 0).flatMap iq++[]:=by rw[XT,jz]
theorem aeK (hb:n<=1048576):ai prog 258 [iv n].toArray [] [] (λv Fs' L'=>∃gp gr,(v=NK gp gr n/\Fs'=[])/\L'=[iJ gp (List.range n),iJ gr (List.replicate n 0)]):=by
 refine am func258 λ_=>(wL) ?_;intro r2;refine(cn)<|jl ([]) [(3,3),(5,9)] (λ(_:Nat×Nat×Nat)=>True) (λz=>[(3,aF z.2.2)]) (λ_=>[]) (λz=>[iJ z.1 (List.replicate n 0),iJ z.2.1 (List.replicate n 0),bL z.2.2 322 [.slice (some ⟨z.1,0,none⟩) n n,.slice (some ⟨z.2.1,0,none⟩) n n]]) ?_ ?_
 ·refine cz cw 6 [1,3,4,5] []<|(zn)<|(zo) ?_;refine ahB (i:=1) (j:=3) (l:=5) br yA ?_ ?_ ?_
  ·refine(oj) ?_;refine ml (e:=3) (size:=1) ab O O O O O O (zl:=[iv 0]) nA O (l:=n) (cp:=n) O O (bg _) O (by show n*8<=_;omega) O λgp=>?_;rw[vP];refine(px) ?_;refine so (i:=3) (j:=5) br yA ?_ ?_
   ·refine(oj) ?_;refine ml (e:=3) (size:=1) ab O O O O O O (zl:=[iv 0]) nA O (l:=n) (cp:=n) O O (bg _) O (by show n*8<=_;omega) O λgr=>?_;rw[vP];refine(px) ?_;refine so (i:=4) (j:=5) br yA ?_ ?_
    ·refine(oj)<|(cN)<|(dU)<|(aq) ?_;intro r3;refine(iy)<|(cu) ?_;exact⟨(gp,gr,r3),trivial,lA,kA,fA,hA⟩
    ·refine(Jk) ?_;intro r3;refine(kr) ?_;exact⟨(gp,gr,r3),trivial,lA,kA,fA,hA⟩
   ·refine(Jk) ?_;intro r3;refine(dU) ?_;refine ml (e:=3) (size:=1) ab O O O O O O (zl:=[iv 0]) nA O (l:=n) (cp:=n) O O (bg _) O (by show n*8<=_;omega) O λgr=>?_;rw[vP];refine(kr) ?_;exact⟨(gp,gr,r3),trivial,lA,kA,fA,hA⟩
  ·refine(oj) ?_;refine ml (e:=3) (size:=1) ab O O O O O O (zl:=[iv 0]) nA O (l:=n) (cp:=n) O O (bg _) O (by show n*8<=_;omega) O λgr=>?_;rw[vP];refine(px) ?_;refine so (i:=1) (j:=5) br yA ?_ ?_
   ·refine(oj) ?_;refine ml (e:=3) (size:=1) ab O O O O O O (zl:=[iv 0]) nA O (l:=n) (cp:=n) O O (bg _) O (by show n*8<=_;omega) O λgp=>?_;rw[vP];refine(px) ?_;refine so (i:=4) (j:=5) br yA ?_ ?_
    ·refine(oj)<|(cN)<|(dU)<|(aq) ?_;intro r3;refine(iy)<|(cu) ?_;exact⟨(gp,gr,r3),trivial,lA,kA,fA,hA⟩
    ·refine(Jk) ?_;intro r3;refine(kr) ?_;exact⟨(gp,gr,r3),trivial,lA,kA,fA,hA⟩
   ·refine(Jk) ?_;intro r3;refine(dU) ?_;refine ml (e:=3) (size:=1) ab O O O O O O (zl:=[iv 0]) nA O (l:=n) (cp:=n) O O (bg _) O (by show n*8<=_;omega) O λgp=>?_;rw[vP];refine(kr) ?_;exact⟨(gp,gr,r3),trivial,lA,kA,fA,hA⟩
  ·refine(Jk) ?_;intro r3;refine(px) ?_;refine so (i:=1) (j:=3) br yA ?_ ?_
   ·refine(oj) ?_;refine ml (e:=3) (size:=1) ab O O O O O O (zl:=[iv 0]) nA O (l:=n) (cp:=n) O O (bg _) O (by show n*8<=_;omega) O λgp=>?_;rw[vP];refine(dU) ?_;refine ml (e:=3) (size:=1) ab O O O O O O (zl:=[iv 0]) nA O (l:=n) (cp:=n) O O (bg _) O (by show n*8<=_;omega) O λgr=>?_;rw[vP];refine(kr) ?_;exact⟨(gp,gr,r3),trivial,lA,kA,fA,hA⟩
   ·refine(oj) ?_;refine ml (e:=3) (size:=1) ab O O O O O O (zl:=[iv 0]) nA O (l:=n) (cp:=n) O O (bg _) O (by show n*8<=_;omega) O λgr=>?_;rw[vP];refine(dU) ?_;refine ml (e:=3) (size:=1) ab O O O O O O (zl:=[iv 0]) nA O (l:=n) (cp:=n) O O (bg _) O (by show n*8<=_;omega) O λgp=>?_;rw[vP];refine(kr) ?_;exact⟨(gp,gr,r3),trivial,lA,kA,fA,hA⟩
 ·intro⟨gp,gr,r3⟩ fj _;refine(ce)<|(fR)<|(gW)<|aU [(4,4),(13,21)] (λ(z:Nat×List Nat)=>z.1<=n/\z.2.length=n/\∀j,j<z.1->z.2[j]? =some j) (λz=>[(13,iv z.1)]) (λ_=>[]) (λz=>[iJ gp z.2]) (λz=>n-z.1) ((0,List.replicate n 0)) (⟨bf _,by simp,λj hj=>absurd hj (iZ _)⟩) λ⟨i,ps⟩ fr ⟨h5,h6,h7⟩=>?_;dsimp only at h5 h6 h7;refine(cM)<|ao ?_ ?_
  ·intro hc14;have hlt:i<n:=by have:=of_decide_eq_true hc14;dsimp only at this;omega
   refine(rK)<|(bt)<|(qB)<|(dG) ?_;refine bp (s:=1) (i:=i) ab O O O O O aa aa O ?_;refine sp (F:=iq) (k:=1) (l:=ps) (j:=i) (tl:=[]) ab O (λ_=>O) i O aa O O O O aa uA<|(rM) ?_;exact⟨(i+1,ps.set i i),oA,⟨by dsimp only;omega,by simp[h6],λj hj=>by{by_cases e:i=j;subst e;simp[h6,hlt];rw[s9,if_neg e];exact h7 j (by dsimp only at hj;omega)}⟩,lA,kA,fA,hA⟩
  ·intro hc14;have hge:i=n:=by have:=of_decide_eq_false hc14;dsimp only at this;omega
   have hps:ps=List.range n:=by{apply uH;intro j;rcases dL j n with h|h;rw[h7 j aa,Ge h];rw[gZ aa,gZ qK]}
   subst hps;refine(eG)<|(cR)<|(eF)<|aH [] [iJ gp (List.range n),iJ gr (List.replicate n 0)] ?_;exact⟨gp,gr,⟨O,O⟩,O⟩
end Go.Proofs
namespace Go.Proofs
open Tryz
open Go.V
variable {a b:Pt}
theorem alb:ai prog 263 [dM a b].toArray [] [] (λv Fs' L'=>(∃q:Sq,q.l=[a,b]/\v=q.v/\Fs'=[q.fact])/\L'=[]):=by
 refine am func263 λ_=>(au) ?_;intro _;refine(aq) ?_;intro _;refine(eZ)<|(pN)<|(pN)<|(eD) ?_;intro b15;have hsl:aJ 45 1 (.slice (some ⟨b15,0,none⟩) 4 4) 4 (bl [a,b]) [(b15,.cells #[aw a.1,aw a.2,aw b.1,aw b.2] 45 (0,0))]:=⟨rfl,.inr ⟨b15,4,_,rfl,rfl,bg _,by decide,rfl,rfl⟩⟩;refine xJ hsl tA ?_;refine aj eA call137 (LW (p:=some ⟨b15,0,none⟩) (l:=[a,b]) (cp:=4)) ?_;refine aj eA call103 (LY (p:=some ⟨b15,0,none⟩) (l:=[a,b]) (cp:=4))<|(eF)<|aH [gF (some ⟨b15,0,none⟩) [a,b] 4] [] ?_;exact⟨⟨⟨some ⟨b15,0,none⟩,[a,b],4⟩,O,O,O⟩,O⟩
end Go.Proofs
namespace Go.V
theorem ab4 {P:Program} {fid:FuncId} {args:Array Value} {Fs:List an} {L:List ae} {Q:cZ} (h:ai P fid args Fs L (λv Fs' L'=>∃L2 R,Q v Fs' L2/\bv L' L2 R)):ai P fid args Fs L Q:=λhp w sa al=>
 (h hp w sa al).mono λe w' he=>by
  cases e with
  |returned v=>
   obtain⟨Fs',L',h',⟨L2,R,hq,ht⟩,hle,hal,hsa,hfr,hnw⟩:=he;exact⟨Fs',L2,h',hq,hle,hal,hsa.take ht,hfr,⟨hnw.imm,λp hm=>hnw.own p (ht.perm.mem_iff.2 (bq _ hm))⟩⟩
  |panicked ch=>exact he
  |outgrown=>exact he
end Go.V
namespace Go.Proofs
open Go.V
structure CE where
 ps:List Nat
 rs:List Nat
 h:Nat->Nat
 ro:Nat->Nat
 B:Nat
 p:Option Addr
 c:Nat
 Bk:List ae
 qs:List Sq
abbrev CE.LL (gp gr r8:Nat) (s:CE):List ae:=iJ gr s.rs::iJ gp s.ps::bL r8 93 [.slice s.p s.qs.length s.c]::s.Bk
structure Og (xs:List Pt) (k:Nat) (s:CE):Prop where
 F:qI s.ps s.h s.ro s.B
 pl:s.ps.length=xs.length
 rl:s.rs.length=xs.length
 rk:∀r∈s.rs,r<=k
 sl:aJ 90 2 (.slice s.p s.qs.length s.c) s.qs.length (s.qs.flatMap Sq.cells) s.Bk
 len:s.qs.length<=k
 ln:∀q∈s.qs,∃a b,q.l=[a,b]/\a∈xs/\b∈xs
end Go.Proofs
namespace Go.Proofs
open Tryz
open Go.V
variable {xs:List Pt} {p:Option Addr} {cp gp gr r8 ri rd rx ry i k:Nat} {y:Pt} {a:Addr}
abbrev K3 (xs:List Pt) (p:Option Addr) (cp gp gr ri rd rx ry i:Nat) (y:Pt):List an:=
 [aO ri 0 [iv i],aO rd 0 [.slice (some ⟨gp,0,none⟩) xs.length xs.length,.slice (some ⟨gr,0,none⟩) xs.length xs.length],aO rx 0 [Ac p xs cp],Co p xs cp,aO ry 0 [aw y.1,aw y.2]]
theorem ajq {qs:List Sq} {q:Sq} {hp:PH} (h:(gK qs).p hp) (hq:q.fact.p hp):(gK (qs++[q])).p hp:=λx hx=>by
 rcases bB.1 hx with hx|hx
 ·exact h x hx
 ·simp at hx;subst hx;exact hq
theorem acf (hi:xs[i]? =some y) (hn:xs.length<=1048576) (hk:k<=1048575):
  W3 (rA xs) (Og xs) (λs=>[gK s.qs]) (CE.LL gp gr r8) (K3 xs p cp gp gr ri rd rx ry i y) 260 [] [be ri,be rd,be rx,be r8,be ry] a k:=by
 intro s b j0 hK hS;obtain⟨j,y2,hj0,hj,_⟩:=hS;dsimp only at hj0;subst hj0;have hil:=da hi;have hjl:=da hj;obtain⟨ps,rs,h,ro,B,p8,c8,Bk,qs⟩:=s;obtain⟨F,hpl,hrl,hrk,hsl,hql,hln⟩:=hK;dsimp only at F hpl hrl hrk hsl hql hln;refine ab4 ?_;show ai prog 260 [iv j,be ri,be rd,be rx,be r8,be ry].toArray (aO 1 0 [iH a]::gK qs::K3 xs p cp gp gr ri rd rx ry i y) (iJ gr rs::iJ gp ps::bL r8 93 [.slice p8 qs.length c8]::Bk) _;refine am func260 λ_=>(ba)<|(ub) ?_;rcases F4 (i=j) with hij|hij
 ·refine(AR)<|(nG)<|(bh) ?_;refine ac O (aL O O (iT (p:=(i:Int)=(j:Int)) aa) O)<|(bh)<|(qE)<|(pT)<|(iV)<|(jY)<|(vq)<|(mJ)<|aH [gK qs] (iJ gr rs::iJ gp ps::bL r8 93 [.slice p8 qs.length c8]::Bk) ?_;exact⟨_,_,⟨⟨ps,rs,h,ro,B,p8,c8,Bk,qs⟩,.inl ⟨O,⟨F,hpl,hrl,hrk,hsl,hql,hln⟩⟩,O,O⟩,.all⟩
 ·refine cz cw 12 [6,9,10,11] [6,9]<|(nG)<|(bh) ?_;refine ac O (aL O O (iF (p:=(i:Int)=(j:Int)) aa) O)<|(bh) ?_;refine ac O (λkX=>ah O O (aK ab O O O (aR mA) O O kX)) ?_;refine ac O (λkX=>ah O O (az ab O O O (mm mA) O kX)) ?_;refine cC O (λkX=>ah O O (aK ab O O O (aR mA) O O kX)) ?_;refine cC O (λkX=>ah O O (eV O O kX))<|(dT) ?_;refine ah O O (aS eA call261 (Ia (gp:=gp) (gr:=gr) F (x:=i) aa hpl hn) λv' Fs' L1 ⟨p1,⟨e1,e2⟩,F1,hl1,e3⟩=>?_);subst e1;subst e2;subst e3;refine(px)<|(sN) ?_;refine ah O O (aS eA call261 (Ia (gp:=gp) (gr:=gr) F1 (x:=j) aa hl1 hn) λv' Fs' L1 ⟨p2,⟨e1,e2⟩,F2,hl2,e3⟩=>?_);subst e1;subst e2;subst e3;refine(px)<|(sN)<|(I0)<|(px)<|(sN) ?_;refine Up O O O O<|(rJ)<|(aN)<|ao ?_ ?_
  ·intro hc20;refine(ba)<|(mJ) ?_;exact .ret (.cons (lZ O) (.nil)) (Fs':=[gK qs]) (mP mA gy) (gx _) ⟨_,_,⟨⟨p2,rs,h,ro,B,p8,c8,Bk,qs⟩,.inl ⟨O,⟨F2,hl2,hrl,hrk,hsl,hql,hln⟩⟩,O,O⟩,tA⟩
  ·intro hc20;refine(bX)<|(ba)<|(uk)<|(qz)<|aS eA call262 (Yz (gp:=gp) (gr:=gr) (x:=i) (y:=j) F2 aa aa hl2 hrl hrk aa hn) λv' Fs' L1 ⟨p3,rs3,h3,ro3,B3,⟨e1,e2⟩,F3,hl3,hr3,hk3,e3⟩=>?_;subst e1;subst e2;subst e3;refine(eZ)<|(qz) ?_;refine cU (size:=2) (i:=j) ab O O O O O aa mA aa (flat_take (F:=λp:Pt=>[aw p.1,aw p.2]) (λ_ _=>O) hj) O λ_ _=>(uk)<|(aq) ?_;intro r28;refine(dS) ?_;refine dl (r:=r28) tA ?_;refine cz cw 7 [4,5,6] [6]<|(qD)<|(zu)<|(zu)<|(ny)<|(dT)<|aI eA call263 (alb (a:=y) (b:=y2)) λv1 Fs1 ⟨q1,eq1,e1,e2⟩=>?_;subst e1;subst e2;refine(dU)<|(eD) ?_;intro b34;refine(dU) ?_;refine di (e:=90) (size:=2) (news:=[q1].flatMap Sq.cells) ab O O O O O O O (B:=Bk) tA hsl O (bD mA) O O dp (by show(qs.length+1)*32<=_;omega) O λv' B' hs'=>?_;rw[<-ft] at hs';have hs2:aJ 90 2 v' (qs++[q1]).length ((qs++[q1]).flatMap Sq.cells) B':=by rw[aW];exact hs'
   obtain⟨p9,c9,rfl⟩:=hs2.shape;refine(rJ)<|(gn)<|(eZ) ?_;refine cL (gK (qs++[q1])) (λhp al=>ajq (al (gK qs) mA) (al q1.fact mA))<|(fM)<|(bO) ?_;exact .ret (.cons (lZ O) (.nil)) (Fs':=[gK (qs++[q1])]) (mP mA gy) (gx _) ⟨_,_,⟨⟨p3,rs3,h3,ro3,B3,p9,c9,B',qs++[q1]⟩,.inr ⟨O,⟨F3,hl3,hr3,hk3,hs2,by{simp;exact hql},λq hq=>by{rcases bB.1 hq with hq|hq;exact hln q hq;simp at hq;subst hq;exact⟨y,y2,eq1,bn hi,bn hj⟩}⟩⟩,O,O⟩,tA⟩
end Go.Proofs
namespace Go.Proofs
open Tryz
open Go.V Go.Sort Go.Extern Go.Lib
variable {r g n cap:Nat} {tl:List Value} {d:Array Pt} {ps cs:List Pt} {v:Value} {B:List ae}
abbrev zW (r g n cap:Nat):List ae:=[bL r 205 [.slice (some ⟨g,0,none⟩) n cap]]
theorem PX (hd:d.size=n) (hn:n<=16777216) (x y:Int) (i j:Nat) (ex:x=i) (ey:y=j) (hi:i<n) (hj:j<n):
  ai prog 334 [iv x,iv y,be r].toArray [] (dq pE tl 79 g d::zW r g n cap)
   (λv Fs' L'=>(v= .bool (jc d[i]! d[j]!)/\Fs'=[])/\L'=dq pE tl 79 g d::zW r g n cap):=by
 subst ex;subst ey;obtain⟨p,hp⟩:∃p,d[i]! =p:=⟨_,rfl⟩;obtain⟨q,hq⟩:∃q,d[j]! =q:=⟨_,rfl⟩;have hpi:d.toList[i]? =some p:=by rw[<-hp];simp[hd,hi]
 have hqj:d.toList[j]? =some q:=by rw[<-hq];simp[hd,hj]
 rw[hp,hq];refine am func334 λ_=>(ba)<|(bR)<|(AP)<|(qD)<|(bh) ?_;refine ac O (bp (s:=2) (i:=i) ab O O O O O aa aa O) ?_;refine ac O (aK ab O O O (tM (F:=pE) (k:=2) (io mA) (λ_ _=>O) hpi aa) O O)<|(qD)<|(bh) ?_;refine ac O (bp (s:=2) (i:=j) ab O O O O O aa aa O) ?_;refine ac O (aK ab O O O (tM (F:=pE) (k:=2) (io mA) (λ_ _=>O) hqj aa) O O) ?_;refine ac O (λkX=>aj eA call235 (yG (a:=p) (b:=q)) kX)<|(jY)<|(bO)<|aH [] (dq pE tl 79 g d::zW r g n cap) ?_;exact gk
noncomputable def Gk (r n sf:Nat) (scv:List Value) (LL:Array Pt->List ae) (ps:List Pt):SF Pt where
 lf:=334
 sf:=sf
 lfv:=[]
 lcv:=[be r]
 sfv:=[]
 scv:=scv
 G:=[]
 LL:=LL
 lt:=jc
 n:=n
 Ok:=λd=>d.size=n/\d.toList.Perm ps
theorem XX (hn:n<=16777216):kq (Gk r n 367 [Value.slice (some ⟨g,0,none⟩) n cap,typeHandle prog 79] (λd=>dq pE tl 79 g d::zW r g n cap) ps) where
 lessE:=call334
 less:=λd hd x y i j ex ey hi hj=>PX hd.1 hn x y i j ex ey hi hj
 swap:=λd hd x y i j ex ey hi hj=>by
  obtain⟨ie,hie,hs⟩:=iE.1 PW;exact KF (F:=pE) (k:=2) (λ_=>O) Sj KI hie hs P0 d hd.1 x y i j ex ey hi hj
 size:=λd hd=>hd.1
 ok:=λd hd i j hi hj=>⟨by simp[swp,hd.1],(GD (hd.1.symm▸hi) (hd.1.symm▸hj)).trans hd.2⟩
 small:=tc hn bz
theorem XW:kq (Gk r 1 360 [] (λd=>dq pE tl 79 g d::zW r g 1 cap) ps) where
 lessE:=call334
 less:=λd hd x y i j ex ey hi hj=>PX hd.1 (show 1<=16777216 by decide) x y i j ex ey hi hj
 swap:=λd hd x y i j ex ey hi hj=>by
  have hd1:d.size=1:=hd.1;have hi':i<1:=hi;have hj':j<1:=hj;obtain rfl:i=0:=by omega
  obtain rfl:j=0:=by omega
  subst ex;subst ey;rw[By aa];intro h w sa;refine⟨.tuple #[],w,_,?_,⟨O,O⟩,sa,Fr.refl _ _,⟨λr hr=> .inl hr,λp hp=> .inl (aM.2 ⟨p,hp,O⟩)⟩⟩;have hh:(callFunc 360 #[.int .i64 0,.int .i64 0]).run prog w= .ok (.value (.tuple #[])) w:=by rw[KM,KL];rfl
  exact hh
 size:=λd hd=>hd.1
 ok:=λd hd i j hi hj=>by
  have hd1:d.size=1:=hd.1;have hi':i<1:=hi;have hj':j<1:=hj;obtain rfl:i=0:=by omega
  obtain rfl:j=0:=by omega
  rw[By aa];exact hd
 small:=by show 1<=4294967295;decide
theorem acg (h0:gj v cs B) (h1:0<cs.length) (hb:cs.length<=16777216):
  ai prog 228 [.iface 205 v,gE 334 [] [be r]].toArray [] (B++[bL r 205 [v]])
   (λ_ Fs' L'=>Fs'=[]/\∃(B':List ae) (qs:List Pt),qs.Perm cs/\gj v qs B'/\L'=B'++[bL r 205 [v]]):=by
 obtain⟨i,hi,hde⟩:=iE.1 Gj;obtain⟨ie,hie,hs⟩:=iE.1 PY;obtain⟨hp,hby⟩:ie.hasPointers=false/\ie.bytes=16:=by simpa using hs
 obtain⟨g,cap,tl,rfl,rfl,hall⟩:=gj.row h0 h1;rcases dL cs.length 2 with h1'|h2
 ·have e1:cs.length=1:=by omega
  rw[e1] at hall ⊢;have hs:=xk (S:=Gk r 1 360 [] (λd=>dq pE tl 79 g d::zW r g 1 cap) cs) (d:=cs.toArray) (p:=some ⟨g,0,none⟩) (cap:=cap) XW ⟨by simpa using e1,.refl _⟩ hi hde Bt (xi hi hde hie Bu (show swapperK 1 ie 25=2 by simp[swapperK]) KH);exact pg hs λv Fs' L' ⟨q1,q2,q3⟩=>⟨q1,_,_,q2.2,hall _ (q2.2.length_eq.trans e1),q3⟩
 ·have hs:=xk (S:=Gk r cs.length 367 [Value.slice (some ⟨g,0,none⟩) cs.length cap,typeHandle prog 79] (λd=>dq pE tl 79 g d::zW r g cs.length cap) cs) (d:=cs.toArray) (p:=some ⟨g,0,none⟩) (cap:=cap) (XX hb) ⟨rfl,.refl _⟩ hi hde Bt (xi hi hde hie Bu (show swapperK cs.length ie 25=9 by
    have a1:(cs.length==0)=false:=by rw[beq_eq_false_iff_ne];omega
    have a2:(cs.length==1)=false:=by rw[beq_eq_false_iff_ne];omega
    simp only[swapperK,a1,a2,hp,hby];rfl) KG)
  exact pg hs λv Fs' L' ⟨q1,q2,q3⟩=>⟨q1,_,_,q2.2,hall _ q2.2.length_eq,q3⟩
theorem Yv {l:List Pt} (h:0<l.length):0<(uq l).length:=by
 cases l with
 |nil=>simp at h
 |cons a l=>simp[uq]
theorem acQ (h0:gj v cs B) (h1:0<cs.length) (hb:cs.length<=16777216):ai prog 256 [v].toArray [] B (λv' Fs' L'=>∃qs:List Pt,(∀x∈qs,x∈cs)/\(0<qs.length/\qs.length<=cs.length)/\gj v' qs L'/\Fs'=[]):=by
 obtain⟨p,cap,rfl⟩:=h0.shape;refine am func256 λ_=>(ba)<|(qF) ?_;intro r1;refine(rD)<|(gG)<|(dH) ?_;refine aL O O (iF (p:=(cs.length:Int)=0) aa) O<|(wI)<|(gG)<|(rE)<|(iW)<|aS eA call228 (acg (v:= .slice p cs.length cap) (r:=r1) h0 h1 hb) λv' Fs' L' ⟨e1,B2,qs,hq,hs,e2⟩=>?_;subst e1;subst e2;have hql:=hq.length_eq;refine(Jd)<|aS eA call335 (Qk (v:= .slice p cs.length cap) (cs:=qs) (B:=B2) hs aa) λv2 Fs2 L2 ⟨hu,e3⟩=>?_;subst e3;refine(bO)<|aH [] L2 ?_;exact⟨uq qs,λx hx=>hq.mem_iff.1 (KA hx),⟨Yv aa,by have:=DJ qs;omega⟩,hu,O⟩
end Go.Proofs
namespace Go.Proofs
open Tryz
open Go.V
variable {cs:List Pt} {v:Value} {B:List ae} {a:Addr}
structure Fg (cs:List Pt) (lss:List (List Pt)):Prop where
 ln:∀l∈lss,∃a b,l=[a,b]/\a∈cs/\b∈cs
 len:lss.length<=cs.length
theorem ace (h0:gj v cs B) (hb:cs.length<=1048576):ai prog 173 [v].toArray [aO 1 0 [iH a]] B
  (λv' Fs' L'=>(∃p lss cp,Fg cs lss/\v'=jb p lss cp/\Fs'=[bQ p lss cp])/\L'=[]):=by
 obtain⟨p,cap,rfl⟩:=h0.shape;refine am func173 λ_=>(ba)<|(qF) ?_;intro r1;refine(aq) ?_;intro _;refine(cn)<|(ce) ?_;rcases dL cs.length 2 with hsm|hbg
 ·refine(cJ)<|(gG)<|(dH) ?_;refine aL O O (iT (p:=(cs.length:Int)<=1) aa) O<|(vE)<|(ce) ?_;refine cI (bQ none [] 0) (λhp _=>⟨[],⟨O,bf _⟩,⟨O,.inl ⟨none,0,O,O⟩⟩,λ_ h=>nomatch h⟩) ?_;refine(cJ)<|(iw)<|(gV)<|aH [bQ none [] 0] [] ?_;exact⟨⟨none,[],0,⟨(λ_ h=>nomatch h),bf _⟩,O,O⟩,O⟩
 ·refine(cJ)<|(gG)<|(dH) ?_;refine aL O O (iF (p:=(cs.length:Int)<=1) aa) O<|(wI)<|(gG)<|aS eA call256 (acQ (v:= .slice p cs.length cap) h0 aa aa) λv2 Fs2 L2 ⟨xs,hxm,⟨hx0,hxl⟩,hxB,e1⟩=>?_;subst e1;obtain⟨p2,c2,rfl⟩:=hxB.shape;refine(gn)<|(cn) ?_;refine eN hxB tA ?_;refine dl (r:=r1) tA<|(cJ)<|(fM)<|(dH) ?_;refine ml (e:=307) (size:=5) ab O O O O O O (zl:=[aw 0,aw 0,aw 0,aw 0,iv 0]) nA O O O (bg _) O (by show xs.length*40<=_;omega) O λg=>?_;rw[Ks];refine(rD)<|(fM)<|(gW)<|aU [(4,5),(22,34)] (λ(x:Nat×List BI)=>x.1<=xs.length/\x.2.length=xs.length/\y0 (rA xs) x.1 x.2) (λx=>[(22,iv x.1)]) (λ_=>[]) (λx=>[eW g x.2]) (λx=>xs.length-x.1) ((0,ID xs.length)) (⟨bf _,by simp,λ_ h=>absurd h (iZ _)⟩) λ⟨i,ws⟩ fr ⟨h5,h6,h7⟩=>?_;dsimp only at h5 h6 h7;refine(cM)<|ao ?_ ?_
  ·intro hc23;have hlt:i<xs.length:=by have:=of_decide_eq_true hc23;dsimp only at this;omega
   obtain⟨x,hx⟩:∃x,xs[i]? =some x:=⟨_,aG hlt⟩;refine(rK) ?_;refine cU (size:=2) (i:=i) ab O O O O O aa mA aa (flat_take (F:=λp:Pt=>[aw p.1,aw p.2]) (λ_ _=>O) hx) O λ_ _=>(uk)<|(aq) ?_;intro r5;refine(gb)<|(cu)<|(cO)<|(eH)<|aj eA call257 (PZ (a:=x))<|(aB)<|(cN) ?_;refine bp (s:=5) (i:=i) ab O O O O O aa aa O ?_;refine EQ (F:=bi) (k:=5) (xs:=ws) (j:=i) (e:=(vT x,(i:Int))) ab O O O O O O (tQ _) aa aa uA<|(rM) ?_;exact⟨(i+1,ws.set i (vT x,(i:Int))),oA,⟨oA,by simpa using h6,h7.snoc aa ⟨i,x,rfl,hx,rfl⟩⟩,lA,kA,fA,hA⟩
  ·intro hc23;have hge:i=xs.length:=by have:=of_decide_eq_false hc23;dsimp only at this;omega
   have hall:jw (rA xs) xs.length ws:=(hge▸h7).all h6;refine(CU)<|aS eA call245 (N3 (g:=g) (n:=xs.length) (cap:=xs.length) aa hall O (bg _) hx0) λv3 Fs3 L3 ⟨⟨rt,V,z,e1,e2,hzz⟩,e3⟩=>?_;subst e1;subst e2;subst e3;refine(fo)<|(fM)<|(dH)<|aS eA call258 (aeK (n:=xs.length) aa) λv4 Fs4 L4 ⟨gp,gr,⟨e1,e2⟩,e3⟩=>?_;subst e1;subst e2;subst e3;refine(aq) ?_;intro r7;refine(dS) ?_;refine dl (r:=r7) tA<|(cJ)<|(fM)<|(dH) ?_;refine ew (m:=((xs.length-1:Nat):Int)) O O aa ⟨aa,aa⟩ O ?_;refine pk (e:=90) (size:=2) ab O O O O O O nA O (l:=0) (cp:=xs.length-1) O O (bf _) O (by show(xs.length-1)*32<=_;omega) O λv5 B5 hs5=>?_;obtain⟨p5,c5,rfl⟩:=hs5.shape;refine(nH) ?_;intro r8;refine(gn)<|(cn)<|(ba) ?_;refine cL (gK []) (λhp al=>λq hq=>nomatch hq) ?_;refine(fM)<|(gW)<|aU [(9,10),(46,61)] (λ(x:Nat×Nat×CE)=>(x.1<=xs.length/\x.2.1<=x.1)/\Og xs x.2.1 x.2.2) (λx=>[(46,iv x.1)]) (λx=>[gK x.2.2.qs]) (λx=>x.2.2.LL gp gr r8) (λx=>xs.length-x.1) ((0,0,⟨List.range xs.length,List.replicate xs.length 0,λ_=>0,λi=>i,0,p5,c5,B5,[]⟩)) (⟨⟨bf _,bg _⟩,⟨aiN _,by simp,by simp,λr hr=>by{have h9:=List.eq_of_mem_replicate hr;omega},hs5,bg _,λ_ h=>nomatch h⟩⟩) λ⟨i,k,s⟩ fr2 ⟨⟨h8,h9⟩,hK⟩=>?_;dsimp only at h8 h9 hK;refine(cM)<|ao ?_ ?_
   ·intro hc47;have hlt2:i<xs.length:=by have:=of_decide_eq_true hc47;dsimp only at this;omega
    obtain⟨x,hx⟩:∃x,xs[i]? =some x:=⟨_,aG hlt2⟩;refine(rK) ?_;refine cU (size:=2) (i:=i) ab O O O O O aa mA aa (flat_take (F:=λp:Pt=>[aw p.1,aw p.2]) (λ_ _=>O) hx) O λ_ _=>(uk)<|(nH) ?_;intro r9;refine(aq) ?_;intro r10;refine(gn)<|(dS)<|(ce) ?_;refine dl (r:=r9) tA ?_;refine dl (r:=r10) tA<|(cJ)<|(fM)<|(fM)<|(dH) ?_;refine ew (m:=((xs.length-1:Nat):Int)) O O aa ⟨aa,aa⟩ O ?_;refine(kT)<|(aN)<|ao ?_ ?_
    ·intro hc55;refine(zi)<|(lO) ?_;exact⟨(i+1,k,s),oA,⟨⟨by dsimp only;omega,by dsimp only;omega⟩,hK⟩,lA,kA,fA,hA⟩
    ·intro hc55;refine(bX)<|(aY)<|(uk)<|aj eA call257 (PZ (a:=x))<|(iW)<|aS eA call259 (adw (S:=rA xs) (KK:=Og xs) (FF:=λs=>[gK s.qs]) (LLs:=CE.LL gp gr r8) (G:=K3 xs p2 c2 gp gr r9 r7 r1 r10 i x) (fn:=260) (fv:=[]) (cv:=[be r9,be r7,be r1,be r8,be r10]) (q:=(x.1,x.2,x.1,x.2)) (a:=a) (k:=k) (s:=s) (r:=rt) (z:=z) (V:=V) call260 (acf hx aa aa) hK aa) λv6 Fs6 L6 ⟨k2,s2,⟨hk1,hk2⟩,hK2,e1,e2,e3⟩=>?_;subst e1;subst e2;subst e3;refine(rM) ?_;exact⟨(i+1,k2,s2),oA,⟨⟨by dsimp only;omega,by dsimp only;omega⟩,hK2⟩,lA,kA,fA,hA⟩
   ·intro hc47;have hge2:i=xs.length:=by have:=of_decide_eq_false hc47;dsimp only at this;omega
    have hql:=hK.len;refine cI (gK s.qs) (λhp al=>al (gK s.qs) mA) ?_;show Go _ _ _ _ ((iJ gr s.rs::iJ gp s.ps::bL r8 93 [.slice s.p s.qs.length s.c]::s.Bk)++_) _ _ _;refine eN hK.sl tA ?_;refine cI (bQ s.p (s.qs.map (·.l)) s.c) (λhp al=>Vs (al (bF 2 (.slice s.p s.qs.length s.c) s.qs.length (s.qs.flatMap Sq.cells)) mA) (al (gK s.qs) mA) aa) ?_;have hnew:ai prog 109 [.slice s.p s.qs.length s.c].toArray [bQ s.p (s.qs.map (·.l)) s.c] [] (rQ (s.qs.map (·.l))):=by{have h:ai prog 109 [.slice s.p (s.qs.map (·.l)).length s.c].toArray [bQ s.p (s.qs.map (·.l)) s.c] [] (rQ (s.qs.map (·.l))):=BN;rw[cP] at h;exact h}
    refine(y9)<|(gG)<|aI eA call109 (hnew) λv7 Fs7 ⟨p9,c9,e7,e8⟩=>?_;subst e7;subst e8;refine(eF)<|aH [bQ p9 (s.qs.map (·.l)) c9] [] ?_;exact⟨⟨p9,s.qs.map (·.l),c9,⟨λl hl=>by{obtain⟨q,hq,rfl⟩:=aM.1 hl;obtain⟨a,b,e,h1,h2⟩:=hK.ln q hq;exact⟨a,b,e,hxm a h1,hxm b h2⟩},by simp;omega⟩,O,O⟩,O⟩
end Go.Proofs
namespace Go.Proofs
open Tryz
open Go.V Go.Edges
variable {cs:List Pt} {v u:Value} {B:List ae} {x:Pt} {q:Sq} {p:Option Addr} {cp:Nat} {lss:List (List Pt)} {gs:List GM} {g:GM}
def j9 (l:List Pt):Pt:=l.getD 0 (0,0)
theorem ald (h0:gj v cs B) (hb:cs.length<=1048576):ai prog 253 [v,Ec x].toArray [] B (λv' Fs' L'=>gj v' (cs++[x]) L'/\Fs'=[]):=by
 obtain⟨p,cap,rfl⟩:=h0.shape;refine am func253 λ_=>(au) ?_;intro r3;refine(rD) ?_;(first|refine su ab O O O mA O O ?_|refine aK ab O O O (oD (k:=6) mA) O O ?_);refine aj eA call120 (Lr (x:=x))<|(x5) ?_;intro r5;refine(de)<|(cF)<|(vE)<|(js)<|(eD) ?_;intro b15;refine di (e:=79) (size:=2) (news:=bl [x]) ab O O O O O O O (B:=B) tA h0 O (bD mA) O O dp (by show(cs.length+1)*16<=_;omega) O λv' B' hs'=>?_;rw[<-Ny] at hs';have hs2:gj v' (cs++[x]) B':=by{show aJ _ _ _ _ _ _;rw[aW];exact hs'}
 refine(cF)<|(bO)<|aH [] B' ?_;exact⟨hs2,O⟩
theorem WQ (h0:gj v cs B) (hb:cs.length<=1048576) (hq:q.l≠[]):ai prog 254 [v,q.v].toArray [q.fact] B (λv' Fs' L'=>gj v' (cs++[j9 q.l]) L'/\Fs'=[]):=by
 have hx:q.l[0]? =some (j9 q.l):=US (DD.2 hq);obtain⟨p,cap,rfl⟩:=h0.shape;refine am func254 λ_=>(au) ?_;intro r3;refine(cF)<|(eH)<|aj eA call117 (QU (p:=q.p) (l:=q.l) (cp:=q.cp) hx)<|aS eA call253 (ald (v:= .slice p cs.length cap) (x:=j9 q.l) h0 hb) λv' Fs' L' ⟨hs,e1⟩=>?_;subst e1;refine(bO)<|aH [] L' ?_;exact⟨hs,O⟩
theorem aiF {hp:PH} {gs:List GM} {u:Value} (h:rS hp (.gc gs) u):gs.length<=1048576:=by
 generalize e:GM.gc gs=g at h;cases h with
 |ls _ _=>cases e
 |mls _ _=>cases e
 |gc0=>cases e;simp
 |gc hb _ _ _=>cases e;simpa using hb
theorem NT:∀(k:Nat) (g:GM) (u v:Value) (cs:List Pt) (B:List ae),SizeOf.sizeOf g<=k->(∀l∈g.lines,l≠[])->gj v cs B->cs.length+g.lines.length<=1048576->
  ai prog 172 [v,gv g u].toArray [aE g u] B (λv' Fs' L'=>gj v' (cs++g.lines.map j9) L'/\Fs'=[])
 |0,g,u,v,cs,B,h,_,_,_=>by cases g<;>simp at h
 |k+1,.ls l,u,v,cs,B,h,hl,h0,hb=>by
  simp only[GM.lines] at hl hb ⊢;obtain⟨p0,cap0,rfl⟩:=h0.shape;have hl0:=hl l (.head _);refine am func172 λ_=>(au) ?_;intro _;refine(rL)<|aj eA call25 (lz (g:= .ls l) (v:=u))<|(dF)<|(pL)<|aI eA call29 (qQ (l:=l)) λv1 Fs1 ⟨q,e1,e2,e3⟩=>?_;subst e2;subst e3;subst e1;refine(aq) ?_;intro _;refine(cu)<|(bJ)<|(eH)<|aS eA call254 (WQ (v:= .slice p0 cs.length cap0) (q:=q) h0 aa hl0) λv' Fs' L' ⟨hs,e1⟩=>?_;subst e1;refine(mJ)<|aH [] L' ?_;exact⟨hs,O⟩
 |k+1,.mls lss,u,v,cs,B,h,hl,h0,hb=>by
  simp only[GM.lines] at hl hb ⊢;obtain⟨p0,cap0,rfl⟩:=h0.shape;refine am func172 λ_=>(au) ?_;intro _;refine(rL)<|aj eA call25 (lz (g:= .mls lss) (v:=u))<|(ot)<|(pO)<|aI eA call35 (qP (lss:=lss)) λv1 Fs1 ⟨p,cp,e2,e3⟩=>?_;subst e2;subst e3;refine(aq) ?_;intro _;refine(wO)<|aj eA call58 (xr (lss:=lss))<|(oQ)<|aU [(0,0),(11,12),(60,70)] (λ(x:Nat×(Option Addr×Nat)×List Pt×List ae)=>x.1<=lss.length/\x.2.2.1=cs++(lss.take x.1).map j9/\gj (.slice x.2.1.1 x.2.2.1.length x.2.1.2) x.2.2.1 x.2.2.2) (λx=>[(11,iv x.1),(0,.slice x.2.1.1 x.2.2.1.length x.2.1.2)]) (λ_=>[]) (λx=>x.2.2.2) (λx=>lss.length-x.1) ((0,(p0,cap0),cs,B)) (⟨bf _,by simp,h0⟩) λ⟨i,⟨p1,c1⟩,ds,B1⟩ fr ⟨h5,h6,h7⟩=>?_;dsimp only at h5 h6 h7;have hdl:ds.length=cs.length+i:=by{rw[h6,aW,cP,lV];omega}
  refine(lN)<|ao ?_ ?_
  ·intro hc62;have hlt:i<lss.length:=by have:=of_decide_eq_true hc62;dsimp only at this;omega
   obtain⟨l,hli⟩:∃x,lss[i]? =some x:=⟨_,aG hlt⟩;have hl0:=hl l (bn hli);refine(mB)<|aI eA call59 (vW hli) λv2 Fs1 ⟨q1,e1,e2,e3⟩=>?_;subst e1;subst e2;subst e3;refine(aq) ?_;intro r12;refine(y7)<|aS eA call254 (WQ (v:= .slice p1 ds.length c1) (q:=q1) h7 aa hl0) λv' Fs' L' ⟨hs,e1⟩=>?_;subst e1;obtain⟨p2,c2,rfl⟩:=hs.shape;refine(I4) ?_;exact⟨(i+1,(p2,c2),ds++[j9 q1.l],L'),oA,⟨by dsimp only;omega,by{dsimp only;rw[h6,dO hli,dX,cG];rfl},hs⟩,lA,kA,fA,hA⟩
  ·intro hc62;have hge:i=lss.length:=by have:=of_decide_eq_false hc62;dsimp only at this;omega
   rw[hge,dg] at h6;refine(CU)<|(mJ)<|aH [] B1 ?_;exact⟨h6▸h7,O⟩
 |k+1,.gc gs,u,v,cs,B,h,hl,h0,hb=>by
  simp only[GM.lines] at hl hb ⊢;obtain⟨p0,cap0,rfl⟩:=h0.shape;refine uL (φ:=gs.length<=1048576) (λhp al=>aiF (al (aE (.gc gs) u) (.head _))) λhlb=>?_;refine am func172 λ_=>(au) ?_;intro _;refine(rL)<|aj eA call25 (lz (g:= .gc gs) (v:=u))<|(ud)<|(pO)<|aI eA call39 (sb (gs:=gs)) λv1 Fs1 ⟨p,cp,e2,e3⟩=>?_;subst e2;subst e3;refine(aq) ?_;intro _;refine(wO)<|aj eA call95 (Al (gs:=gs))<|(oQ)<|aU [(0,0),(20,20),(103,112)] (λ(x:Nat×(Option Addr×Nat)×List Pt×List ae)=>x.1<=gs.length/\x.2.2.1=cs++(ck (gs.take x.1)).map j9/\gj (.slice x.2.1.1 x.2.2.1.length x.2.1.2) x.2.2.1 x.2.2.2) (λx=>[(20,iv x.1),(0,.slice x.2.1.1 x.2.2.1.length x.2.1.2)]) (λ_=>[]) (λx=>x.2.2.2) (λx=>gs.length-x.1) ((0,(p0,cap0),cs,B)) (⟨bf _,by simp[ck],h0⟩) λ⟨i,⟨p1,c1⟩,ds,B1⟩ fr ⟨h5,h6,h7⟩=>?_;dsimp only at h5 h6 h7;refine(lN)<|ao ?_ ?_
  ·intro hc105;have hlt:i<gs.length:=by have:=of_decide_eq_true hc105;dsimp only at this;omega
   obtain⟨g,hgi⟩:∃x,gs[i]? =some x:=⟨_,aG hlt⟩;have hgm:=bn hgi;have hsz:SizeOf.sizeOf g<=k:=by{have:=vN hgm;simp at h;omega}
   have hsplit:(ck gs).length=(ck (gs.take i)).length+g.lines.length+(ck (gs.drop (i+1))).length:=by{have e9:gs=gs.take i++([g]++gs.drop (i+1)):=(by{rw[<-cG,<-dO hgi,gf]});have e8:=congrArg (λz=>(ck z).length) e9;simp only[si,aW] at e8;rw[e8];simp[ck];omega}
   have hdl:ds.length=cs.length+(ck (gs.take i)).length:=by{rw[h6,aW,cP]}
   refine(j5)<|(js)<|(aB)<|aI eA call96 (Ci hgi) λv2 Fs1 ⟨u0,e2,e3⟩=>?_;subst e2;subst e3;refine aS eA call172 (NT k g u0 (.slice p1 ds.length c1) ds B1 hsz (λl hl'=>hl l (Hx hgm hl')) h7 aa) λv' Fs' L' ⟨hs,e1⟩=>?_;subst e1;obtain⟨p2,c2,rfl⟩:=hs.shape;refine(I4) ?_;exact⟨(i+1,(p2,c2),ds++g.lines.map j9,L'),oA,⟨by dsimp only;omega,by{dsimp only;rw[h6,dO hgi,si,dX,cG];simp[ck]},hs⟩,lA,kA,fA,hA⟩
  ·intro hc105;have hge:i=gs.length:=by have:=of_decide_eq_false hc105;dsimp only at this;omega
   rw[hge,dg] at h6;refine(CU)<|(mJ)<|aH [] B1 ?_;exact⟨h6▸h7,O⟩
end Go.Proofs
namespace Go.Proofs
open Tryz
open Go.V Go.Edges
variable {g1 g2:GM} {u1 u2:Value} {a:Addr}
theorem ais (h1:∀l∈g1.lines,l≠[]) (h2:∀l∈g2.lines,l≠[]) (hb:g1.lines.length+g2.lines.length<=1048576):
  ai prog 150 [gv g1 u1,gv g2 u2].toArray [aE g1 u1,aE g2 u2,aO 1 0 [iH a]] []
   (λv' Fs' L'=>(∃p lss cp,Fg (g1.lines.map j9++g2.lines.map j9) lss/\v'=jb p lss cp/\Fs'=[bQ p lss cp])/\L'=[]):=by
 refine uL (φ:=u1.oneCell'=true/\u2.oneCell'=true) (λhp al=>⟨dE (al (aE g1 u1) (.head _)),dE (al (aE g2 u2) (.tail _ (.head _)))⟩) λ⟨o1,o2⟩=>?_;refine am func150 λ_=>(au) ?_;intro r2;refine(cg) ?_;intro r3;refine(aq) ?_;intro _;refine(eZ)<|(cF)<|(eH)<|aS eA call172 (NT (SizeOf.sizeOf g1) g1 u1 (.slice none 0 0) [] [] (bg _) h1 (aJ.nil _ _) qK) λv' Fs' L1 ⟨hs,e1⟩=>?_;subst e1;rw[j6] at hs;obtain⟨p1,c1,rfl⟩:=hs.shape;refine(cF)<|(eH)<|aS eA call172 (NT (SizeOf.sizeOf g2) g2 u2 (.slice p1 (g1.lines.map j9).length c1) (g1.lines.map j9) L1 (bg _) h2 hs (by rw[cP];omega)) λv' Fs' L2 ⟨hs2,e1⟩=>?_;subst e1;obtain⟨p2,c2,rfl⟩:=hs2.shape;refine(cF)<|aS eA call173 (ace (a:=a) (v:= .slice p2 (g1.lines.map j9++g2.lines.map j9).length c2) hs2 qK) λv' Fs' L3 ⟨⟨p,lss,cp,hT,e1,e2⟩,e3⟩=>?_;subst e1;subst e2;subst e3;refine(aq) ?_;intro _;refine(wO)<|(eF)<|aH [bQ p lss cp] [] ?_;exact⟨⟨p,lss,cp,hT,O,O⟩,O⟩
end Go.Proofs
namespace Go.Proofs
open Go.V Go.Edges
variable {S:List (List Pt×Bool)} {d D:DS} {p0:Option Addr} {fs:List Nat} {cp:Nat}
theorem Tu:∀{hs:List (PP×Nat)} {k:PP} {e e':Nat},(hs.map (·.1)).Nodup->(k,e)∈hs->(k,e')∈hs->e=e'
 |[],_,_,_,_,h,_=>nomatch h
 |a::hs,k,e,e',hn,h,h'=>by
  have hn':=la.1 hn;rcases bm.1 h with h1|h1
  ·rcases bm.1 h' with h2|h2
   ·rw[<-h1] at h2;cases h2;rfl
   ·exact absurd (aM.2 ⟨_,h2,by rw[<-h1]⟩) hn'.1
  ·rcases bm.1 h' with h2|h2
   ·exact absurd (aM.2 ⟨_,h1,by rw[<-h2]⟩) hn'.1
   ·exact Tu hn'.2 h1 h2
theorem G2 (hi:Inv S d) (hT:vb d) (hF:JP d p0 fs cp) (hL:zy d D):CI D fs:=by
 have hs:=hL.same;refine⟨λk e he=>?_,λk e t he ht=>?_,λk e t he ht=>?_,λk e he=>?_⟩
 ·rw[hs.hs] at he;obtain⟨kt,kh,p,v,t,h,f,f',N,_⟩:=Sy hi hT hF hs he;exact⟨kt,kh,p,v,t,h,f,f',N⟩
 ·rw[hs.hs] at he;rw[(hs.E e).tw] at ht;obtain⟨k',t',mt,t1,t2,_⟩:=hi.tw k e he;rw[t1] at ht;cases ht;rw[(hs.E t).tw];exact t2
 ·rw[hs.hs] at he;rw[(hs.E e).tw] at ht;obtain⟨k',t',mt,t1,t2,_,t4⟩:=hi.tw k e he;rw[t1] at ht;cases ht;rw[hL.e1 k e he,hL.e1 k' t mt,(hs.E t).a,(hs.E e).a,t4]
 ·rw[hs.hs] at he;rw[(hs.E e).x];exact(hi.ef k e he).2
theorem Yh (hi:Inv S d) (hL:zy d D):∀p v,(p,v)∈D.vs->(D.V v).s=true->∃k r,(k,r)∈D.hs/\(D.E r).s=true/\(D.E r).org=some v:=by
 intro p v hv hs;have h:=hL.same;rw[h.vs] at hv;obtain⟨r,hr,ha⟩:=hL.v2 p v hv hs;obtain⟨k,hk,ho⟩:=hi.inc p v hv r hr;exact⟨k,r,by rw[h.hs];exact hk,by rw[hL.e1 k r hk,(h.E r).a];exact ha,by rw[(h.E r).org];exact ho⟩
structure Oe (S:List (List Pt×Bool)) (T:List (List Pt)):Prop where
 src:∀t∈T,∃s,(s,true)∈S/\(t=s\/t=s.reverse)
 apart:T.Pairwise λs t=>s≠t/\s≠t.reverse
 all:∀s,(s,true)∈S->s∈T\/s.reverse∈T
theorem aeh {α:Type} {R:α->α->Prop} (hsym:∀a b,R a b->R b a) {l m:List α} (h:l.Perm m) (hl:l.Pairwise R):m.Pairwise R:=h.pairwise hl (λ{a b} hab=>hsym a b hab)
theorem abx {D':DS} {es:List Nat} {qs:List Sq} (hi:Inv S d) (hL:zy d D) (hE:pV D D' (List.range D.hs.length) es) (hq:qs.Perm (oy D es)) (key:∀s b,(s,b)∈S->∀k e,(k,e)∈d.hs->k=keyOf s->(d.E e).a=true->b=true->(d.E e).sq.l=s\/(d.E e).sq.l=s.reverse):
  Oe S (qs.map (·.l)):=by
 have hs:=hL.same;have hmem:∀l,l∈qs.map (·.l)↔∃e∈es,(d.E e).sq.l=l:=λl=>by
  rw[aM];constructor
  ·rintro⟨q,hq',rfl⟩;obtain⟨e,he,rfl⟩:=aM.1 (hq.mem_iff.1 hq');exact⟨e,he,by rw[(hs.E e).sq]⟩
  ·rintro⟨e,he,rfl⟩;exact⟨(D.E e).sq,hq.mem_iff.2 (aM.2 ⟨e,he,O⟩),by rw[(hs.E e).sq]⟩
 have inh:∀e∈es,∃k,(k,e)∈d.hs/\(d.E e).a=true:=λe he=>by
  obtain⟨⟨k,hk⟩,h2,_⟩:=hE.es1 e he;rw[hs.hs] at hk;exact⟨k,hk,by rw[<-(hs.E e).a,<-hL.e1 k e hk];exact h2⟩
 have uniq:∀k k' e e',(k,e)∈d.hs->(k',e')∈d.hs->(d.E e).sq.l=(d.E e').sq.l->e=e':=λk k' e e' h1 h2 he=>by
  have e1:=hi.key k e h1;have e2:=hi.key k' e' h2;rw[he,e2] at e1;subst e1;exact Tu hi.kn h1 h2
 refine⟨λt ht=>?_,?_,λs hs'=>?_⟩
 ·obtain⟨e,he,rfl⟩:=(hmem t).1 ht;obtain⟨k,hk,ha⟩:=inh e he;exact hi.a2 k e hk ha
 ·have hsym:∀a b:List Pt,(a≠b/\a≠b.reverse)->(b≠a/\b≠a.reverse):=λa b h=>⟨λe=>h.1 e.symm,λe=>h.2 (by rw[e,zP])⟩;refine aeh hsym (hq.map (·.l)).symm ?_;rw[w8,Dk];refine hE.nd.imp_of_mem λ{a b} ha hb hab=>?_;obtain⟨ka,hka,_⟩:=inh a ha;obtain⟨kb,hkb,_⟩:=inh b hb;simp only[Function.comp_apply];rw[(hs.E a).sq,(hs.E b).sq];refine⟨λe=>hab.1 (uniq ka kb a b hka hkb e),λe=>?_⟩;obtain⟨kt,t,mt,t1,_,t3,_⟩:=hi.tw ka a hka;have:(d.E t).sq.l=(d.E b).sq.l:=by rw[t3,e,zP]
  have:=uniq kt kb t b mt hkb this;subst this;exact hab.2 (by rw[(hs.E a).tw];exact t1)
 ·obtain⟨e,he,ha⟩:=hi.all s true hs';have ha':=ha rfl;have hes:(D.E e).s=true:=by rw[hL.e1 _ e he,(hs.E e).a];exact ha'
  have heD:(keyOf s,e)∈D.hs:=by rw[hs.hs];exact he
  obtain⟨i,hi'⟩:=lg heD;have hl:=key s true hs' _ e he rfl ha' rfl;rcases hE.all i (nL.2 (da hi')) _ hi' hes with h|⟨t,ht,h⟩
  ·have:(d.E e).sq.l∈qs.map (·.l):=(hmem _).2 ⟨e,h,rfl⟩;rcases hl with h2|h2
   ·rw[h2] at this;exact .inl this
   ·rw[h2] at this;exact .inr this
  ·rw[(hs.E e).tw] at ht;obtain⟨kt,t',mt,t1,_,t3,_⟩:=hi.tw _ e he;rw[t1] at ht;cases ht;have:(d.E t).sq.l∈qs.map (·.l):=(hmem _).2 ⟨t,h,rfl⟩;rw[t3] at this;rcases hl with h2|h2
   ·rw[h2] at this;exact .inr this
   ·rw[h2,zP] at this;exact .inl this
end Go.Proofs
namespace Go.Proofs
open Go.V Go.Edges
variable {lines:List (List Pt)} {X:List Pt} {l:List Pt} {i j k:Nat} {S:List (List Pt×Bool)} {d d':DS} {b:Bool}
theorem V5 (hjk:j<k) (hk:k<l.length):∃a z,l[j]? =some a/\l[k]? =some z/\qw l j k=a::((l.drop (j+1)).take (k-1-j)++[z]):=by
 have hj:j<l.length:=by omega
 refine⟨l[j],l[k],aG hj,aG hk,?_⟩;have h1:l.drop j=l[j]::l.drop (j+1):=Bq hj;have h2:k+1-j=(k-1-j+1)+1:=by omega
 show(l.drop j).take (k+1-j)=_;rw[h1,h2,PA,Gf];congr 2;rw[vL,show j+1+(k-1-j)=k by omega,aG hk];rfl
theorem adQ (h:Fl X l j k) (hl:l∈lines) (hj:∀p,l[j]? =some p->p∈X):dR lines (·∈X) (qw l j k):=by
 obtain⟨a,z,ha,hz,e⟩:=V5 h.lt h.len;refine⟨⟨l,hl,.inl ?_⟩,DT.2 ⟨a,_,z,e,hj a ha,h.fin z hz,λp hp=>?_⟩⟩
 ·exact(List.take_prefix _ _).isInfix.trans (List.drop_suffix _ _).isInfix
 ·obtain⟨i,hi⟩:=lg hp;rw[uK] at hi;split at hi
  ·rw[vL] at hi;exact h.mid (j+1+i) aa aa p hi
  ·cases hi
theorem adz (hjk:j<k) (hk:k<l.length):aD (l.take (k+1))=aD (l.take (j+1))++aD (qw l j k):=by
 obtain⟨a,z,ha,hz,e⟩:=V5 hjk hk;have hj:j<l.length:=by omega
 have h1:l.take (k+1)=l.take j++qw l j k:=by
  show _=l.take j++(l.drop j).take (k+1-j);have:k+1=j+(k+1-j):=by omega
  rw[this,List.take_add];congr 2;omega
 have h2:l.take (j+1)=l.take j++[a]:=by rw[Gf,ha];rfl
 rw[h1,h2,e,Af]
theorem acH (ok:kP lines (·∈X)) (hl:l∈lines) (h0:∀p,l[0]? =some p->p∈X) {m:DS} (h:AH (wW b) X l d 0 m k) (hi:Inv S d) (hS:∀s c,(s,c)∈S->dR lines (·∈X) s) (hne:l≠[]):
  ∃T:List (List Pt),Inv (S++T.map λt=>(t,b)) m/\(∀t∈T,dR lines (·∈X) t)/\T.flatMap aD=aD (l.take (k+1))/\(k=0\/∀p,l[k]? =some p->p∈X):=by
 induction h with
 |nil=>
  refine⟨[],by simpa using hi,(λ_ h=>nomatch h),?_,.inl rfl⟩;cases l with
  |nil=>exact absurd rfl hne
  |cons a l=>rfl
 |@snoc m j k s' _ hp hR ih=>
  obtain⟨T,h1,h2,h3,h4⟩:=ih;have hrun:=adQ (lines:=lines) hp hl (λp hp'=>by
   rcases h4 with h4|h4
   ·subst h4;exact h0 p hp'
   ·exact h4 p hp')
  refine⟨T++[qw l j k],?_,λt ht=>?_,?_,.inr hp.fin⟩
  ·rw[dX,<-cG];refine agH ok h1 (λs c hs=>?_) hrun hR;rcases bB.1 hs with hs|hs
   ·exact hS s c hs
   ·obtain⟨t,ht,e⟩:=aM.1 hs;cases e;exact h2 _ ht
  ·rcases bB.1 ht with ht|ht
   ·exact h2 t ht
   ·simp at ht;subst ht;exact hrun
  ·rw[ft,h3,adz hp.lt hp.len];simp
theorem S9 (ok:kP lines (·∈X)) {vs:List (Pt×Nat)} {ls:List (List Pt)} (h:kY b X d ls d') (hl:∀l∈ls,l∈lines) (hok:∀l∈ls,wU vs X l) (hi:Inv S d) (hS:∀s c,(s,c)∈S->dR lines (·∈X) s):
  ∃T:List (List Pt),Inv (S++T.map λt=>(t,b)) d'/\(∀t∈T,dR lines (·∈X) t)/\T.flatMap aD=ls.flatMap aD:=by
 induction h with
 |nil=>exact⟨[],by simpa using hi,(λ_ h=>nomatch h),rfl⟩
 |@snoc m d' ls l _ h2 ih=>
  obtain⟨T,h3,h4,h5⟩:=ih (λl hl'=>hl l (bq _ hl')) (λl hl'=>hok l (bq _ hl'));have hlm:l∈ls++[l]:=bI _ (.head _);have hlo:=hok l hlm;have hlen:0<l.length:=DD.2 hlo.ne;obtain⟨U,u1,u2,u3,_⟩:=acH ok (hl l hlm) hlo.first h2 h3 (λs c hs=>by
   rcases bB.1 hs with hs|hs
   ·exact hS s c hs
   ·obtain⟨t,ht,e⟩:=aM.1 hs;cases e;exact h4 _ ht) hlo.ne
  refine⟨T++U,by rw[dX,<-cG];exact u1,λt ht=>(bB.1 ht).elim (h4 t) (u2 t),?_⟩;rw[ft,h5,u3,ft,show l.length-1+1=l.length by omega,dg];simp
end Go.Proofs
namespace Go.Proofs
open Tryz
open Go.V Go.Edges
variable {g g':GM} {u u':Value} {Fs:List an} {Pl:List (List Pt)->Prop} {gs:List GM} {p:Option Addr} {cp:Nat} {lss:List (List Pt)}
abbrev FP (Pl:List (List Pt)->Prop):cZ:=λv Fs' L'=>∃(d:DS) (fs:List Nat) (p:Option Addr) (cp:Nat),v=aF d.dr/\CI d fs/\
 (∀p v,(p,v)∈d.vs->(d.V v).s=true->∃k r,(k,r)∈d.hs/\(d.E r).s=true/\(d.E r).org=some v)/\d.fc=mQ p fs cp/\(fs.length<=1099511627776/\d.hs.length<=4294967295/\d.vs.length<=1099511627776)/\
 (∀(D:DS) (es:List Nat) (qs:List Sq),pV d D (List.range d.hs.length) es->qs.Perm (oy d es)->(∀l∈qs.map (·.l),sU l)/\Pl (qs.map (·.l)))/\Fs'=[bN d,wh p fs cp,gR fs]/\L'=d.LL
abbrev On (Pl:List (List Pt)->Prop):cZ:=λv Fs' L'=>(∃(lss:List (List Pt)) (u:Value),((∀l∈lss,sU l)/\Pl lss)/\v= .tuple #[gv (hZ lss) u,.nilIface]/\Fs'=[aE (hZ lss) u])/\L'=[]
theorem acC (hPb:∀lss,Pl lss->lss.length<=1048576) (o1:u.oneCell'=true) (o2:u'.oneCell'=true) (hD:ai prog 142 [gv g u,gv g' u'].toArray Fs [] (FP Pl)):
  ai prog 124 [gv g u,gE 125 [] [],gv g' u'].toArray Fs [] (On Pl):=by
 refine am func124 λ_=>(au) ?_;intro r3;refine(cg) ?_;intro r5;refine(aq) ?_;intro r6;refine(bt)<|(gM)<|aS eA call142 (hD) λv1 Fs1 L1 ⟨d,fs,p,cp,e1,hR,hv,hfc,⟨hb1,hb2,hb3⟩,hout,e2,e3⟩=>?_;subst e1;subst e2;subst e3;refine(iz)<|aS eA call143 (ajv (d:=d) hR hv hfc O hb1 hb2 hb3 (λD es qs hE hq=>by have h1:=hPb _ (hout D es qs hE hq).2;rwa [cP] at h1)) λv2 Fs2 L2 ⟨D,es,qs,w,⟨hE,hq⟩,e1,e2,e3⟩=>?_;subst e1;subst e2;subst e3;obtain⟨hln,hpl⟩:=hout D es qs hE hq;refine dP (φ:=w.oneCell'=true) (λhp al=>dE (al (aE (hZ (qs.map (·.l))) w) mA)) λhw=>(x5) ?_;intro r9;refine(de)<|(iC)<|(wA)<|(ce)<|(cR)<|aj eA call145 (Yi hln)<|(cF)<|(wA)<|(cR)<|(de)<|(bO)<|aH [aE (hZ (qs.map (·.l))) w] [] ?_;exact⟨⟨qs.map (·.l),w,⟨hln,hpl⟩,O,O⟩,O⟩
theorem YC (hPb:∀lss,Pl lss->lss.length<=1048576) (o1:u.oneCell'=true) (hD:ai prog 142 [gv g u,gv (.gc []) .nilIface].toArray Fs [] (FP Pl)):
  ai prog 65 [gv g u].toArray Fs [] (On Pl):=by
 have hS:=acC hPb o1 rfl hD;refine am func65 λ_=>(au) ?_;intro r1;refine(aq) ?_;intro r2;refine(rL)<|(cN)<|aI eA call124 (hS) λv1 Fs1 ⟨lss,w,hl,e1,e2⟩=>?_;subst e1;subst e2;refine dP (φ:=w.oneCell'=true) (λhp al=>dE (al (aE (hZ lss) w) mA)) λhw=>(kR)<|(kR)<|(de)<|(bO)<|aH [aE (hZ lss) w] [] ?_;exact⟨⟨lss,w,hl,O,O⟩,O⟩
theorem BH {w:Value} {F:List an} (h:tY lss w F):∃(a b:Int) (p3 p4:Value),w= .agg #[iv a,iv b,p3,p4]/\p3.oneCell'=true/\p4.oneCell'=true:=by
 match lss,h with
 |[],⟨h,_⟩=>exact⟨_,_,_,_,h,rfl,rfl⟩
 |[l],⟨_,_,h,_⟩=>exact⟨_,_,_,_,h,rfl,rfl⟩
 |_::_::_,⟨_,_,h,_⟩=>exact⟨_,_,_,_,h,rfl,rfl⟩
theorem adc (hg:lx lss):ai prog 18 [gv (hZ lss) u,.nilIface].toArray [aE (hZ lss) u] [] (λv Fs' L'=>(∃w,tY lss w Fs'/\v= .tuple #[w,.bool true])/\L'=[]):=by
 refine uL (φ:=u.oneCell'=true) (λhp al=>dE (al (aE (hZ lss) u) (.head _))) λho=>?_;refine am func18 λ_=>(au) ?_;intro r2;refine(aq) ?_;intro r4;refine(iC)<|(wA)<|(cR)<|aI eA call15 (R9 hg) λv1 Fs1 hw=>?_;obtain⟨x1,x2,x3,x4,e9,o3,o4⟩:=BH hw;subst e9;refine(de)<|(bO)<|aH Fs1 [] ?_;exact⟨⟨_,hw,O⟩,O⟩
end Go.Proofs
namespace Go.Proofs
open Tryz
open Go.V Go.Edges
variable {Pl:List (List Pt)->Prop} {gs:List GM} {p:Option Addr} {cp:Nat} {a:Addr}
theorem YB (hPb:∀lss,Pl lss->lss.length<=1048576) (hD:∀u:Value,u.oneCell'=true->ai prog 142 [gv (.gc gs) u,gv (.gc []) .nilIface].toArray [aE (.gc gs) u,aO 1 0 [iH a]] [] (FP Pl)):
  ai prog 19 [qW p gs.length cp].toArray [dA p gs cp,aO 1 0 [iH a]] [] (On Pl):=by
 refine am func19 λ_=>(wL) ?_;intro r2;refine(cF)<|aI eA call64 (Hp (p:=p) (gs:=gs) (cp:=cp)) λv1 Fs1 ⟨p3,c3,e7,e8⟩=>?_;subst e7;subst e8;refine(aq) ?_;intro r4;refine(wO)<|aI eA call53 (Au (gs:=gs)) λv1 Fs1 ⟨u,e7,e8⟩=>?_;subst e7;subst e8;refine dP (φ:=u.oneCell'=true) (λhp al=>dE (al (aE (.gc gs) u) mA)) λhu=>?_;have hU:=YC hPb hu (hD u hu);refine aI eA call65 (hU) λv1 Fs1 ⟨lss,w,hl,e1,e2⟩=>?_;subst e1;subst e2;refine dP (φ:=w.oneCell'=true) (λhp al=>dE (al (aE (hZ lss) w) mA)) λhw=>(kR)<|(kR)<|(de)<|(bO)<|aH [aE (hZ lss) w] [] ?_;exact⟨⟨lss,w,hl,O,O⟩,O⟩
end Go.Proofs
namespace Go.Proofs
open Go.V Go.Edges
variable {S:List (List Pt×Bool)} {d:DS} {xs X:List Pt} {Pr:Pt->Prop}
theorem agF (h:tV d xs):Inv [] d:=by
 have nh:∀k r,(k,r)∉d.hs:=λk r hm=>by rw[h.hs] at hm;cases hm
 have nM:∀p v,(p,v)∈d.vs->d.M v=[]:=λp v hv=>by obtain⟨_,_,e⟩:=h.rec_ p v hv;exact e
 refine⟨by rw[h.hs];exact .nil,by rw[h.hs];exact .nil,λk r hh=>absurd hh (nh k r),λk r hh=>absurd hh (nh k r),λk r hh=>absurd hh (nh k r),λk r hh=>absurd hh (nh k r),λp v hv r hr=>?_,λp v hv=>?_,λs b hs=>(nomatch hs),λk r hh=>absurd hh (nh k r),λp v hv ha=>?_,λk r hh=>absurd hh (nh k r),λp v hv=>?_⟩
 ·rw[nM p v hv] at hr;cases hr
 ·rw[nM p v hv];exact .nil
 ·obtain⟨im,e,_⟩:=h.rec_ p v hv;rw[e] at ha;cases ha
 ·obtain⟨im,e,_⟩:=h.rec_ p v hv;rw[e];exact⟨rfl,rfl,rfl⟩
theorem Yf (h:tV d xs) (hp:xs.Perm X) (hn:∀x∈X,b6 x):CC d.vs X:=by
 have hk:∀e∈d.vs,e.1∈X:=λe he=>hp.mem_iff.1 (by rw[<-h.keys];exact aM.2 ⟨e,he,rfl⟩);refine⟨λe he=>hn _ (hk e he),hn,λx hx=>?_⟩;have hm:x∈d.vs.map (·.1):=by rw[h.keys];exact hp.mem_iff.2 hx
 cases hv:lW d.vs x with
 |some v=>exact⟨v,rfl⟩
 |none=>
  obtain⟨e,he,rfl⟩:=aM.1 hm;simp only[lW,PQ,zQ,decide_eq_true_eq] at hv;exact absurd O (hv e he)
structure Oj (Pr:Pt->Prop):Prop where
 sub:∀a b,Pr a->Pr b->∃u,jE b a=some u
 rad:∀a b c e u v,Pr a->Pr b->Pr c->Pr e->jE b a=some u->jE e c=some v->Oi u v
theorem Yd (hN:Oj Pr) (hi:Inv S d) (hS:∀s b,(s,b)∈S->2<=s.length/\∀x∈s,Pr x) (hlen:∀p v,(p,v)∈d.vs->(d.M v).length<=4294967295):IK d:=by
 have sq:∀k e,(k,e)∈d.hs->2<=(d.E e).sq.l.length/\∀x∈(d.E e).sq.l,Pr x:=λk e he=>by
  obtain⟨s,b,hs,h|h⟩:=hi.src k e he
  ·rw[h];exact hS s b hs
  ·rw[h];obtain⟨h1,h2⟩:=hS s b hs;exact⟨by simpa using h1,λx hx=>h2 x (List.mem_reverse.1 hx)⟩
 have two:∀k e,(k,e)∈d.hs->∃a b u,(d.E e).sq.l[0]? =some a/\(d.E e).sq.l[1]? =some b/\jE b a=some u/\Pr a/\Pr b:=λk e he=>by
  obtain⟨h1,h2⟩:=sq k e he;have ha:(d.E e).sq.l[0]? =some ((d.E e).sq.l[0]'aa):=aG aa;have hb:(d.E e).sq.l[1]? =some ((d.E e).sq.l[1]'aa):=aG aa;have pa:=h2 _ (bn ha);have pb:=h2 _ (bn hb);obtain⟨u,hu⟩:=hN.sub _ _ pa pb;exact⟨_,_,u,ha,hb,hu,pa,pb⟩
 refine⟨λp v hv=>⟨λe he=>?_,λe he=>?_,λe he f hf=>?_⟩,λp v hv e he=>?_,hlen⟩
 ·obtain⟨k,hk,_⟩:=hi.inc p v hv e he;exact⟨k,hk⟩
 ·obtain⟨k,hk,_⟩:=hi.inc p v hv e he;obtain⟨a,b,u,h1,h2,h3,_⟩:=two k e hk;exact⟨a,b,u,h1,h2,h3⟩
 ·obtain⟨k,hk,_⟩:=hi.inc p v hv e he;obtain⟨k',hk',_⟩:=hi.inc p v hv f hf;obtain⟨a,b,u,h1,h2,h3,pa,pb⟩:=two k e hk;obtain⟨a',b',u',h1',h2',h3',pa',pb'⟩:=two k' f hk';rw[Ip h1 h2 h3,Ip h1' h2' h3'];exact hN.rad _ _ _ _ _ _ pa pb pa' pb' h3 h3'
 ·obtain⟨k,hk,_⟩:=hi.inc p v hv e he;obtain⟨kt,t,mt,t1,_⟩:=hi.tw k e hk;exact⟨t,kt,t1,mt⟩
theorem ai2 {d':DS} {l:List Nat} (hi:Inv S d) (h:uu d l d') (hp:l.Perm (d.vs.map (·.2))) (hn:(d.vs.map (·.2)).Nodup):vb d'/\Inv S d':=by
 have hs:=h.same;refine⟨YL (MT hi hs) λp v hv=>?_,MT hi hs⟩;rw[hs.vs] at hv;refine ai3 h hi (λv hv=>?_) (hp.nodup_iff.2 hn) [] (λv hv=>(nomatch hv)) (λv hv=>(nomatch hv)) (λv hv=>(nomatch hv)) v (.inr (hp.mem_iff.2 (aM.2 ⟨_,hv,O⟩)));obtain⟨e,he,rfl⟩:=aM.1 (hp.mem_iff.1 hv);exact⟨e.1,he⟩
end Go.Proofs
namespace Go.Proofs
open Tryz
open Go.V Go.Edges
variable {g1:GM} {u1:Value} {a:Addr} {Q:GM->List (List Pt)->Prop} {Pr:Pt->Prop} {Pl:List (List Pt)->Prop}
structure Fj (Pr:Pt->Prop) (k1:GM) (ms:List (List Pt)):Prop where
 nn:∀l∈k1.lines++ms,yc l
 two:∀l∈k1.lines++ms,∀a b,[a,b]<:+:l->a≠b
 pr:∀l∈k1.lines++ms,∀x∈l,Pr x
 big:∀l∈k1.lines++ms,l.length<=1099511627776
 pts:(fH [k1,.gc [],.mls ms]).length<=1099511627776
theorem yF {k1:GM} {ms:List (List Pt)}:ck [k1,.gc [],.mls ms]=k1.lines++ms:=by simp[ck,GM.lines]
theorem ae3 {gs:List GM} (h:∀l∈ck gs,yc l):∀x∈qe gs,b6 x:=(EK (ck gs) ⟨[],[]⟩ ⟨(λ_ h=>nomatch h),(λ_ h=>nomatch h)⟩ h).X
theorem S7 {vs:List (Pt×Nat)} {gs:List GM} {l:List Pt} (hl:l∈ck gs) (hn:yc l) (hb:l.length<=1099511627776):wU vs (qe gs) l:=by
 have hs:=MW db (ck gs) ⟨[],[]⟩ l hl;refine⟨hn.1,aa,hn.2,λx hx=>hs.ends x (.inl ?_),λx hx=>hs.ends x (.inr ?_)⟩
 ·rw[Kf];exact hx
 ·rw[F5];exact hx
theorem P1 {Pr:Pt->Prop} {k1:GM} {ms:List (List Pt)} (q:Fj Pr k1 ms):kP (k1.lines++ms) (·∈qe [k1,.gc [],.mls ms]):=by
 have:=XZ (can:=db) Wt (lines:=k1.lines++ms) (st:=jC db ⟨[],[]⟩ (ck [k1,.gc [],.mls ms])) (λl hl=>MW db _ _ l (by rw[yF];exact hl)) q.two;exact this
theorem Ye {d:DS} {L:List ae} (h:(ids L).Nodup) (hs:d.LL.Sublist L):(d.vs.map (·.2)).Nodup:=by
 have h1:(vB d.V d.vs).Sublist d.LL:= .cons _ (.cons _ (.cons _ (tm _ _)));have h2:(ids (vB d.V d.vs)).Sublist (ids L):=(h1.trans hs).map _;have h3:=h.sublist h2;have e:ids (vB d.V d.vs)=d.vs.map (·.2):=by simp[ids,vB]
 rw[e] at h3;exact h3
theorem aeY {S:List (List Pt×Bool)} {d:DS} (hi:Inv S d) {p:Pt} {v:Nat} (hv:(p,v)∈d.vs):(d.M v).length<=d.hs.length:=by
 have h1:=tj (hi.mn p v hv) (l₂:=d.hs.map (·.2)) (λr hr=>by
  obtain⟨k,hk,_⟩:=hi.inc p v hv r hr;exact aM.2 ⟨(k,r),hk,O⟩)
 rwa [cP] at h1
abbrev W1 (Q:GM->List (List Pt)->Prop):cZ:=λv Fs' L'=>(∃(k1:GM) (w1 w2:Value) (p3:Option Addr) (ms:List (List Pt)) (cp3:Nat),Q k1 ms/\v= .tuple #[gv k1 w1,gv (.gc []) w2,jb p3 ms cp3]/\Fs'=[aE k1 w1,aE (.gc []) w2,bQ p3 ms cp3])/\L'=[]
theorem aj7 (o1:u1.oneCell'=true) (h1:∀l∈g1.lines,l≠[]) (hb:g1.lines.length<=1048576)
  (hRe:∀p ls cp,Fg (g1.lines.map j9++(GM.gc []).lines.map j9) ls->ai prog 151 [gv g1 u1,gv (.gc []) .nilIface,jb p ls cp].toArray [aE g1 u1,aE (.gc []) .nilIface,bQ p ls cp,aO 1 0 [iH a]] [] (W1 Q))
  (hQ:∀k1 ms,Q k1 ms->Fj Pr k1 ms) (hN:Oj Pr) (hXb:∀k1 ms,Q k1 ms->(qe [k1,.gc [],.mls ms]).length<=4294967295)
  (hJ:∀k1 ms X (d1 d2 d3 d4:DS) xs,Q k1 ms->X=qe [k1,.gc [],.mls ms]->xs.Perm X->tV d1 xs->kY false X d1 ms d2->kY true X d2 k1.lines d3->kY true X d3 [] d4->
   ∃S,Inv S d4/\(∀s b,(s,b)∈S->2<=s.length/\∀x∈s,Pr x)/\(∀(d6 D D':DS) (es:List Nat) (qs:List Sq),Inv S d6->zy d6 D->pV D D' (List.range D.hs.length) es->qs.Perm (oy D es)->(∀l∈qs.map (·.l),sU l)/\Pl (qs.map (·.l)))/\
    d4.hs.length<=4294967295):
  ai prog 142 [gv g1 u1,gv (.gc []) .nilIface].toArray [aE g1 u1,aO 1 0 [iH a]] [] (FP Pl):=by
 refine nT (aE (.gc []) .nilIface) (λhp al=> .gc0) ?_;refine am func142 λ_=>(au) ?_;intro r2;refine(cg) ?_;intro r3;refine(bt)<|(gM)<|aI eA call150 (ais (a:=a) (g1:=g1) (g2:= .gc []) (u1:=u1) (u2:= .nilIface) h1 (λl hl=>(nomatch hl)) (by simp[GM.lines,ck];omega)) λv1 Fs1 ⟨p,ls,cp,hT,e1,e2⟩=>?_;subst e1;subst e2;refine(aq) ?_;intro r5;refine(Jo)<|aI eA call151 (hRe p ls cp hT) λv2 Fs2 ⟨k1,w1,w2,p3,ms,cp3,hq,e1,e2⟩=>?_;subst e1;subst e2;have hqo:=hQ k1 ms hq;obtain⟨qn,q2,qp,qb,qt⟩:=hqo;refine dP (φ:=w1.oneCell'=true/\w2.oneCell'=true) (λhp al=>⟨dE (al (aE k1 w1) mA),dE (al (aE (.gc []) w2) mA)⟩) λ⟨o3,o4⟩=>?_;refine(CW)<|(kR)<|(de)<|(de)<|(dS) ?_;refine cz cw 6 [3,4,5] []<|(Xx)<|(Xx)<|(Xx)<|(dT)<|aI eA call49 (yD (p:=p3) (lss:=ms) (cp:=cp3)) λv3 Fs3 ⟨w3,e1,e2⟩=>?_;subst e1;subst e2;refine(dU)<|(eD) ?_;intro b23;refine(dU) ?_;have hs8:aJ 61 2 (.slice (some ⟨b23,0,none⟩) 3 3) 3 ([(k1,w1),(GM.gc [],w2),(GM.mls ms,w3)].flatMap dz) [(b23,.cells ([(k1,w1),(GM.gc [],w2),(GM.mls ms,w3)].flatMap dz).toArray 61 (0,0))]:=⟨rfl,.inr ⟨b23,3,_,rfl,rfl,bg _,by decide,rfl,rfl⟩⟩;refine xJ hs8 tA ?_;refine cL (dA (some ⟨b23,0,none⟩) [k1,.gc [],.mls ms] 3) (λhp al=>Qx (al _ (.head _)) (al (aE k1 w1) mA) (al (aE (.gc []) w2) mA) (al (aE (.mls ms) w3) mA)) ?_;refine aS eA call152 (ajb (p:=some ⟨b23,0,none⟩) (gs:=[k1,.gc [],.mls ms]) (cp:=3) (λl hl=>qn l (by simpa[ck,GM.lines] using hl)) aa) λv4 Fs4 L4 ⟨rx,e1,e2,e3⟩=>?_;subst e1;subst e2;subst e3;refine ahS (r:=rx) (kvs:=fV (qe [k1,.gc [],.mls ms])) tA<|(iy)<|(fo)<|aS eA call153 (aeJ) λv5 Fs5 L5 ⟨dr,hm,vm,e1,e2,e3⟩=>?_;subst e1;subst e2;subst e3;obtain⟨d0,hd0⟩:∃d,d=DS.mk (.slice none 0 0) dr hm vm [] [] (λ_=>NJ) (λ_=>NI) (λ_=>[]):=⟨_,rfl⟩;have hV0:tV d0 []:=by{subst hd0;exact⟨rfl,rfl,λ_ _ h=>nomatch h⟩}
 have hdr0:d0.dr=dr:=by{subst hd0;rfl}
 rw[<-hd0];obtain⟨X,hX⟩:∃X,X=qe [k1,.gc [],.mls ms]:=⟨_,rfl⟩;have hXn:X.Nodup:=hX▸SV _;have hXnn:∀x∈X,b6 x:=hX▸ae3 (λl hl=>qn l (by rw[<-yF];exact hl));have hLn:∀(vs:List (Pt×Nat)) l,l∈k1.lines++ms->wU vs X l:=λvs l hl=>hX▸S7 (by rw[yF];exact hl) (qn l hl) (qb l hl);have hXl:X.length<=4294967295:=hX▸hXb k1 ms hq;rw[<-hX];refine(iz)<|aS eA call154 (alo (d:=d0) (dr:=dr) (X:=X) (rx:=rx) hdr0 hV0 hXn hXnn aa) λv6 Fs6 L6 ⟨d1,xs,⟨hp1,hV1⟩,⟨hdr1,hfc1⟩,e1,e2,e3⟩=>?_;subst e1;subst e2;subst e3;have hVO:=Yf hV1 hp1 hXnn;have hS1:ko dr d1.vs d1:=⟨hdr1,rfl,λe he=>by{rw[hV1.hs] at he;cases he},λp v hv r hr=>by{obtain⟨_,_,e⟩:=hV1.rec_ p v hv;rw[e] at hr;cases hr}⟩;refine cL (bN d1) (λhp al=>λx hx=>by{rw[hV1.hs] at hx;cases hx})<|(qC)<|(lQ)<|(aB)<|aS eA call155 (air (p:=p3) (lss:=ms) (cp:=cp3) (rx:=rx) (dr:=dr) hVO hS1 (λl hl=>hLn d1.vs l (bI _ hl))) λv7 Fs7 L7 ⟨d2,⟨hA2,hS2⟩,e1,e2,e3⟩=>?_;subst e1;subst e2;subst e3;refine(qC)<|(lQ)<|(aB)<|aS eA call156 (WU (rx:=rx) (dr:=dr) hVO (SizeOf.sizeOf k1) k1 w1 d2 (bg _) (λl hl=>hLn d1.vs l (bq _ hl)) hS2) λv7 Fs7 L7 ⟨d3,⟨hA3,hS3⟩,e1,e2,e3⟩=>?_;subst e1;subst e2;subst e3;refine(qC)<|(lQ)<|(aB)<|aS eA call156 (alu (rx:=rx) (dr:=dr) (v:=w2) (o:=1) (X:=X) (vs:=d1.vs) hS3) λv7 Fs7 L7 ⟨d4,⟨hA4,hS4⟩,e1,e2,e3⟩=>?_;subst e1;subst e2;subst e3;obtain⟨S,hi4,hS2l,hSp,hhs⟩:=hJ k1 ms X d1 d2 d3 d4 xs hq hX hp1 hV1 hA2 hA3 hA4;refine Nc ?_;intro hnd;have hnd2:=Ye (d:=d4) hnd (sT);have hvl:d4.vs.length=X.length:=by{rw[hS4.vs];have h1:=congrArg List.length hV1.keys;rw[cP] at h1;rw[h1];exact hp1.length_eq}
 have hcnt:(∀p v,(p,v)∈d4.vs->(d4.M v).length<=4294967295)/\(d4.vs.map (·.2)).Nodup/\d4.vs.length<=4294967295/\d4.hs.length<=4294967295:=⟨λp v hv=>tc (aeY hi4 hv) hhs,hnd2,by{rw[hvl];exact hXl},hhs⟩;have hvt:=Yd hN hi4 hS2l hcnt.1;have hvn:(d4.vs.map (·.2)).Nodup:=hcnt.2.1;refine(qC)<|aS eA call157 (ai5 (d:=d4) (dr:=dr) hvt hS4.dr (by have:=hcnt.2.2.1;omega)) λv7 Fs7 L7 ⟨d5,fl,hF5,hfp,e1,e2,e3⟩=>?_;subst e1;subst e2;subst e3;obtain⟨hT5,hi5⟩:=ai2 hi4 hF5 hfp hvn;have hs5:=hF5.same;refine(qC)<|aS eA call158 (ala (d:=d5) (dr:=dr) hT5 (by rw[hs5.dr];exact hS4.dr) (by rw[hs5.hs];have:=hcnt.2.2.2;omega)) λv7 Fs7 L7 ⟨d6,p6,fs,c6,hs6,hF6,e1,e2,e3⟩=>?_;subst e1;subst e2;subst e3;have hi6:=agE hi5 hs6;have hT6:=YK hs6 hT5;have hdr6:d6.dr=dr:=by rw[hs6.dr,hs5.dr];exact hS4.dr
 have hv6:d6.vs=d4.vs:=by rw[hs6.vs,hs5.vs]
 have hh6:d6.hs=d4.hs:=by rw[hs6.hs,hs5.hs]
 refine(qC)<|aS eA call159 (adB (d:=d6) (dr:=dr) hi6 hT6 hF6 (by rw[hv6];exact hvn) hdr6 (by rw[hh6];have:=hcnt.2.2.2;omega) (by rw[hv6];have:=hcnt.2.2.1;omega)) λv7 Fs7 L7 ⟨D,hL,e1,e2,e3⟩=>?_;subst e1;subst e2;subst e3;have hsD:=hL.same;refine(qC)<|(bO)<|aH [bN D,wh p6 fs c6,gR fs] D.LL ?_;exact⟨D,fs,p6,c6,by{rw[hsD.dr,hdr6];rfl},G2 hi6 hT6 hF6 hL,Yh hi6 hL,by{rw[hsD.fc];exact hF6.fc},⟨hF6.len,by{rw[hsD.hs,hh6];have:=hcnt.2.2.2;omega},by{rw[hsD.vs,hv6];have:=hcnt.2.2.1;omega}⟩,λD' es qs hE hqs=>hSp d6 D D' es qs hi6 hL hE hqs,O,O⟩
end Go.Proofs
namespace Go.Proofs
open Go.V Go.Edges
variable {Pr:Pt->Prop} {k1:GM} {ms:List (List Pt)} {X:List Pt} {d1 d2 d3 d4 d:DS} {xs:List Pt} {b:Bool}
theorem afr {d':DS} (h:kY b X d [] d'):d'=d:=by
 generalize e:([]:List (List Pt))=ls at h;cases h with
 |nil=>rfl
 |snoc _ _=>simp at e
theorem agl (q:Fj Pr k1 ms) (hX:X=qe [k1,.gc [],.mls ms]) (hV1:tV d1 xs) (hA2:kY false X d1 ms d2) (hA3:kY true X d2 k1.lines d3) (hA4:kY true X d3 [] d4):
  ∃T1 T2:List (List Pt),Inv (T1.map (λt=>(t,false))++T2.map (λt=>(t,true))) d4/\(∀t∈T1++T2,dR (k1.lines++ms) (·∈X) t)/\T2.flatMap aD=k1.lines.flatMap aD/\T1.flatMap aD=ms.flatMap aD:=by
 subst hX;have ok:=P1 q;have hLn:∀l,l∈k1.lines++ms->wU d1.vs (qe [k1,.gc [],.mls ms]) l:=λl hl=>S7 (by rw[yF];exact hl) (q.nn l hl) (q.big l hl);obtain⟨T1,i1,r1,p1⟩:=S9 ok hA2 (λl hl=>bI _ hl) (λl hl=>hLn l (bI _ hl)) (agF hV1) (λs c h=>(nomatch h));rw[j6] at i1;have rs:∀s c,(s,c)∈T1.map (λt=>(t,false))->dR (k1.lines++ms) (·∈qe [k1,.gc [],.mls ms]) s:=λs c h=>by
  obtain⟨t,ht,e⟩:=aM.1 h;cases e;exact r1 _ ht
 obtain⟨T2,i2,r2,p2⟩:=S9 ok hA3 (λl hl=>bq _ hl) (λl hl=>hLn l (bq _ hl)) i1 rs;have e4:=afr hA4;subst e4;exact⟨T1,T2,i2,λt ht=>(bB.1 ht).elim (r1 t) (r2 t),p2,p1⟩
theorem acU (ok:kP (k1.lines++ms) (·∈X)) (q:Fj Pr k1 ms) {t:List Pt} (h:dR (k1.lines++ms) (·∈X) t):sU t/\2<=t.length/\∀x∈t,Pr x:=by
 obtain⟨a,m,z,e,_⟩:=DT.1 h.from_;obtain⟨l,hl,hi⟩:=h.way;have hsub:∀x∈t,x∈l:=λx hx=>by
  rcases hi with hi|hi
  ·exact hi.subset hx
  ·exact Do.1 (hi.subset hx)
 have hlen:2<=t.length:=by rw[e];simp
 refine⟨⟨λx hx=>(q.nn l hl).2 x (hsub x hx),?_⟩,hlen,λx hx=>q.pr l hl x (hsub x hx)⟩
 match t,hlen,h with
 |a::b::t,_,h=>
  have hw:Go.Edges.Way (k1.lines++ms) [a,b]:=h.way.sub ⟨[],t,by simp⟩;exact⟨a,b,O,O,P8 ok hw⟩
end Go.Proofs
namespace Go.Proofs
open Go.V Go.Edges
variable {lines:List (List Pt)} {X:List Pt} {S:List (List Pt×Bool)} {d D D':DS} {es:List Nat} {qs:List Sq}
theorem abw (ok:kP lines (·∈X)) (hS:∀s b,(s,b)∈S->dR lines (·∈X) s) (hi:Inv S d) (hL:zy d D) (hE:pV D D' (List.range D.hs.length) es) (hq:qs.Perm (oy D es)):
  Oe S (qs.map (·.l))/\∀t∈qs.map (·.l),dR lines (·∈X) t:=by
 have runs:∀k r,(k,r)∈d.hs->dR lines (·∈X) (d.E r).sq.l:=λk r h=>by
  obtain⟨s,b,hs,e|e⟩:=hi.src k r h
  ·rw[e];exact hS s b hs
  ·rw[e];exact(hS s b hs).rev
 have hT:=abx hi hL hE hq (λs b hs k e he hk _ _=> .inl (by
  have h1:=hi.key k e he;rw[hk] at h1;exact Tx ok (runs k e he) (hS s b hs) h1))
 refine⟨hT,λt ht=>?_⟩;obtain⟨s,hs,e|e⟩:=hT.src t ht
 ·rw[e];exact hS s true hs
 ·rw[e];exact(hS s true hs).rev
theorem abv {T1 T2 T:List (List Pt)} {ls:List (List Pt)} (ok:kP lines (·∈X)) (hT:Oe (T1.map (λt=>(t,false))++T2.map (λt=>(t,true))) T) (hr:∀t∈T,dR lines (·∈X) t) (h2:T2.flatMap aD=ls.flatMap aD):
  (T.flatMap aD).Pairwise (λp q=>p≠q/\p≠(q.2,q.1))/\(∀p∈T.flatMap aD,p∈ls.flatMap aD\/(p.2,p.1)∈ls.flatMap aD)/\(∀p∈ls.flatMap aD,p∈T.flatMap aD\/(p.2,p.1)∈T.flatMap aD):=by
 have mS:∀s,(s,true)∈T1.map (λt=>(t,false))++T2.map (λt=>(t,true))↔s∈T2:=λs=>by simp
 refine⟨Om.nodup ok ⟨hr,hT.apart⟩,λp hp=>?_,λp hp=>?_⟩
 ·obtain⟨t,ht,hpt⟩:=mO.1 hp;obtain⟨s,hs,e⟩:=hT.src t ht;have hs2:=(mS s).1 hs;rw[<-h2];rcases e with e|e
  ·subst e;exact .inl (mO.2 ⟨_,hs2,hpt⟩)
  ·subst e;obtain⟨a,b⟩:=p;exact .inr (mO.2 ⟨s,hs2,Ex.1 hpt⟩)
 ·rw[<-h2] at hp;obtain⟨s,hs,hps⟩:=mO.1 hp;rcases hT.all s ((mS s).2 hs) with h|h
  ·exact .inl (mO.2 ⟨s,h,hps⟩)
  ·obtain⟨a,b⟩:=p;exact .inr (mO.2 ⟨_,h,Ex.2 hps⟩)
end Go.Proofs
namespace Go.Proofs
open Tryz
open Go.V Go.Edges
variable {lss:List (List Pt)} {p:Option Addr} {cp:Nat}
theorem aiq (h0:0<lss.length):Np lss=hZ lss:=by
 match lss,h0 with
 |[l],_=>rfl
 |a::b::l,_=>rfl
theorem ahi (hg:lx lss) (h0:0<lss.length):ai prog 7 [xG 3 p lss cp].toArray [nj p lss cp] [] (λv Fs' L'=>tY lss v Fs'/\L'=[]):=by
 have hB:∀v:Value,ai prog 17 [.agg #[iv 3,v]].toArray [wi lss v] [] (rR (hZ lss)):=λv=>by
  rw[<-aiq h0];exact aiE
 refine am func7 λ_=>(au) ?_;intro _;refine(aq) ?_;intro _;refine(eZ)<|(gq)<|aI eA call16 (aiz hg h0) λv1 Fs1 ⟨u,e1,e2⟩=>?_;subst e1;subst e2;refine aI eA call17 (hB u) λv1 Fs1 ⟨w,e1,e2⟩=>?_;subst e1;subst e2;refine aI eA call15 (R9 hg) λv2 Fs2 hw=>?_;obtain⟨x1,x2,x3,x4,e9,o3,o4⟩:=BH hw;subst e9;refine(eF)<|aH Fs2 [] ?_;exact⟨hw,O⟩
end Go.Proofs
namespace Go.Proofs
open Tryz
open Go.V Go.Edges
structure IG where
 ls:List (List Pt)
 a:Int
 b:Int
 p3:Value
 p4:Value
abbrev IG.cells (x:IG):List Value:=[iv x.a,iv x.b,x.p3,x.p4]
abbrev IG.v (x:IG):Value:= .agg #[iv x.a,iv x.b,x.p3,x.p4]
def wj (x:IG):an where
 p h:=∃F,tY x.ls x.v F/\cr F h
 mono:=λhle ⟨F,h1,h2⟩=>⟨F,h1,h2.mono hle⟩
def Cp (p:Option Addr) (xs:List IG) (cp:Nat):an where
 p h:=(bF 4 (.slice p xs.length cp) xs.length (xs.flatMap IG.cells)).p h/\∀x∈xs,(wj x).p h
 mono:=λhle ⟨h1,h2⟩=>⟨(bF _ _ _ _).mono hle h1,λx hx=>an.mono _ hle (h2 x hx)⟩
theorem ahj {x:IG} {h:PH} (k:(wj x).p h):x.p3.oneCell'=true/\x.p4.oneCell'=true:=by
 obtain⟨F,h1,_⟩:=k;obtain⟨a,b,p3,p4,e,h3,h4⟩:=BH h1;simp only[F6] at e;have e2:x.p3=p3/\x.p4=p4:=by simpa using(show _/\_/\_/\_ by simpa using e).2.2
 rw[e2.1,e2.2];exact⟨h3,h4⟩
theorem aiD {x:IG} (hg:lx x.ls):ai prog 16 [x.v].toArray [wj x] [] (rR (hZ x.ls)):=λh w sa al=>by
 obtain⟨F,h1,h2⟩:=al (wj x) (.head _);exact UW hg h1 h w sa h2
variable {p:Option Addr} {cp:Nat} {xs:List IG}
abbrev ql (xs:List IG):List GM:=xs.map λx=>hZ x.ls
theorem aiv (hg:∀x∈xs,lx x.ls) (hb:xs.length<=1048576):ai prog 20 [.slice p xs.length cp].toArray [Cp p xs cp] [] (λv Fs' L'=>(∃p' cp',v=qW p' (ql xs).length cp'/\Fs'=[dA p' (ql xs) cp'])/\L'=[]):=by
 refine nT (bF 4 (.slice p xs.length cp) xs.length (xs.flatMap IG.cells)) (λhp al=>(al (Cp p xs cp) (.head _)).1) ?_;refine am func20 λ_=>(Jl)<|(dH) ?_;refine pk (e:=61) (size:=2) ab O O O O O O nA O O O (bg _) O (by show xs.length*24<=_;omega) O λv0 B0 hs=>?_;rw[rX (F:=dz) (zl:=[.int .i64 0,.nilIface]) (k:=2) (GM.gc [],.nilIface) rfl rfl bz] at hs;obtain⟨p0,cap,e0⟩:=hs.shape;subst e0;refine(nu)<|aU [(4,5),(11,21)] (λ(x:Nat×List ae×List (GM×Value))=>x.1<=xs.length/\x.2.2.length=xs.length/\(x.2.2.take x.1).map (·.1)=ql (xs.take x.1)/\aJ 61 2 (.slice p0 xs.length cap) xs.length (x.2.2.flatMap dz) x.2.1) (λx=>[(11,iv x.1)]) (λx=>(x.2.2.take x.1).map (λx=>aE x.1 x.2)) (λx=>x.2.1) (λx=>xs.length-x.1) ((0,B0,List.replicate xs.length (GM.gc [],.nilIface))) (⟨bf _,by simp,rfl,hs⟩) λ⟨i,B1,ws⟩ fr ⟨hi,hwl,hag,hs1⟩=>?_;dsimp only at hi hwl hag hs1;refine(cM)<|ao ?_ ?_
 ·intro hc12;have hlt:i<xs.length:=by have:=of_decide_eq_true hc12;dsimp only at this;omega
  obtain⟨x,hxi⟩:∃x,xs[i]? =some x:=⟨_,aG hlt⟩;obtain⟨w0,hwi⟩:∃w0,ws[i]? =some w0:=⟨_,aG aa⟩;obtain⟨g,cap',cur,e5,rfl,hc1,hc2,hc3,hc4⟩:=hs1.one aa;cases e5;have hxm:=bn hxi;refine cI (wj x) (λhp al=>(al (Cp p xs cp) mA).2 x hxm) ?_;refine UG (φ:=x.p3.oneCell'=true/\x.p4.oneCell'=true) (λhp al=>ahj (al (wj x) mA)) λ⟨hx3,hx4⟩=>?_;refine(rK) ?_;refine cU (size:=4) (i:=i) ab O O O O O aa mA aa (flat_take (F:=IG.cells) (λ_ _=>O) hxi) O λ_ _=>?_;refine aK ab O O O (aR (xs:=IG.cells x) mA) O O<|(aq) ?_;intro r5;refine(gb)<|(cu)<|(cO)<|(gq)<|aI eA call16 (aiD (x:=x) (hg x hxm)) λv1 Fs1 ⟨u,e1,e2⟩=>?_;subst e1;subst e2;refine dP (φ:=u.oneCell'=true) (λhp al=>dE (al (aE (hZ x.ls) u) (.head _))) λhu=>?_;refine bp (s:=2) (i:=i) ab O O O O O aa aa O ?_;refine uQ (i:=i) (size:=2) (vs:=dz (hZ x.ls,u)) ab O hs1 O O O O O (by simp[dz,gN,hu]) hlt (λ_=>uA) λcur2 hs2=>?_;rw[tI (F:=dz) (hZ x.ls,u) (λ_ _=>rfl) hwi] at hs2;refine(rM) ?_;exact⟨(i+1,_,ws.set i (hZ x.ls,u)),oA,⟨oA,by simpa using hwl,by dsimp only;rw[Gz aa,dX,hag,dO hxi];simp[ql],hs2⟩,lA,kA,BR mA sA,hA⟩
 ·intro hc12;have hge:i=xs.length:=by have:=of_decide_eq_false hc12;dsimp only at this;omega
  have hti:ws.take i=ws:=eQ aa;have hws:ws.map (·.1)=ql xs:=by rw[hti] at hag;rw[hag,hge,dg]
  have hol:(ql xs).length=xs.length:=cP _;refine(jh) ?_;refine eN hs1 tA ?_;refine cI (dA p0 (ql xs) cap) (λhp al=>⟨ws,⟨hws,by rw[hol];exact hb⟩,by have h0:=al _ (Bh _);rw[<-hol] at h0;exact h0,λy hy=>al (aE y.1 y.2) (.tail _ (bq _ (aM.2 ⟨y,by dsimp only;rw[hti];exact hy,O⟩)))⟩)<|(aY)<|(bO)<|aH [dA p0 (ql xs) cap] [] ?_;exact⟨⟨p0,cap,by rw[hol];rfl,O⟩,O⟩
end Go.Proofs
namespace Go.Proofs
open Tryz
open Go.V Go.Edges
variable {p:Option Addr} {cp:Nat} {xs:List IG} {a:Addr} {Pl:List (List Pt)->Prop}
theorem ahh (hg:∀x∈xs,lx x.ls) (hb:xs.length<=1048576) (hPl:∀lss,Pl lss->lx lss)
  (hD:∀u:Value,u.oneCell'=true->ai prog 142 [gv (.gc (ql xs)) u,gv (.gc []) .nilIface].toArray [aE (.gc (ql xs)) u,aO 1 0 [iH a]] [] (FP Pl)):
  ai prog 8 [.slice p xs.length cp].toArray [Cp p xs cp,aO 1 0 [iH a]] [] (λv Fs' L'=>(∃lss w,Pl lss/\tY lss w Fs'/\v= .tuple #[w,.bool true])/\L'=[]):=by
 refine am func8 λ_=>(wL) ?_;intro r2;refine(cF)<|aI eA call20 (aiv hg hb) λv1 Fs1 ⟨p3,c3,e1,e2⟩=>?_;subst e1;subst e2;refine aI eA call19 (YB (λlss h=>(hPl lss h).1) (a:=a) (p:=p3) (gs:=ql xs) (cp:=c3) hD) λv2 Fs2 ⟨lss,u,⟨hln,hpl⟩,e1,e2⟩=>?_;subst e1;subst e2;refine dP (φ:=u.oneCell'=true) (λhp al=>dE (al (aE (hZ lss) u) mA)) λhu=>(kR)<|(kR)<|aI eA call18 (adc (hPl lss hpl)) λv3 Fs3 ⟨w,hw,e1⟩=>?_;subst e1;obtain⟨x1,x2,x3,x4,e9,o3,o4⟩:=BH hw;subst e9;refine(kR)<|(kR)<|(de)<|(bO)<|aH Fs3 [] ?_;exact⟨⟨lss,_,hpl,hw,O⟩,O⟩
end Go.Proofs
namespace Go.Proofs
open Tryz
open Go.V Go.Tiles
variable {w h n k cp:Nat} {p:Option Addr}
abbrev E9 (w n:Nat):Value:= .agg #[iv (dQ w n 0).1,iv (dQ w n 0).2,iv (dQ w n 1).1,iv (dQ w n 1).2,iv (mid w n).1,iv (mid w n).2]
theorem HQ {P:Program} {c:bC} {n:Nat} {ops:Array Oper} {Fs:List an} {L:List ae} {f:Fm} {Q:bG} {rest:List Oper} {d:Nat} {ty:TypeId} {ps:String} {aft:Array Edge} {x y:Operand} {a b:Int} {i m r:Nat} (hx:ap f x= .b (.int .i64 a)) (hy:ap f y= .b (.int .i64 b)) (ha:a=i) (hb:b=m) (h0:0<m) (hr:i%m=r) (hd:Nat.blt d n=true) {T:TypeId} {T2:TypeId}
  (k:ak P c n ops Fs L (aT f d (.int .i64 ((r:Nat):Int))) rest Q):ak P c n ops Fs L f (⟨some d,.binOp .rem T x y T2,ty,ps,aft,none⟩::rest) Q:=by subst hr;exact uR hx hy ha hb h0 hd k
theorem Wc (hw:1<=w/\w<=5) (hn:n<=100):ai prog 11 [Bw w h p k cp,iv n].toArray [] [] (Is (E9 w n)):=by
 have hd:n/4/w<=n/4:=Nat.div_le_self _ _;have hm:n/4%w<w:=nI _ aa;obtain⟨x,hx⟩:∃x,x=n/4%w:=⟨_,rfl⟩;obtain⟨y,hy⟩:∃x,x=n/4/w:=⟨_,rfl⟩;have hs:n%4<4:=nI _ aa;refine am func11 λ_=>(au) ?_;intro _;refine(aq) ?_;intro _;refine(cn) ?_;rcases(show n%4=0\/n%4=1\/n%4=2\/n%4=3 by omega) with h9|h9|h9|h9
 ·refine(aY) ?_;refine HQ (i:=n) (m:=4) (r:=0) O O O O aa h9 O<|(aB) ?_;refine pj (m:=((n/4:Nat):Int)) O O aa aa aa ⟨aa,aa⟩ O ?_;refine(ue) ?_;refine ac O (uR (i:=n/4) (m:=w) O O O O aa O) ?_;refine ac O (iM (m:=((2*(n/4%w):Nat):Int)) O O aa ⟨aa,aa⟩ O)<|(bh)<|(iS) ?_;refine ac O (pj (m:=((n/4/w:Nat):Int)) O O aa aa dK ⟨aa,aa⟩ O) ?_;refine ac O (iM (m:=((2*(n/4/w):Nat):Int)) O O aa ⟨aa,aa⟩ O)<|(Jf) ?_;intro r9;refine(dS)<|(Jt)<|(bh)<|(Xp)<|(vr)<|(wN)<|(CN)<|(Xo)<|(pM) ?_;exact⟨⟨by simp[bw,E9,dQ,Cw,mid,h9],rfl⟩,O⟩
 ·refine(aY) ?_;refine HQ (i:=n) (m:=4) (r:=1) O O O O aa h9 O<|(aB) ?_;refine pj (m:=((n/4:Nat):Int)) O O aa aa aa ⟨aa,aa⟩ O ?_;refine(ue) ?_;refine ac O (uR (i:=n/4) (m:=w) O O O O aa O) ?_;refine ac O (iM (m:=((2*(n/4%w):Nat):Int)) O O aa ⟨aa,aa⟩ O)<|(bh)<|(iS) ?_;refine ac O (pj (m:=((n/4/w:Nat):Int)) O O aa aa dK ⟨aa,aa⟩ O) ?_;refine ac O (iM (m:=((2*(n/4/w):Nat):Int)) O O aa ⟨aa,aa⟩ O)<|(Jf) ?_;intro r9;refine(dS)<|(Jt)<|(bh)<|(Xo)<|(vr)<|(wN)<|(CN)<|(Xn)<|(pM) ?_;exact⟨⟨by simp[bw,E9,dQ,Cw,mid,h9],rfl⟩,O⟩
 ·refine(aY) ?_;refine HQ (i:=n) (m:=4) (r:=2) O O O O aa h9 O<|(aB) ?_;refine pj (m:=((n/4:Nat):Int)) O O aa aa aa ⟨aa,aa⟩ O ?_;refine(ue) ?_;refine ac O (uR (i:=n/4) (m:=w) O O O O aa O) ?_;refine ac O (iM (m:=((2*(n/4%w):Nat):Int)) O O aa ⟨aa,aa⟩ O)<|(bh)<|(iS) ?_;refine ac O (pj (m:=((n/4/w:Nat):Int)) O O aa aa dK ⟨aa,aa⟩ O) ?_;refine ac O (iM (m:=((2*(n/4/w):Nat):Int)) O O aa ⟨aa,aa⟩ O)<|(Jf) ?_;intro r9;refine(dS)<|(Jt)<|(bh)<|(Xn)<|(vr)<|(wN)<|(CN)<|(Xm)<|(pM) ?_;exact⟨⟨by simp[bw,E9,dQ,Cw,mid,h9],rfl⟩,O⟩
 ·refine(aY) ?_;refine HQ (i:=n) (m:=4) (r:=3) O O O O aa h9 O<|(aB) ?_;refine pj (m:=((n/4:Nat):Int)) O O aa aa aa ⟨aa,aa⟩ O ?_;refine(ue) ?_;refine ac O (uR (i:=n/4) (m:=w) O O O O aa O) ?_;refine ac O (iM (m:=((2*(n/4%w):Nat):Int)) O O aa ⟨aa,aa⟩ O)<|(bh)<|(iS) ?_;refine ac O (pj (m:=((n/4/w:Nat):Int)) O O aa aa dK ⟨aa,aa⟩ O) ?_;refine ac O (iM (m:=((2*(n/4/w):Nat):Int)) O O aa ⟨aa,aa⟩ O)<|(Jf) ?_;intro r9;refine(dS)<|(Jt)<|(bh)<|(Xm)<|(vr)<|(wN)<|(CN)<|(Xp)<|(pM) ?_;exact⟨⟨by simp[bw,E9,dQ,Cw,mid,h9],rfl⟩,O⟩
end Go.Proofs
