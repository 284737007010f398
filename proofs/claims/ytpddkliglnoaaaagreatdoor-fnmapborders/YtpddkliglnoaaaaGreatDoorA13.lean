/- Part 13 of the proof that FnMapBorders returns true for every input that its row lets in. No further condition. -/
import Derived.Test.YtpddkliglnoaaaaGreatDoorA12
set_option linter.all false
set_option autoImplicit true
set_option relaxedAutoImplicit true
namespace Go.Proofs
open Go.V Go.Flt Go.Tiles
variable {x y:Nat} {i j n e f g:Int} {a b c d p q:Pt} {A B C D P Q:IP}
def cm (P:IP):Int:=11*P.1+P.2
theorem BV (gA:gd A) (gB:gd B):uO A B↔cm A<cm B:=by
 obtain⟨a1,a2,a3,a4⟩:=gA;obtain⟨b1,b2,b3,b4⟩:=gB;unfold uO cm;omega
theorem Tt (gA:gd A) (gB:gd B) (h:A≠B):cm A≠cm B:=by
 obtain⟨a1,a2,a3,a4⟩:=gA;obtain⟨b1,b2,b3,b4⟩:=gB;intro e;unfold cm at e;exact h (mN aa aa)
theorem Sk (h:bY (bc B A) (bc P A)=0) (hne:A≠B):∃s:Rat,((P.1-A.1:Int):Rat)=s*((B.1-A.1:Int):Rat)/\((P.2-A.2:Int):Rat)=s*((B.2-A.2:Int):Rat):=by
 have h':(B.1-A.1)*(P.2-A.2)=(B.2-A.2)*(P.1-A.1):=by unfold bY bc at h;dsimp only at h;omega
 have hr:((B.1-A.1:Int):Rat)*((P.2-A.2:Int):Rat)=((B.2-A.2:Int):Rat)*((P.1-A.1:Int):Rat):=by rw[<-qM,<-qM,h']
 have z:∀{k:Int},k≠0->(k:Rat)≠0:=λhk h=>hk (uI.1 h);by_cases h1:B.1-A.1=0
 ·have h2:B.2-A.2≠0:=λh2=>hne (mN aa aa);refine⟨((P.2-A.2:Int):Rat)/((B.2-A.2:Int):Rat),?_,(oV (z h2)).symm⟩;rw[h1] at hr ⊢;have e0:((0:Int):Rat)=0:=rfl;rw[e0] at hr ⊢;rw[Rat.zero_mul] at hr;rw[Rat.mul_zero];rcases Ga.1 hr.symm with h|h
  ·exact absurd h (z h2)
  ·exact h
 ·refine⟨((P.1-A.1:Int):Rat)/((B.1-A.1:Int):Rat),(oV (z h1)).symm,?_⟩;have hd:=oV (a:=((P.1-A.1:Int):Rat)) (z h1);generalize ((P.1-A.1:Int):Rat)/((B.1-A.1:Int):Rat)=s at*;have:((B.1-A.1:Int):Rat)*(((P.2-A.2:Int):Rat)-s*((B.2-A.2:Int):Rat))=0:=by grind
  rcases Ga.1 this with h|h
  ·exact absurd h (z h1)
  ·grind
theorem Lf {s:Rat} {r u:Int} (hu:u≠0) (h:(r:Rat)=s*(u:Rat)) (hb:(0<u/\0<=r/\r<=u)\/(u<0/\u<=r/\r<=0)):0<=s/\s<=1:=by
 obtain⟨h1,h2,h3⟩:=Ri hb;have hu':(u:Rat)≠0:=λh'=>hu (uI.1 h');have:s=(r:Rat)/(u:Rat):=by
  rw[h];exact(FT hu').symm
 rw[this];exact⟨h1,h2⟩
theorem IB (h:bY (bc B A) (bc P A)=0) (hne:A≠B) (hb:pu A B P):mv A B P:=by
 obtain⟨s,h1,h2⟩:=Sk h hne;unfold pu at hb;by_cases h0:B.1-A.1=0
 ·have h2':B.2-A.2≠0:=λh2=>hne (mN aa aa);obtain⟨k1,k2⟩:=Lf h2' h2 aa;exact⟨s,k1,k2,h1,h2⟩
 ·obtain⟨k1,k2⟩:=Lf h0 h1 aa;exact⟨s,k1,k2,h1,h2⟩
theorem Gy (h:mv A B P):min (cm A) (cm B)<=cm P/\cm P<=max (cm A) (cm B):=by
 obtain⟨s,h0,h1,h2,h3⟩:=h;have e:((cm P-cm A:Int):Rat)=s*((cm B-cm A:Int):Rat):=by
  have e1:cm P-cm A=11*(P.1-A.1)+(P.2-A.2):=by unfold cm;omega
  have e2:cm B-cm A=11*(B.1-A.1)+(B.2-A.2):=by unfold cm;omega
  rw[e1,e2];simp only[ou,qM,h2,h3];grind
 rcases JX (cm A) (cm B) with h|h
 ·have k:(0:Rat)<=((cm B-cm A:Int):Rat):=by have:((0:Int):Rat)<=((cm B-cm A:Int):Rat):=fF.2 aa;exact this
  have c1:((0:Int):Rat)<=((cm P-cm A:Int):Rat):=by rw[e];exact cj h0 k
  have c2:((cm P-cm A:Int):Rat)<=((cm B-cm A:Int):Rat):=by rw[e];have:=gg h1 k;grind
  have c1':=fF.1 c1;have c2':=fF.1 c2;omega
 ·have k:(0:Rat)<=((cm A-cm B:Int):Rat):=by have:((0:Int):Rat)<=((cm A-cm B:Int):Rat):=fF.2 aa;exact this
  have e':((cm A-cm P:Int):Rat)=s*((cm A-cm B:Int):Rat):=by
   simp only[DA] at e ⊢;grind
  have c1:((0:Int):Rat)<=((cm A-cm P:Int):Rat):=by rw[e'];exact cj h0 k
  have c2:((cm A-cm P:Int):Rat)<=((cm A-cm B:Int):Rat):=by rw[e'];have:=gg h1 k;grind
  have c1':=fF.1 c1;have c2':=fF.1 c2;omega
theorem Ts (h:bY (bc B A) (bc P A)=0) (hne:A≠B) (gA:gd A) (gB:gd B) (hk:min (cm A) (cm B)<=cm P/\cm P<=max (cm A) (cm B)):mv A B P:=by
 obtain⟨s,h2,h3⟩:=Sk h hne;have e:((cm P-cm A:Int):Rat)=s*((cm B-cm A:Int):Rat):=by
  have e1:cm P-cm A=11*(P.1-A.1)+(P.2-A.2):=by unfold cm;omega
  have e2:cm B-cm A=11*(B.1-A.1)+(B.2-A.2):=by unfold cm;omega
  rw[e1,e2];simp only[ou,qM,h2,h3];grind
 have:=Tt gA gB hne;obtain⟨k1,k2⟩:=Lf aa e aa;exact⟨s,k1,k2,h2,h3⟩
noncomputable def MD (p:Pt):Int:=by classical exact if h:∃Q,At p Q then cm h.choose else 0
theorem sj (h:At p P):MD p=cm P:=by
 unfold MD;have hex:∃Q,At p Q:=⟨P,h⟩;rw[dif_pos hex];rw[At.uniq hex.choose_spec h]
inductive rC (a b c d:Pt) (A B C D:IP):Option (Pt×Pt)->Prop where
 |none:rC a b c d A B C D none
 |tch {p q:Pt} {P Q:IP}:p∈[a,b,c,d]->q∈[a,b,c,d]->At p P->At q Q->mv A B P->mv C D P->mv A B Q->mv C D Q->rC a b c d A B C D (some (p,q))
 |cross {p:Pt} {n e g:Int}:lS A B C D n e g->AO p (shr A B ((e:Rat)/(n:Rat)))->b6 p->rC a b c d A B C D (some (p,p))
theorem yJ (ha:At a A) (hb:At b B) (hc:At c C) (hd:At d D) (gA:gd A) (gB:gd B) (gC:gd C) (gD:gd D) (nAB:A≠B) (nCD:C≠D):
  ∃r,EJ a b c d=some r/\rC a b c d A B C D r:=by
 have w:∀{q:IP},gd q->od 100 q:=λh=>ak8 h.bd bz;have e1:=Hi ha hb hc (w gA) (w gB) (w gC);have e2:=Hi ha hb hd (w gA) (w gB) (w gD);have e3:=Hi hc hd ha (w gC) (w gD) (w gA);have e4:=Hi hc hd hb (w gC) (w gD) (w gB);unfold EJ;rw[e1,lh,e2,lh,e3,lh,e4,lh];have ma:a∈[a,b,c,d]:=by simp
 have mb:b∈[a,b,c,d]:=by simp
 have mc:c∈[a,b,c,d]:=by simp
 have md:d∈[a,b,c,d]:=by simp
 obtain⟨f,hf⟩:∃f,f=bY (bc B A) (bc D C):=⟨_,rfl⟩;obtain⟨e,he⟩:∃e,e=bY (bc D C) (bc A C):=⟨_,rfl⟩;obtain⟨g,hg⟩:∃g,g=bY (bc B A) (bc A C):=⟨_,rfl⟩;have hx:f*(A.1-C.1)+e*(B.1-A.1)=g*(D.1-C.1):=by rw[hf,he,hg];unfold bY bc;grind
 have hy:f*(A.2-C.2)+e*(B.2-A.2)=g*(D.2-C.2):=by rw[hf,he,hg];unfold bY bc;grind
 have o1:eT A B C=mq (-g):=by rw[hg];exact LM
 have o2:eT A B D=mq (f-g):=by rw[hg,hf];exact LK
 have o3:eT C D A=mq e:=by rw[he];exact LO
 have o4:eT C D B=mq (e-f):=by rw[he,hf];exact LN
 by_cases h:eT A B C≠eT A B D/\eT C D A≠eT C D B
 ·rw[if_pos h];obtain⟨h12,h34⟩:=h;have bx:=Wk (e:=e) (f:=f) (by rw[<-o3,<-o4];exact h34);have by':(0<f/\0<=g/\g<=f)\/(f<0/\f<=g/\g<=0):=by
   have:=Wk (e:= -g) (f:= -f) (by rw[<-o1,show -g- -f=f-g by omega,<-o2];exact h12);omega
  by_cases k1:eT A B C=2
  ·rw[if_pos k1];have g0:g=0:=by rw[o1] at k1;have:=Cx.1 k1;omega
   rw[g0] at hx hy;have t:mv A B C:=Gw (f:=f) (e:=e) bx df df;exact⟨_,O,.tch mc mc hc hc t Gx t Gx⟩
  rw[if_neg k1];by_cases k2:eT A B D=2
  ·rw[if_pos k2];have g0:g=f:=by rw[o2] at k2;have:=Cx.1 k2;omega
   rw[g0] at hx hy;have t:mv A B D:=Gw (f:=f) (e:=e) bx df df;exact⟨_,O,.tch md md hd hd t Gv t Gv⟩
  rw[if_neg k2];by_cases k3:eT C D A=2
  ·rw[if_pos k3];have g0:e=0:=by rw[o3] at k3;have:=Cx.1 k3;omega
   rw[g0] at hx hy;have t:mv C D A:=Gw (f:=f) (e:=g) by' df df;exact⟨_,O,.tch ma ma ha ha Gx t Gx t⟩
  rw[if_neg k3];by_cases k4:eT C D B=2
  ·rw[if_pos k4];have g0:e=f:=by rw[o4] at k4;have:=Cx.1 k4;omega
   rw[g0] at hx hy;have t:mv C D B:=Gw (f:=f) (e:=g) by' df df;exact⟨_,O,.tch mb mb hb hb Gv t Gv t⟩
  rw[if_neg k4];obtain⟨p,n,e',g',h5,h6,h7,h8⟩:=akj ha hb hc hd gA gB gC gD h12 h34 k1 k2 k3 k4;rw[h5];exact⟨_,O,.cross h6 h7 h8⟩
 ·rw[if_neg h];by_cases k:eT A B C=2/\eT A B D=2
  ·rw[if_pos k];obtain⟨k1,k2⟩:=k;have g0:g=0:=by rw[o1] at k1;have:=Cx.1 k1;omega
   have f0:f=0:=by rw[o2] at k2;have:=Cx.1 k2;omega
   have e0:e=0:=by
    rw[g0,f0] at hx hy;apply Kn;intro hne;have a1:e*(B.1-A.1)=0:=by omega
    have a2:e*(B.2-A.2)=0:=by omega
    rcases Int.mul_eq_zero.1 a1 with h|h
    ·exact hne h
    rcases Int.mul_eq_zero.1 a2 with h'|h'
    ·exact hne h'
    exact nAB (mN aa aa)
   have lC:bY (bc B A) (bc C A)=0:=by
    have:bY (bc B A) (bc C A)= -g:=by rw[hg];unfold bY bc;grind
    omega
   have lD:bY (bc B A) (bc D A)=0:=by
    have:bY (bc B A) (bc D A)=f-g:=by rw[hg,hf];unfold bY bc;grind
    omega
   have lA:bY (bc D C) (bc A C)=0:=by rw[<-he];exact e0
   have lB:bY (bc D C) (bc B C)=0:=by
    have:bY (bc D C) (bc B C)=e-f:=by rw[he,hf];unfold bY bc;grind
    omega
   have lAA:∀{X Y:IP},bY (bc X Y) (bc Y Y)=0:=by intro X Y;unfold bY bc;simp
   have lBB:∀{X Y:IP},bY (bc X Y) (bc X Y)=0:=by intro X Y;unfold bY bc;dsimp only;rw[J0];omega
   cases hap:yV a b c d with
   |true=>exact⟨_,rfl,.none⟩
   |false=>
    refine(oj) ?_;unfold yV at hap;rw[Hj ha hb hc,Hj ha hb hd,Hj hc hd ha,Hj hc hd hb] at hap;have hho:pu A B C\/pu A B D\/pu C D A\/pu C D B:=by
     by_cases q1:pu A B C
     ·exact .inl q1
     by_cases q2:pu A B D
     ·exact .inr (.inl q2)
     by_cases q3:pu C D A
     ·exact .inr (.inr (.inl q3))
     by_cases q4:pu C D B
     ·exact .inr (.inr (.inr q4))
     simp[q1,q2,q3,q4] at hap
    have at4:∀p∈[a,b,c,d],∃P,At p P/\gd P/\bY (bc B A) (bc P A)=0/\bY (bc D C) (bc P C)=0:=by
     intro p hp;simp only[bm,oY,or_false] at hp;rcases hp with rfl|rfl|rfl|rfl
     ·exact⟨A,ha,gA,lAA,lA⟩
     ·exact⟨B,hb,gB,lBB,lB⟩
     ·exact⟨C,hc,gC,lC,lAA⟩
     ·exact⟨D,hd,gD,lD,lBB⟩
    have hm:=ae0 (κ:=MD) (a:=a) (b:=b) (c:=c) (d:=d) (λp q hp hq=>by
      obtain⟨P,h1,h2,_⟩:=at4 p hp;obtain⟨Q,h3,h4,_⟩:=at4 q hq;rw[acX h1 h3,sj h1,sj h3];simp only[BV h4 h2]) (λp q hp hq=>by
      obtain⟨P,h1,h2,_⟩:=at4 p hp;obtain⟨Q,h3,h4,_⟩:=at4 q hq;rw[Mu h1 h3,sj h1,sj h3];simp only[BV h2 h4]) (by
      rw[sj ha,sj hb,sj hc,sj hd];rcases hho with h|h|h|h
      ·have:=Gy (IB lC nAB h);omega
      ·have:=Gy (IB lD nAB h);omega
      ·have:=Gy (IB lA nCD h);omega
      ·have:=Gy (IB lB nCD h);omega)
    rw[sj ha,sj hb,sj hc,sj hd] at hm;have tt:∀p,(p=(nU a b c d).1\/p=(nU a b c d).2)->p∈[a,b,c,d]/\∃P,At p P/\mv A B P/\mv C D P:=by
     intro p hp;obtain⟨h1,h2,h3⟩:=hm p hp;obtain⟨P,k1,k2,k3,k4⟩:=at4 p h1;rw[sj k1] at h2 h3;exact⟨h1,P,k1,Ts k3 nAB gA gB h2,Ts k4 nCD gC gD h3⟩
    obtain⟨m1,P,t1,t2,t3⟩:=tt _ (.inl rfl);obtain⟨m2,Q,t4,t5,t6⟩:=tt _ (.inr rfl);exact .tch m1 m2 t1 t4 t2 t3 t5 t6
  ·rw[if_neg k];exact⟨_,O,.none⟩
end Go.Proofs
namespace Go.Proofs
open Go.V Go.Flt Go.Tiles
variable {x y:Nat} {i j n e f g:Int} {a b c d p q:Pt} {A B C D P Q:IP} {r:Option (Pt×Pt)}
theorem aes (hn:0<n):((n-e:Int):Rat)/(n:Rat)=1-(e:Rat)/(n:Rat):=by
 have h0:(n:Rat)≠0:=λh=>by have:n=0:=uI.1 h;omega
 have h1:=oV (a:=(e:Rat)) h0;have h2:=oV (a:=((n-e:Int):Rat)) h0;rw[DA] at h2 ⊢;generalize (e:Rat)/(n:Rat)=s at*;generalize ((n:Rat)-(e:Rat))/(n:Rat)=t at*;have:(n:Rat)*(t-(1-s))=0:=by grind
 rcases Ga.1 this with h|h
 ·exact absurd h h0
 ·grind
theorem acq (hn:0<n):shr B A ((e:Rat)/(n:Rat))=shr A B (((n-e:Int):Rat)/(n:Rat)):=by
 rw[aes hn];generalize (e:Rat)/(n:Rat)=s;unfold shr;simp only[DA];refine mN ?_ ?_<;>(dsimp only;grind)
theorem lS.n0 (h:lS A B C D n e g):0<n:=by have:=h.e0;have:=h.e1;omega
theorem lS.flipL (h:lS B A C D n e g):lS A B C D n (n-e) g:=by
 obtain⟨h1,h2,h3,h4,h5,h6,h7⟩:=h;refine⟨aa,aa,h3,h4,?_,by grind,by grind⟩;rw[h5];have:bY (bc A B) (bc D C)= -bY (bc B A) (bc D C):=by unfold bY bc;grind
 rw[this,JR]
theorem lS.flipR (h:lS A B D C n e g):lS A B C D n e (n-g):=by
 obtain⟨h1,h2,h3,h4,h5,h6,h7⟩:=h;refine⟨h1,h2,aa,aa,?_,by grind,by grind⟩;rw[h5];have:bY (bc B A) (bc C D)= -bY (bc B A) (bc D C):=by unfold bY bc;grind
 rw[this,JR]
theorem lS.swap (h:lS C D A B n e g):lS A B C D n g e:=by
 obtain⟨h1,h2,h3,h4,h5,h6,h7⟩:=h;refine⟨h3,h4,h1,h2,?_,by grind,by grind⟩;rw[h5];have:bY (bc D C) (bc B A)= -bY (bc B A) (bc D C):=by unfold bY bc;grind
 rw[this,JR]
theorem lS.same (h:lS A B C D n e g):shr A B ((e:Rat)/(n:Rat))=shr C D ((g:Rat)/(n:Rat)):=by
 have hn:=h.n0;obtain⟨s1,s2⟩:=GP (A:=A) (B:=B) (e:=e) hn;obtain⟨t1,t2⟩:=GP (A:=C) (B:=D) (e:=g) hn;have h0:(0:Rat)<(n:Rat):=by have:((0:Int):Rat)<(n:Rat):=jP.2 hn;exact this
 have e1:n*A.1+e*(B.1-A.1)=n*C.1+g*(D.1-C.1):=by have:=h.x;grind
 have e2:n*A.2+e*(B.2-A.2)=n*C.2+g*(D.2-C.2):=by have:=h.y;grind
 refine mN ((xw h0).1 ?_) ((xw h0).1 ?_)
 ·rw[s1,t1,e1]
 ·rw[s2,t2,e2]
theorem rC.flipL (h:rC b a c d B A C D r):rC a b c d A B C D r:=by
 cases h with
 |none=>exact .none
 |tch h1 h2 h3 h4 h5 h6 h7 h8=>exact .tch (by simp only[bm,oY,or_false] at h1 ⊢;rcases h1 with h|h|h|h<;>simp[h]) (by simp only[bm,oY,or_false] at h2 ⊢;rcases h2 with h|h|h|h<;>simp[h]) h3 h4 h5.flip h6 h7.flip h8
 |cross h1 h2 h3=>exact .cross h1.flipL (by rw[<-acq h1.n0];exact h2) h3
theorem rC.flipR (h:rC a b d c A B D C r):rC a b c d A B C D r:=by
 cases h with
 |none=>exact .none
 |tch h1 h2 h3 h4 h5 h6 h7 h8=>exact .tch (by simp only[bm,oY,or_false] at h1 ⊢;rcases h1 with h|h|h|h<;>simp[h]) (by simp only[bm,oY,or_false] at h2 ⊢;rcases h2 with h|h|h|h<;>simp[h]) h3 h4 h5 h6.flip h7 h8.flip
 |cross h1 h2 h3=>exact .cross h1.flipR h2 h3
theorem rC.swap (h:rC c d a b C D A B r):rC a b c d A B C D r:=by
 cases h with
 |none=>exact .none
 |tch h1 h2 h3 h4 h5 h6 h7 h8=>exact .tch (by simp only[bm,oY,or_false] at h1 ⊢;rcases h1 with h|h|h|h<;>simp[h]) (by simp only[bm,oY,or_false] at h2 ⊢;rcases h2 with h|h|h|h<;>simp[h]) h3 h4 h6 h5 h8 h7
 |cross h1 h2 h3=>exact .cross h1.swap (by rw[<-h1.same];exact h2) h3
theorem QD (ha:At a A) (hb:At b B) (hc:At c C) (hd:At d D) (gA:gd A) (gB:gd B) (gC:gd C) (gD:gd D) (nAB:A≠B) (nCD:C≠D):
  ∃r,nR (a,b) (c,d)=some r/\rC a b c d A B C D r:=by
 have nBA:B≠A:=λh=>nAB h.symm;have nDC:D≠C:=λh=>nCD h.symm;unfold nR xT;have c1:lG (a,b)=(a,b)\/lG (a,b)=(b,a):=by unfold lG;cases jc (a,b).2 (a,b).1<;>simp
 have c2:lG (c,d)=(c,d)\/lG (c,d)=(d,c):=by unfold lG;cases jc (c,d).2 (c,d).1<;>simp
 rcases c1 with e1|e1<;>rcases c2 with e2|e2<;>rw[e1,e2]
 ·cases yH (a,b) (c,d)
  ·obtain⟨r,h1,h2⟩:=yJ hc hd ha hb gC gD gA gB nCD nAB;exact⟨r,h1,h2.swap⟩
  ·exact yJ ha hb hc hd gA gB gC gD nAB nCD
 ·cases yH (a,b) (d,c)
  ·obtain⟨r,h1,h2⟩:=yJ hd hc ha hb gD gC gA gB nDC nAB;exact⟨r,h1,h2.swap.flipR⟩
  ·obtain⟨r,h1,h2⟩:=yJ ha hb hd hc gA gB gD gC nAB nDC;exact⟨r,h1,h2.flipR⟩
 ·cases yH (b,a) (c,d)
  ·obtain⟨r,h1,h2⟩:=yJ hc hd hb ha gC gD gB gA nCD nBA;exact⟨r,h1,h2.swap.flipL⟩
  ·obtain⟨r,h1,h2⟩:=yJ hb ha hc hd gB gA gC gD nBA nCD;exact⟨r,h1,h2.flipL⟩
 ·cases yH (b,a) (d,c)
  ·obtain⟨r,h1,h2⟩:=yJ hd hc hb ha gD gC gB gA nDC nBA;exact⟨r,h1,h2.swap.flipL.flipR⟩
  ·obtain⟨r,h1,h2⟩:=yJ hb ha hd hc gB gA gD gC nBA nDC;exact⟨r,h1,h2.flipL.flipR⟩
theorem akS (ha:At a A) (hb:At b B) (h:A≠B) (gA:gd A) (gB:gd B):lG (b,a)=lG (a,b):=by
 unfold lG;dsimp only;rw[Mu ha hb,Mu hb ha];have:=Tt gA gB h;by_cases h1:uO A B
 ·have h2:¬uO B A:=by rw[BV gB gA];rw[BV gA gB] at h1;omega
  simp[h1,h2]
 ·have h2:uO B A:=by rw[BV gB gA];rw[BV gA gB] at h1;omega
  simp[h1,h2]
theorem abz (ha:At a A) (hb:At b B) (h:A≠B) (gA:gd A) (gB:gd B) (o:Pt×Pt):nR (b,a) o=nR (a,b) o:=by
 unfold nR xT;rw[akS ha hb h gA gB]
structure TE (A B:IP):Prop where
 gA:gd A
 gB:gd B
 pA:(A.1+A.2)%2=0
 pB:(B.1+B.2)%2=0
 dir:(B.1-A.1=2/\B.2-A.2=0)\/(B.1-A.1= -2/\B.2-A.2=0)\/(B.1-A.1=0/\B.2-A.2=2)\/(B.1-A.1=0/\B.2-A.2= -2)\/
  ((B.1-A.1=1\/B.1-A.1= -1)/\(B.2-A.2=1\/B.2-A.2= -1))
theorem TE.ne (h:TE A B):A≠B:=by rintro rfl;have:=h.dir;omega
theorem TE.flip (h:TE A B):TE B A:=⟨h.gB,h.gA,h.pB,h.pA,by have:=h.dir;omega⟩
theorem Rg {s:Rat} {r u:Int} (h0:0<=s) (h1:s<=1) (h:(r:Rat)=s*(u:Rat)):min 0 u<=r/\r<=max 0 u:=by
 rcases JX 0 u with hu|hu
 ·have k:(0:Rat)<=(u:Rat):=by have:((0:Int):Rat)<=(u:Rat):=fF.2 hu;exact this
  have c1:((0:Int):Rat)<=(r:Rat):=by rw[h];exact cj h0 k
  have c2:(r:Rat)<=(u:Rat):=by rw[h];have:=gg h1 k;grind
  have c1':=fF.1 c1;have c2':=fF.1 c2;omega
 ·have k:(0:Rat)<=((-u:Int):Rat):=by have:((0:Int):Rat)<=((-u:Int):Rat):=fF.2 aa;exact this
  have h':((-r:Int):Rat)=s*((-u:Int):Rat):=by simp only[w7];grind
  have c1:((0:Int):Rat)<=((-r:Int):Rat):=by rw[h'];exact cj h0 k
  have c2:((-r:Int):Rat)<=((-u:Int):Rat):=by rw[h'];have:=gg h1 k;grind
  have c1':=fF.1 c1;have c2':=fF.1 c2;omega
theorem Qz (h:TE A B) (hp:(P.1+P.2)%2=0) (ht:mv A B P):P=A\/P=B:=by
 obtain⟨s,h0,h1,h2,h3⟩:=ht;have k1:=Rg h0 h1 h2;have k2:=Rg h0 h1 h3;have d:=h.dir;have pa:=h.pA;have:(P.1=A.1/\P.2=A.2)\/(P.1=B.1/\P.2=B.2):=by omega
 rcases this with⟨a,b⟩|⟨a,b⟩
 ·exact .inl (mN a b)
 ·exact .inr (mN a b)
end Go.Proofs
namespace Go.Proofs
open Go.V Go.Flt Go.Tiles
variable {x y w:Nat} {i j n e f g:Int} {a b c d p q:Pt} {A B C D P Q:IP} {u v W:Rat}
structure nq (w:Nat) (W:Rat):Prop where
 val:FV w W
 lo:1/8796093022208<=W
 hi:W<=1/1099511627776
theorem VD (d:Ieee.Datum):FloatKind.f64.encode d=Ieee.double.write d:=rfl
theorem VT (x:Nat):FloatKind.f64.decode x=Ieee.double.read x:=rfl
theorem FV.notNaN (h:FV x u):Ieee.Datum.isNaN (FloatKind.f64.decode x)=false:=by
 obtain⟨_,s,m,e,h1,_⟩:=h;rw[VT,h1];rfl
theorem IC (hW:nq w W) (hx:FV x u) (h0: -1<=u) (h1:u<=16):∃b:Int,xU w x=some b/\(b:Rat)*W<=u+W*(1/8)/\u<(b:Rat)*W+W*(9/8)/\xB b:=by
 obtain⟨hw,lo,hi⟩:=hW;have hW0:0<W:=by
  have:(0:Rat)<1/8796093022208:=by decide+kernel
  grind
 have e53:=Hb;have key:∀q:Rat,q*W<=u+16*p2 (-53)->u<=q*W+16*p2 (-53)->q<281474976710656/\ -281474976710656<q/\q*W<=u+W*(1/16)/\u<=q*W+W*(1/16):=by
  intro q k1 k2;rw[e53] at k1 k2;have hs:(16:Rat)*(1/9007199254740992)<=W*(1/16):=by
   have:(16:Rat)*(1/9007199254740992)<=1/8796093022208*(1/16):=by decide+kernel
   grind
  have b1:(281474976710656:Rat)*(1/8796093022208)=32:=by decide+kernel
  have b2:(281474976710656:Rat)*(1/8796093022208)<=281474976710656*W:=by grind
  have s1:(16:Rat)*(1/9007199254740992)<=1:=by decide+kernel
  refine⟨?_,?_,by grind,by grind⟩
  ·refine(Eu hW0).1 ?_;grind
  ·refine(Eu hW0).1 ?_;grind
 obtain⟨r,q,z,h2,h3,h4,h5⟩:=VO hx hw (u:=16) (v:=1/8796093022208) (k:=48) h1 df (by decide+kernel) (.inl lo) (λq k1 k2=>by
  obtain⟨k3,k4,_,_⟩:=key q k1 k2;refine⟨⟨by decide,by decide⟩,?_,?_⟩<;>rw[aek]
  ·exact k3
  ·exact k4)
 obtain⟨k3,k4,k5,k6⟩:=key q h4 h5;have c1:=h3.up;have c2:=h3.dn;have e6:p2 (48-54)=1/64:=aej;rw[e6] at c1 c2;obtain⟨b,hb,b1,b2⟩:=DV.floor h3.val.dv;have hbb:b.natAbs<9007199254740992:=by
  have u1:(b:Rat)<((281474976710658:Int):Rat):=by
   have:((281474976710658:Int):Rat)=281474976710658:=rfl;rw[this];grind
  have u2:((-281474976710660:Int):Rat)<(b:Rat):=by
   have:((-281474976710660:Int):Rat)= -281474976710660:=rfl;rw[this];grind
  have u1':=jP.1 u1;have u2':=jP.1 u2;omega
 have hfl:FV (Cj r) (b:Rat):=by
  unfold Cj;rw[VD,VT];exact DI hb b 0 hbb bz bz (by rw[BJ,Dq])
 refine⟨b,?_,?_,?_,?_⟩
 ·unfold xU;have h2':fdiv x w=some r:=h2;rw[h2',lh,FV.notNaN h3.val];exact DV.toInt hfl.dv
 ·have m1:(b:Rat)*W<=(q+1/64)*W:=gg df (fT hW0);grind
 ·have m1:(q-1/64)*W<((b:Rat)+1)*W:=pZ df hW0;grind
 ·unfold xB;omega
structure eX (p:Pt):Prop where
 nn:b6 p
 x:∃u,FV p.1 u/\0<=u/\u<=11
 y:∃u,FV p.2 u/\0<=u/\u<=11
theorem WA (hW:nq w W) (h:eX p):Hk w p:=by
 obtain⟨⟨u,hu,u0,u1⟩,v,hv,v0,v1⟩:=And.intro h.x h.y;obtain⟨b1,e1,_,_,m1⟩:=IC hW hu df df;obtain⟨b2,e2,_,_,m2⟩:=IC hW hv df df;refine⟨(b1,b2),?_,m1,m2⟩;unfold kN;rw[e1,lh,e2];rfl
theorem WC {b:Bk} (h:kN w p=some b):xU w p.1=some b.1/\xU w p.2=some b.2:=by
 unfold kN at h;simp only[jO,xd] at h;obtain⟨b1,h1,b2,h2,rfl⟩:=h;exact⟨h1,h2⟩
theorem WD (hW:nq w W) (hx:FV x u) (hy:FV y v) (h0: -1<=u) (h1:u<=16) (h2: -1<=v) (h3:v<=16) {b b':Int} (hb:xU w x=some b) (hb':xU w y=some b'):
  (Abt (W*(1/2)) u v->b-1<=b'/\b'<=b+1)/\(b-1<=b'/\b'<=b+1->Abt (W*4) u v):=by
 obtain⟨c,e1,k1,k2,_⟩:=IC hW hx h0 h1;obtain⟨c',e2,k3,k4,_⟩:=IC hW hy h2 h3;rw[hb] at e1;cases e1;rw[hb'] at e2;cases e2;have hW0:0<W:=by
  have:(0:Rat)<1/8796093022208:=by decide+kernel
  have:=hW.lo;grind
 constructor
 ·rintro⟨a1,a2⟩;have m1:(b:Rat)*W<((b':Rat)+2)*W:=by grind
  have m2:(b':Rat)*W<((b:Rat)+2)*W:=by grind
  have n1:=(Eu hW0).1 m1;have n2:=(Eu hW0).1 m2;have i1:(b:Rat)<((b'+2:Int):Rat):=by rw[ou];exact n1
  have i2:(b':Rat)<((b+2:Int):Rat):=by rw[ou];exact n2
  have i1':=jP.1 i1;have i2':=jP.1 i2;omega
 ·rintro⟨a1,a2⟩;have i1:(b:Rat)<=((b'+1:Int):Rat):=fF.2 aa;have i2:(b':Rat)<=((b+1:Int):Rat):=fF.2 aa;rw[ou] at i1 i2;have m1:=gg i1 (fT hW0);have m2:=gg i2 (fT hW0);have e1:((1:Int):Rat)=1:=rfl;rw[e1] at m1 m2;constructor<;>grind
theorem SS {b b':Bk}:b'∈offs b↔(b.1-1<=b'.1/\b'.1<=b.1+1)/\b.2-1<=b'.2/\b'.2<=b.2+1:=by
 obtain⟨b1,b2⟩:=b;obtain⟨c1,c2⟩:=b';simp only[offs,bm,yg,oY,or_false];omega
theorem N4 (hW:nq w W) (hp:eX p) (hq:eX q) {b b':Bk} (hb:kN w p=some b) (hb':kN w q=some b') {ux uy vx vy:Rat} (h1:FV p.1 ux) (h2:FV p.2 uy) (h3:FV q.1 vx) (h4:FV q.2 vy):
  (Abt (W*(1/2)) ux vx->Abt (W*(1/2)) uy vy->b'∈offs b)/\(b'∈offs b->Abt (W*4) ux vx/\Abt (W*4) uy vy):=by
 obtain⟨p1,p2⟩:=WC hb;obtain⟨q1,q2⟩:=WC hb';obtain⟨u,hu,u0,u1⟩:=hp.x;obtain⟨u',hu',u0',u1'⟩:=hp.y;obtain⟨v,hv,v0,v1⟩:=hq.x;obtain⟨v',hv',v0',v1'⟩:=hq.y;cases FV.uniq hu h1;cases FV.uniq hu' h2;cases FV.uniq hv h3;cases FV.uniq hv' h4;have k1:=WD hW h1 h3 df df df df p1 q1;have k2:=WD hW h2 h4 df df df df p2 q2;refine⟨λa1 a2=>SS.2 ⟨k1.1 a1,k2.1 a2⟩,λh=>?_⟩;obtain⟨m1,m2⟩:=SS.1 h;exact⟨k1.2 m1,k2.2 m2⟩
end Go.Proofs
namespace Go.Proofs
open Go.V Go.Flt Go.Tiles
variable {x y w:Nat} {i j n e f g:Int} {a b c d p q:Pt} {A B C D P Q:IP} {u v W:Rat}
def fI (n:Int):Nat:=FloatKind.f64.nearest n
theorem If (h:n.natAbs<9007199254740992):FI (fI n) n:=by
 unfold fI FloatKind.nearest;rw[VD];refine DI (d:= .number (decide (n<0)) n.natAbs 0) (x:=(n:Rat)) ⟨_,_,_,O,?_⟩ n 0 h bz bz (by rw[BJ,Dq]);unfold dv sg;rw[BJ,Dq];by_cases h1:n<0
 ·simp only[h1,decide_true,if_true];have e1:n= -(n.natAbs:Int):=by omega
  conv=>lhs;rw[e1]
  rw[w7];show -(n.natAbs:Rat)=_;grind
 ·simp only[h1,decide_false,ld,if_false];have e1:n=(n.natAbs:Int):=by omega
  conv=>lhs;rw[e1]
  show(n.natAbs:Rat)=_;grind
def aA (P:IP):Pt:=(fI P.1,fI P.2)
def aZ (p:Pt):Prop:=∃P:IP,gd P/\(P.1+P.2)%2=0/\p=aA P
theorem hY (h:gd P):At (aA P) P:=⟨If (by have:=h.a;have:=h.b;omega),If (by have:=h.c;have:=h.d;omega)⟩
theorem Ig (h0:0<=n) (h1:n<=10):fI n<ju/\Ei (fI n):=by
 have:n=0\/n=1\/n=2\/n=3\/n=4\/n=5\/n=6\/n=7\/n=8\/n=9\/n=10:=by omega
 rcases this with rfl|rfl|rfl|rfl|rfl|rfl|rfl|rfl|rfl|rfl|rfl<;>(unfold Ei;decide+kernel)
theorem T3 (h0:0<=n) (h1:n<=10):(0:Rat)<=(n:Rat)/\(n:Rat)<=11:=by
 have a1:((0:Int):Rat)<=(n:Rat):=fF.2 h0;have a2:(n:Rat)<=((11:Int):Rat):=fF.2 aa;exact⟨a1,a2⟩
theorem nX (h:gd P):eX (aA P):=by
 have ha:=hY h;exact⟨⟨(Ig h.a h.b).1,(Ig h.c h.d).1⟩,⟨_,ha.x,T3 h.a h.b⟩,⟨_,ha.y,T3 h.c h.d⟩⟩
theorem V8 (hC:lS A B C D n e g) (gA:gd A) (gB:gd B) (gC:gd C) (gD:gd D) (hp:AO p (shr A B ((e:Rat)/(n:Rat)))) (hn:b6 p):eX p:=by
 obtain⟨n0,n200⟩:=V9 hC gA gB gC gD;obtain⟨p1,p2⟩:=V7 hC gA gB gC gD;obtain⟨s1,s2⟩:=GP (A:=A) (B:=B) (e:=e) n0;have l1:=H1 n0 n200 p1 s1;have l2:=H1 n0 n200 p2 s2;have n0':(0:Rat)<(n:Rat):=by have:((0:Int):Rat)<(n:Rat):=jP.2 n0;exact this
 have top:∀(X:Rat) (a b:Int),0<=a->a<=10->0<=b->b<=10->X*(n:Rat)=((n*a+e*(b-a):Int):Rat)->X<=10:=by
  intro X a b ha0 ha hb0 hb h;refine qL ?_ n0';rw[h];have e1:(10:Rat)*(n:Rat)=((10*n:Int):Rat):=by rw[qM];rfl
  rw[e1];refine fF.2 ?_;have m1:=F9 (show 0<=n-e by have:=hC.e1;omega) (show 0<=10-a by omega);have m2:=F9 (show 0<=e by have:=hC.e0;omega) (show 0<=10-b by omega);grind
 have t1:=top _ _ _ gA.a gA.b gB.a gB.b s1;have t2:=top _ _ _ gA.c gA.d gB.c gB.d s2;obtain⟨⟨u,hu,a1,a2⟩,v,hv,b1,b2⟩:=hp;exact⟨hn,⟨u,hu,by grind,by grind⟩,⟨v,hv,by grind,by grind⟩⟩
theorem aeA (ha:eX a) (hx:eX b):yy a b:=by
 obtain⟨u,hu,u0,u1⟩:=ha.x;obtain⟨u',hu',u0',u1'⟩:=ha.y;obtain⟨v,hv,v0,v1⟩:=hx.x;obtain⟨v',hv',v0',v1'⟩:=hx.y;have e1:p2 (4-54)=1/1125899906842624:=Hd;obtain⟨r1,z1,h1,k1⟩:=yp hv hu (k:=4) ⟨⟨by decide,by decide⟩,by rw[tB];grind,by rw[tB];grind⟩;obtain⟨r2,z2,h2,k2⟩:=yp hv' hu' (k:=4) ⟨⟨by decide,by decide⟩,by rw[tB];grind,by rw[tB];grind⟩;have a1:=k1.up;have a2:=k1.dn;have a3:=k2.up;have a4:=k2.dn;rw[e1] at a1 a2 a3 a4;have sq:∀z:Rat,z<=12-> -12<=z->0<=z*z/\z*z<=144:=by
  intro z h h';have m1:=cj (show 0<=12-z by grind) (show 0<=12+z by grind);constructor
  ·rcases PC (a:=0) (b:=z) with h0|h0
   ·exact cj h0 h0
   ·have:=cj (show 0<= -z by grind) (show 0<= -z by grind);grind
  ·grind
 have q1:=sq z1 df df;have q2:=sq z2 df df;have e9:=Sh;obtain⟨r3,z3,h3,k3⟩:=BP k1.val k1.val (k:=9) ⟨⟨by decide,by decide⟩,by rw[e9];grind,by rw[e9];grind⟩;obtain⟨r4,z4,h4,k4⟩:=BP k2.val k2.val (k:=9) ⟨⟨by decide,by decide⟩,by rw[e9];grind,by rw[e9];grind⟩;have e2:p2 (9-54)=1/35184372088832:=Sf;have a5:=k3.up;have a6:=k3.dn;have a7:=k4.up;have a8:=k4.dn;rw[e2] at a5 a6 a7 a8;obtain⟨r5,z5,h5,k5⟩:=CA k3.val k4.val (k:=9) ⟨⟨by decide,by decide⟩,by rw[e9];grind,by rw[e9];grind⟩;refine⟨r5,?_,FV.notNaN k5.val⟩;unfold AB jE mo;have h1':jd b.1 a.1=some r1:=h1;have h2':jd b.2 a.2=some r2:=h2;have h3':jm r1 r1=some r3:=h3;have h4':jm r2 r2=some r4:=h4;have h5':qm r3 r4=some r5:=h5;simp only[h1',h2',h3',h4',h5',lh]
theorem Mx (gA:gd A) (gB:gd B) (h:aV (aA A) (aA B)=false):A≠B:=by
 rw[NH (hY gA) (hY gB)] at h;simpa using h
def af3:List IP:=((List.range 121).filter λk=>(k/11+k%11)%2==0).map λ(k:Nat)=>(((k/11:Nat):Int),((k%11:Nat):Int))
def My:List Pt:=af3.map aA
theorem afZ (h:aZ p):p∈My:=by
 obtain⟨P,h1,h2,rfl⟩:=h;refine aM.2 ⟨P,?_,O⟩;obtain⟨a,b,c,d⟩:=h1;refine aM.2 ⟨P.1.toNat*11+P.2.toNat,uJ.2 ⟨nL.2 aa,?_⟩,?_⟩
 ·simp only[beq_iff_eq];omega
 ·refine mN ?_ ?_<;>dsimp only<;>omega
theorem Sn (hW:nq w W):wr w aZ eX where
 bk p h:=WA hW h
 lat p h:=by obtain⟨P,h1,_,rfl⟩:=h;exact nX h1
 sep p q b b' hp hq hb hb' hm:=by
  obtain⟨P,h1,_,rfl⟩:=hp;obtain⟨Q,h2,_,rfl⟩:=hq;have aP:=hY h1;have aQ:=hY h2;obtain⟨⟨k1,k2⟩,k3,k4⟩:=(N4 hW (nX h1) (nX h2) hb hb' aP.x aP.y aQ.x aQ.y).2 hm;have hi:=hW.hi;have small:(1:Rat)/1099511627776*4<1:=by decide+kernel
  have eqi:∀i j:Int,(i:Rat)<=(j:Rat)+W*4->(j:Rat)<=(i:Rat)+W*4->j=i:=by
   intro i j a b;have i1:(i:Rat)<((j+1:Int):Rat):=by rw[ou];have:((1:Int):Rat)=1:=rfl;rw[this];grind
   have i2:(j:Rat)<((i+1:Int):Rat):=by rw[ou];have:((1:Int):Rat)=1:=rfl;rw[this];grind
   have i1':=jP.1 i1;have i2':=jP.1 i2;omega
  have:Q=P:=mN (eqi _ _ k1 k2) (eqi _ _ k3 k4);rw[this]
 ll ln o h1 h2 h3 h4 hne hne':=by
  obtain⟨a,b⟩:=ln;obtain⟨c,d⟩:=o;obtain⟨A,gA,_,rfl⟩:=h1;obtain⟨B,gB,_,rfl⟩:=h2;obtain⟨C,gC,_,rfl⟩:=h3;obtain⟨D,gD,_,rfl⟩:=h4;obtain⟨r,k1,k2⟩:=QD (hY gA) (hY gB) (hY gC) (hY gD) gA gB gC gD (Mx gA gB hne) (Mx gC gD hne');refine⟨r,k1,λp q e=>?_⟩;subst e;have l4:∀p∈[aA A,aA B,aA C,aA D],eX p:=by
   intro p hp;simp only[bm,oY,or_false] at hp;rcases hp with rfl|rfl|rfl|rfl
   ·exact nX gA
   ·exact nX gB
   ·exact nX gC
   ·exact nX gD
  cases k2 with
  |tch m1 m2 _ _ _ _ _ _=>exact⟨l4 _ m1,l4 _ m2⟩
  |cross hC hN hn=>have:=V8 hC gA gB gC gD hN hn;exact⟨this,this⟩
 d2 a x ha hx:=aeA ha hx
 ulp p h:=by obtain⟨P,h1,_,rfl⟩:=h;exact⟨(Ig h1.a h1.b).2,(Ig h1.c h1.d).2⟩
 fin:=⟨My,by unfold My;rw[cP];decide+kernel,λp hp=>afZ hp⟩
theorem ado:Oj eX:=by
 have sub:∀a b,eX a->eX b->∃r z1 z2,jE b a=some r/\FV r.1 z1/\FV r.2 z2/\(-12<=z1/\z1<=12)/\ -12<=z2/\z2<=12:=by
  intro a b ha hb;obtain⟨u,hu,u0,u1⟩:=ha.x;obtain⟨u',hu',u0',u1'⟩:=ha.y;obtain⟨v,hv,v0,v1⟩:=hb.x;obtain⟨v',hv',v0',v1'⟩:=hb.y;have e1:p2 (4-54)=1/1125899906842624:=Hd;obtain⟨r1,z1,h1,k1⟩:=yp hv hu (k:=4) ⟨⟨by decide,by decide⟩,by rw[tB];grind,by rw[tB];grind⟩;obtain⟨r2,z2,h2,k2⟩:=yp hv' hu' (k:=4) ⟨⟨by decide,by decide⟩,by rw[tB];grind,by rw[tB];grind⟩;have a1:=k1.up;have a2:=k1.dn;have a3:=k2.up;have a4:=k2.dn;rw[e1] at a1 a2 a3 a4;refine⟨(r1,r2),z1,z2,?_,k1.val,k2.val,⟨by grind,by grind⟩,by grind,by grind⟩;unfold jE;have h1':jd b.1 a.1=some r1:=h1;have h2':jd b.2 a.2=some r2:=h2;simp only[h1',h2',lh]
 have pr:∀(y z:Rat),(-12<=y/\y<=12)->(-12<=z/\z<=12)->y*z<=144/\ -144<=y*z:=by
  intro y z ⟨h1,h2⟩ ⟨h3,h4⟩;have m1:=cj (show 0<=12-y by grind) (show 0<=12-z by grind);have m2:=cj (show 0<=12-y by grind) (show 0<=12+z by grind);have m3:=cj (show 0<=12+y by grind) (show 0<=12-z by grind);have m4:=cj (show 0<=12+y by grind) (show 0<=12+z by grind);constructor<;>grind
 have e9:=Sh;have e2:p2 (9-54)=1/35184372088832:=Sf;have mul:∀{x y:Nat} {u v:Rat},FV x u->FV y v->(-12<=u/\u<=12)->(-12<=v/\v<=12)->∃r z,jm x y=some r/\FV r z/\ -145<=z/\z<=145:=by
  intro x y u v hx hy h1 h2;obtain⟨m1,m2⟩:=pr u v h1 h2;obtain⟨r,z,k1,k2⟩:=BP hx hy (k:=9) ⟨⟨by decide,by decide⟩,by rw[e9];grind,by rw[e9];grind⟩;have a1:=k2.up;have a2:=k2.dn;rw[e2] at a1 a2;exact⟨r,z,k1,k2.val,by grind,by grind⟩
 have crs:∀(a b:Pt) {a1 a2 b1 b2:Rat},FV a.1 a1->FV a.2 a2->FV b.1 b1->FV b.2 b2->(-12<=a1/\a1<=12)->(-12<=a2/\a2<=12)->(-12<=b1/\b1<=12)->(-12<=b2/\b2<=12)->(∃x,uY a b=some x)/\∃x,mo a b=some x:=by
  intro a b a1 a2 b1 b2 h1 h2 h3 h4 k1 k2 k3 k4;constructor
  ·obtain⟨r1,z1,e1,f1,l1,m1⟩:=mul h1 h4 k1 k4;obtain⟨r2,z2,e2,f2,l2,m2⟩:=mul h2 h3 k2 k3;obtain⟨r3,z3,e3,_⟩:=yp f1 f2 (k:=9) ⟨⟨by decide,by decide⟩,by rw[e9];grind,by rw[e9];grind⟩;have e3':jd r1 r2=some r3:=e3;exact⟨r3,by unfold uY;simp only[e1,e2,e3',lh]⟩
  ·obtain⟨r1,z1,e1,f1,l1,m1⟩:=mul h1 h3 k1 k3;obtain⟨r2,z2,e2,f2,l2,m2⟩:=mul h2 h4 k2 k4;obtain⟨r3,z3,e3,_⟩:=CA f1 f2 (k:=9) ⟨⟨by decide,by decide⟩,by rw[e9];grind,by rw[e9];grind⟩;have e3':qm r1 r2=some r3:=e3;exact⟨r3,by unfold mo;simp only[e1,e2,e3',lh]⟩
 refine⟨λa b ha hb=>?_,λa b c e u v ha hb hc he hu hv=>?_⟩
 ·obtain⟨r,_,_,h,_⟩:=sub a b ha hb;exact⟨r,h⟩
 ·obtain⟨r,z1,z2,h1,f1,f2,k1,k2⟩:=sub a b ha hb;obtain⟨s,y1,y2,h2,f3,f4,k3,k4⟩:=sub c e hc he;rw[hu] at h1;cases h1;rw[hv] at h2;cases h2;exact⟨(crs u v f1 f2 f3 f4 k1 k2 k3 k4).1,(crs u u f1 f2 f1 f2 k1 k2 k1 k2).2,(crs v v f3 f4 f3 f4 k3 k4 k3 k4).2⟩
end Go.Proofs
namespace Go.Proofs
open Go.V Go.Flt Go.Tiles
variable {x y w:Nat} {i j n e f g K:Int} {a b c d p q:Pt} {A B C D P Q k k':IP} {u v W:Rat} {m:NM} {o:Ln}
def LL:Int:=232792560
def bP (A B:IP) (K:Int):IP:=(LL*A.1+K*(B.1-A.1),LL*A.2+K*(B.2-A.2))
structure dJ (p:Pt) (k:IP):Prop where
 node:eX p
 near:AO p ((k.1:Rat)/(LL:Rat),(k.2:Rat)/(LL:Rat))
theorem sY (i:Int):(i:Rat)/(LL:Rat)*232792560=(i:Rat):=by
 have:(LL:Rat)=232792560:=rfl;rw[this];exact oV (by decide+kernel)
theorem C9 {i j:Int} {ε:Rat} (h:Abt ε ((i:Rat)/(LL:Rat)) ((j:Rat)/(LL:Rat))) (hε:ε*232792560<1):i=j:=by
 obtain⟨h1,h2⟩:=h;have e1:=sY i;have e2:=sY j;generalize (i:Rat)/(LL:Rat)=u at*;generalize (j:Rat)/(LL:Rat)=v at*;have i1:(i:Rat)<((j+1:Int):Rat):=by
  rw[ou];have:((1:Int):Rat)=1:=rfl;rw[this,<-e1,<-e2];grind
 have i2:(j:Rat)<((i+1:Int):Rat):=by
  rw[ou];have:((1:Int):Rat)=1:=rfl;rw[this,<-e1,<-e2];grind
 have i1':=jP.1 i1;have i2':=jP.1 i2;omega
theorem wo {ε δ x y z:Rat} (h:Abt ε x y) (k:Abt δ y z):Abt (ε+δ) x z:=⟨by have:=h.1;have:=k.1;grind,by have:=h.2;have:=k.2;grind⟩
theorem _root_.Go.Flt.Abt.symm {ε x y:Rat} (h:Abt ε x y):Abt ε y x:=⟨h.2,h.1⟩
theorem _root_.Go.Flt.Abt.mono {ε δ x y:Rat} (h:Abt ε x y) (k:ε<=δ):Abt δ x y:=⟨by have:=h.1;grind,by have:=h.2;grind⟩
theorem pt (h:dJ p k) (h':dJ p k'):k=k':=by
 obtain⟨⟨u,hu,a⟩,v,hv,b⟩:=h.near;obtain⟨⟨u',hu',a'⟩,v',hv',b'⟩:=h'.near;cases FV.uniq hu hu';cases FV.uniq hv hv';exact mN (C9 (wo a.symm a') (by decide+kernel)) (C9 (wo b.symm b') (by decide+kernel))
theorem akp (hW:nq w W) {b b':Bk} (hb:kN w p=some b) (hb':kN w q=some b') (h:dJ p k) (h':dJ q k):b'∈offs b:=by
 obtain⟨⟨u,hu,a⟩,v,hv,c⟩:=h.near;obtain⟨⟨u',hu',a'⟩,v',hv',c'⟩:=h'.near;have hlo:=hW.lo;have small:(1/70368744177664+1/70368744177664:Rat)<=1/8796093022208*(1/2):=by decide+kernel
 exact(N4 hW h.node h'.node hb hb' hu hv hu' hv').1 ((wo a a'.symm).mono df) ((wo c c'.symm).mono df)
theorem akq (hW:nq w W) {b b':Bk} (hb:kN w p=some b) (hb':kN w q=some b') (h:dJ p k) (h':dJ q k') (hm:b'∈offs b):k=k':=by
 obtain⟨⟨u,hu,a⟩,v,hv,c⟩:=h.near;obtain⟨⟨u',hu',a'⟩,v',hv',c'⟩:=h'.near;obtain⟨k1,k2⟩:=(N4 hW h.node h'.node hb hb' hu hv hu' hv').2 hm;have hhi:=hW.hi;have small:((1/70368744177664+1/1099511627776*4)+1/70368744177664:Rat)*232792560<1:=by decide+kernel
 exact mN (C9 (wo (wo a.symm k1) a') df) (C9 (wo (wo c.symm k2) c') df)
structure nr (w:Nat) (m:NM):Prop where
 bk:∀e∈m,kN w e.2=some e.1
 cl:∀e∈m,∃k,dJ e.2 k
 un:∀e∈m,∀e'∈m,∀k,dJ e.2 k->dJ e'.2 k->e.2=e'.2
def lR (m:NM) (k:IP) (q:Pt):Prop:=∃e∈m,e.2=q/\dJ q k
theorem lR.uniq (hm:nr w m) (h:lR m k p) (h':lR m k q):p=q:=by
 obtain⟨e,he,rfl,hk⟩:=h;obtain⟨e',he',rfl,hk'⟩:=h';exact hm.un e he e' he' k hk hk'
theorem lR.mono {m':NM} (h:lR m k p) (hs:∀e∈m,e∈m'):lR m' k p:=by
 obtain⟨e,he,h1,h2⟩:=h;exact⟨e,hs e he,h1,h2⟩
theorem aeD {m:NM} {b:Bk} {q:Pt} (h:(b,q)∈m):∃q',qc m b=some q':=by
 unfold qc;cases hf:m.find? λe=>decide (e.1=b) with
 |some e=>exact⟨e.2,rfl⟩
 |none=>
  have:=zQ.1 hf _ h;simp at this
theorem ag6 (hW:nq w W) (hm:nr w m) (hp:dJ p k) {b:Bk} (hb:kN w p=some b):nr w (eM m b p).2/\lR (eM m b p).2 k (eM m b p).1/\∀e∈m,e∈(eM m b p).2:=by
 unfold eM;cases h:(offs b).findSome? (qc m) with
 |some q=>
  obtain⟨b',hb',hq⟩:=Ds h;have hmem:=LS hq;obtain⟨k',hk'⟩:=hm.cl _ hmem;have:=akq hW hb (hm.bk _ hmem) hp hk' hb';subst this;exact⟨hm,⟨_,hmem,O,hk'⟩,λe he=>he⟩
 |none=>
  have hno:∀e∈m,∀k',dJ e.2 k'->dJ p k'->False:=by
   intro e he k' h1 h2;have:=akp hW hb (hm.bk _ he) h2 h1;obtain⟨q',hq'⟩:=aeD (b:=e.1) (q:=e.2) he;have:=F7.1 h _ this;rw[hq'] at this;cases this
  refine⟨⟨λe he=>?_,λe he=>?_,λe he e' he' k' h1 h2=>?_⟩,⟨(b,p),by simp,rfl,hp⟩,λe he=>bq _ he⟩
  ·rcases bB.1 he with he|he
   ·exact hm.bk e he
   ·simp at he;subst he;exact hb
  ·rcases bB.1 he with he|he
   ·exact hm.cl e he
   ·simp at he;subst he;exact⟨k,hp⟩
  ·rcases bB.1 he with he|he<;>rcases bB.1 he' with he'|he'
   ·exact hm.un e he e' he' k' h1 h2
   ·simp at he';subst he';exact(hno e he k' h1 h2).elim
   ·simp at he;subst he;exact(hno e' he' k' h2 h1).elim
   ·simp at he he';subst he;subst he';rfl
theorem yI (h:gd P):dJ (aA P) (LL*P.1,LL*P.2):=by
 have ha:=hY h;have e:∀i:Int,((LL*i:Int):Rat)/(LL:Rat)=(i:Rat):=by
  intro i;have h1:=sY (LL*i);have h0:(232792560:Rat)≠0:=by decide+kernel
  have h2:((LL*i:Int):Rat)=232792560*(i:Rat):=by rw[qM];rfl
  rw[h2] at h1 ⊢;generalize 232792560*(i:Rat)/(LL:Rat)=s at*;have:232792560*(s-(i:Rat))=0:=by grind
  rcases Ga.1 this with h|h
  ·exact absurd h h0
  ·grind
 refine⟨nX h,⟨_,ha.x,?_⟩,_,ha.y,?_⟩<;>dsimp only<;>rw[e]<;>constructor<;>grind
theorem afa (h:sX w aZ m):nr w m:=by
 refine⟨λe he=>(h.1 e he).2,λe he=>?_,λe he e' he' k h1 h2=>?_⟩
 ·obtain⟨P,gP,_,h1⟩:=(h.1 e he).1;rw[h1];exact⟨_,yI gP⟩
 ·obtain⟨P,gP,_,e1⟩:=(h.1 e he).1;obtain⟨Q,gQ,_,e2⟩:=(h.1 e' he').1;rw[e1] at h1 ⊢;rw[e2] at h2 ⊢;have k1:=pt h1 (yI gP);have k2:=pt h2 (yI gQ);rw[k1,yg] at k2;unfold LL at k2;have:P=Q:=mN aa aa;rw[this]
end Go.Proofs
namespace Go.Proofs
open Go.V Go.Flt Go.Tiles
variable {x y w:Nat} {i j n e f g K K':Int} {a b c d p q:Pt} {A B C D P Q k k':IP} {u v W:Rat} {m:NM} {o:Ln} {cs:List Pt}
structure qJ (A B:IP) (o:Ln) (K:Int) (p:Pt):Prop where
 sym:nR (aA A,aA B) o=some (some (p,p))
 cls:dJ p (bP A B K)
 lo:0<K
 hi:K<LL
 frac:∃n e:Int,0<n/\n<=20/\K*n=e*LL
theorem alM (h0:0<n) (h1:n<=20):∃c,LL=c*n:=by
 have:n=1\/n=2\/n=3\/n=4\/n=5\/n=6\/n=7\/n=8\/n=9\/n=10\/n=11\/n=12\/n=13\/n=14\/n=15\/n=16\/n=17\/n=18\/n=19\/n=20:=by omega
 rcases this with rfl|rfl|rfl|rfl|rfl|rfl|rfl|rfl|rfl|rfl|rfl|rfl|rfl|rfl|rfl|rfl|rfl|rfl|rfl|rfl
 ·exact⟨232792560,by decide⟩
 ·exact⟨116396280,by decide⟩
 ·exact⟨77597520,by decide⟩
 ·exact⟨58198140,by decide⟩
 ·exact⟨46558512,by decide⟩
 ·exact⟨38798760,by decide⟩
 ·exact⟨33256080,by decide⟩
 ·exact⟨29099070,by decide⟩
 ·exact⟨25865840,by decide⟩
 ·exact⟨23279256,by decide⟩
 ·exact⟨21162960,by decide⟩
 ·exact⟨19399380,by decide⟩
 ·exact⟨17907120,by decide⟩
 ·exact⟨16628040,by decide⟩
 ·exact⟨15519504,by decide⟩
 ·exact⟨14549535,by decide⟩
 ·exact⟨13693680,by decide⟩
 ·exact⟨12932920,by decide⟩
 ·exact⟨12252240,by decide⟩
 ·exact⟨11639628,by decide⟩
theorem abt (h:TE A B) (gC:gd C) (gD:gd D) (hC:lS A B C D n e g):n<=20:=by
 have h1:=hC.nn;have hn:=hC.n0;obtain⟨c1,c2,c3,c4⟩:=gC;obtain⟨d1,d2,d3,d4⟩:=gD;unfold bY bc at h1;dsimp only at h1;rcases h.dir with⟨e1,e2⟩|⟨e1,e2⟩|⟨e1,e2⟩|⟨e1,e2⟩|⟨e1|e1,e2|e2⟩<;>rw[e1,e2] at h1<;>omega
theorem tF (h:TE A B) (he:bP A B K=bP A B K'):K=K':=by
 unfold bP at he;rw[yg] at he;obtain⟨h1,h2⟩:=he;rcases h.dir with⟨e1,e2⟩|⟨e1,e2⟩|⟨e1,e2⟩|⟨e1,e2⟩|⟨e1|e1,e2|e2⟩<;>rw[e1] at h1<;>rw[e2] at h2<;>omega
theorem MJ:bP A B 0=(LL*A.1,LL*A.2):=by unfold bP;simp
theorem Tz:bP A B LL=(LL*B.1,LL*B.2):=by unfold bP;rw[yg];constructor<;>grind
theorem Ty:bP B A K=bP A B (LL-K):=by unfold bP;rw[yg];constructor<;>grind
theorem acp (hn:0<n) (hK:K*n=e*LL):shr A B ((e:Rat)/(n:Rat))=(((bP A B K).1:Rat)/(LL:Rat),((bP A B K).2:Rat)/(LL:Rat)):=by
 have h0:(0:Rat)<(n:Rat):=by have:((0:Int):Rat)<(n:Rat):=jP.2 hn;exact this
 have hL:(0:Rat)<232792560:=by decide+kernel
 have hd:=oV (a:=(e:Rat)) (Ph h0);have hK':(K:Rat)*(n:Rat)=(e:Rat)*232792560:=by
  have:=congrArg (λi:Int=>(i:Rat)) hK;simp only[qM] at this;exact this
 have hτ:(e:Rat)/(n:Rat)*232792560=(K:Rat):=by
  refine(xw h0).1 ?_;generalize (e:Rat)/(n:Rat)=τ at*;grind
 generalize (e:Rat)/(n:Rat)=τ at*;have k1:(((bP A B K).1:Int):Rat)=232792560*(A.1:Rat)+(K:Rat)*((B.1-A.1:Int):Rat):=by
  unfold bP;dsimp only;simp only[ou,qM];rfl
 have k2:(((bP A B K).2:Int):Rat)=232792560*(A.2:Rat)+(K:Rat)*((B.2-A.2:Int):Rat):=by
  unfold bP;dsimp only;simp only[ou,qM];rfl
 refine mN ((xw hL).1 ?_) ((xw hL).1 ?_)
 ·rw[sY,k1,<-hτ];unfold shr;dsimp only;grind
 ·rw[sY,k2,<-hτ];unfold shr;dsimp only;grind
theorem R7 {a b:Int} (h:0<a*b) (hb:0<b):0<a:=by
 rcases Int.lt_or_le 0 a with h1|h1
 ·exact h1
 ·have:=F9 (show 0<= -a by omega) (show 0<=b by omega);rw[Int.neg_mul] at this;omega
theorem aki (h:TE A B) (gC:gd C) (gD:gd D) (hC:lS A B C D n e g) (hp:AO p (shr A B ((e:Rat)/(n:Rat)))) (hn:b6 p) (hs:nR (aA A,aA B) o=some (some (p,p))):∃K,qJ A B o K p:=by
 have n0:=hC.n0;have n20:=abt h gC gD hC;obtain⟨c,hc⟩:=alM n0 n20;have hK:e*c*n=e*LL:=by rw[hc];grind
 have c0:0<c:=by
  have:0<c*n:=by rw[<-hc];decide
  exact R7 this n0
 refine⟨e*c,hs,⟨V8 hC h.gA h.gB gC gD hp hn,?_⟩,Pa hC.e0 c0,?_,n,e,n0,n20,hK⟩
 ·rw[<-acp n0 hK];exact hp
 ·rw[hc,J0 c n];exact Int.mul_lt_mul_of_pos_right hC.e1 c0
theorem E6 (h:aV a p=true) (ha:dJ a k) (hp:dJ p k'):k=k':=by
 obtain⟨⟨u,hu,a1⟩,v,hv,a2⟩:=ha.near;obtain⟨⟨u',hu',b1⟩,v',hv',b2⟩:=hp.near;unfold aV at h;rw[we hu hu',we hv hv'] at h;simp only[eI,decide_eq_true_eq] at h;obtain⟨rfl,rfl⟩:=h;exact mN (C9 (wo a1.symm b1) (by decide+kernel)) (C9 (wo a2.symm b2) (by decide+kernel))
theorem Cr (h:eX p):aV p p=true:=by
 obtain⟨u,hu,_⟩:=h.x;obtain⟨v,hv,_⟩:=h.y;unfold aV;rw[we hu hu,we hv hv];simp
def x8 (o:Ln):Prop:=∃C D:IP,gd C/\gd D/\(C.1+C.2)%2=0/\(D.1+D.2)%2=0/\C≠D/\o=(aA C,aA D)
theorem abu (h:TE A B) (ho:x8 o):∃r,nR (aA A,aA B) o=some r/\(r=none\/(∃p q,r=some (p,q)/\(p=aA A\/p=aA B)/\(q=aA A\/q=aA B))\/∃p K,r=some (p,p)/\qJ A B o K p):=by
 obtain⟨C,D,gC,gD,pC,pD,hne,rfl⟩:=ho;obtain⟨r,h1,h2⟩:=QD (hY h.gA) (hY h.gB) (hY gC) (hY gD) h.gA h.gB gC gD h.ne hne;refine⟨r,h1,?_⟩;have l4:∀p∈[aA A,aA B,aA C,aA D],∀P,At p P->(P.1+P.2)%2=0/\p=aA P:=by
  intro p hp P hP;simp only[bm,oY,or_false] at hp;rcases hp with rfl|rfl|rfl|rfl
  ·cases At.uniq hP (hY h.gA);exact⟨h.pA,rfl⟩
  ·cases At.uniq hP (hY h.gB);exact⟨h.pB,rfl⟩
  ·cases At.uniq hP (hY gC);exact⟨pC,rfl⟩
  ·cases At.uniq hP (hY gD);exact⟨pD,rfl⟩
 cases h2 with
 |none=>exact .inl rfl
 |tch m1 m2 a1 a2 t1 _ t3 _=>
  obtain⟨e1,f1⟩:=l4 _ m1 _ a1;obtain⟨e2,f2⟩:=l4 _ m2 _ a2;refine .inr (.inl ⟨_,_,O,?_,?_⟩)
  ·rcases Qz h e1 t1 with rfl|rfl
   ·exact .inl f1
   ·exact .inr f1
  ·rcases Qz h e2 t3 with rfl|rfl
   ·exact .inl f2
   ·exact .inr f2
 |cross hC hN hn=>
  obtain⟨K,hK⟩:=aki h gC gD hC hN hn h1;exact .inr (.inr ⟨_,K,O,hK⟩)
theorem NQ (h:TE A B) (hK:qJ A B o K p) (q:Pt) (hq:dJ q (bP A B K)):aV q (aA A)=false/\aV q (aA B)=false/\aV (aA A) q=false/\aV (aA B) q=false:=by
 have cA:=yI h.gA;have cB:=yI h.gB;have nA:bP A B K≠(LL*A.1,LL*A.2):=by rw[<-MJ (B:=B)];intro e;have:=tF h e;have:=hK.lo;omega
 have nB:bP A B K≠(LL*B.1,LL*B.2):=by rw[<-Tz (A:=A)];intro e;have:=tF h e;have:=hK.hi;omega
 refine⟨?_,?_,?_,?_⟩<;>(apply Bool.eq_false_iff.2;intro hh)
 ·exact nA (E6 hh hq cA)
 ·exact nB (E6 hh hq cB)
 ·exact nA (E6 hh cA hq).symm
 ·exact nB (E6 hh cB hq).symm
theorem abK (hW:nq w W) (h:TE A B) (ho:x8 o) (hm:nr w m):
  nr w (il w (aA A,aA B) o (cs,m)).2/\(∀e∈m,e∈(il w (aA A,aA B) o (cs,m)).2)/\
  (∀q,q∈(il w (aA A,aA B) o (cs,m)).1↔q∈cs\/∃K p,qJ A B o K p/\lR (il w (aA A,aA B) o (cs,m)).2 (bP A B K) q)/\
  ∀K p,qJ A B o K p->∃q,lR (il w (aA A,aA B) o (cs,m)).2 (bP A B K) q:=by
 obtain⟨r,h1,h2⟩:=abu h ho;rcases h2 with rfl|⟨p,q,rfl,hp,hq⟩|⟨p,K,rfl,hK⟩
 ·have e:il w (aA A,aA B) o (cs,m)=(cs,m):=by unfold il;rw[h1]
  rw[e];have no:∀K p,¬qJ A B o K p:=λK p hk=>by have:=hk.sym;rw[h1] at this;cases this
  exact⟨hm,λe he=>he,λq=>⟨.inl,λhh=>hh.elim id λ⟨K,p,hk,_⟩=>(no K p hk).elim⟩,λK p hk=>(no K p hk).elim⟩
 ·have sA:=Cr (nX h.gA);have sB:=Cr (nX h.gB);have ep:(aV (aA A) p||aV (aA B) p)=true:=by rcases hp with rfl|rfl<;>simp[sA,sB]
  have eq:(aV (aA A) q||aV (aA B) q)=true:=by rcases hq with rfl|rfl<;>simp[sA,sB]
  have e:il w (aA A,aA B) o (cs,m)=(cs,m):=by
   unfold il;rw[h1];dsimp only;rw[if_pos ep,if_pos (.inr eq)]
  rw[e];have no:∀K p,¬qJ A B o K p:=λK p' hk=>by
   have:=hk.sym;rw[h1] at this;cases this;obtain⟨_,_,c1,c2⟩:=NQ h hk p hk.cls;simp[c1,c2] at ep
  exact⟨hm,λe he=>he,λq=>⟨.inl,λhh=>hh.elim id λ⟨K,p,hk,_⟩=>(no K p hk).elim⟩,λK p hk=>(no K p hk).elim⟩
 ·obtain⟨_,_,c1,c2⟩:=NQ h hK p hK.cls;obtain⟨bk,hbk,_⟩:=WA hW hK.cls.node;obtain⟨i1,i2,i3⟩:=ag6 hW hm hK.cls hbk;obtain⟨e,he,hey,hc⟩:=i2;obtain⟨d1,d2,_,_⟩:=NQ h hK _ hc;have e:il w (aA A,aA B) o (cs,m)=(cs++[(eM m bk p).1],(eM m bk p).2):=by
   unfold il;rw[h1];dsimp only;rw[if_pos (.inl (Cr hK.cls.node)),c1,c2];rw[if_neg dK];unfold kO;rw[hbk];dsimp only;unfold oe;rw[d1,d2];rfl
  rw[e];have hH:lR (eM m bk p).2 (bP A B K) (eM m bk p).1:=⟨_,he,hey,hc⟩;have one:∀K' p',qJ A B o K' p'->K'=K:=λK' p' hk=>by
   have:=hk.sym;rw[h1] at this;cases this;exact tF h (pt hk.cls hK.cls)
  refine⟨i1,i3,λq=>⟨λhq=>?_,λhq=>?_⟩,λK' p' hk=>?_⟩
  ·rcases bB.1 hq with hq|hq
   ·exact .inl hq
   ·simp at hq;subst hq;exact .inr ⟨K,p,hK,hH⟩
  ·rcases hq with hq|⟨K',p',hk,hh⟩
   ·exact bq _ hq
   ·have:=one K' p' hk;subst this;have:=lR.uniq i1 hh hH;subst this;exact bI _ (.head _)
  ·have:=one K' p' hk;subst this;exact⟨_,hH⟩
end Go.Proofs
namespace Go.Proofs
open Go.V Go.Flt Go.Tiles
variable {x y w:Nat} {i j n e f g K K':Int} {a b c d p q:Pt} {A B C D P Q k k':IP} {u v W:Rat} {m M:NM} {o:Ln} {cs:List Pt} {lns:List Ln} {V:bH->List Int}
def oT (lns:List Ln) (l:List Int) (A B:IP) (K:Int):Prop:=∃i∈l,∃o p,lns[i.toNat]? =some o/\qJ A B o K p
theorem Kx (hW:nq w W) (h:TE A B) (hl:∀o∈lns,x8 o):∀(l:List Int) (cs:List Pt) (m:NM),nr w m->
  nr w (ji w lns (aA A,aA B) l (cs,m)).2/\(∀e∈m,e∈(ji w lns (aA A,aA B) l (cs,m)).2)/\
  (∀q,q∈(ji w lns (aA A,aA B) l (cs,m)).1↔q∈cs\/∃K,oT lns l A B K/\lR (ji w lns (aA A,aA B) l (cs,m)).2 (bP A B K) q)/\
  ∀K,oT lns l A B K->∃q,lR (ji w lns (aA A,aA B) l (cs,m)).2 (bP A B K) q
 |[],cs,m,hm=>⟨hm,λe he=>he,λq=>⟨.inl,λhh=>hh.elim id λ⟨K,⟨i,hi,_⟩,_⟩=>nomatch hi⟩,λK ⟨i,hi,_⟩=>nomatch hi⟩
 |i::l,cs,m,hm=>by
  have e0:ji w lns (aA A,aA B) (i::l) (cs,m)=ji w lns (aA A,aA B) l (match lns[i.toNat]? with|some o=>il w (aA A,aA B) o (cs,m)|none=>(cs,m)):=rfl;rw[e0];cases hi:lns[i.toNat]? with
  |none=>
   dsimp only;obtain⟨i1,i2,i3,i4⟩:=Kx hW h hl l cs m hm;have hit:∀K,oT lns (i::l) A B K↔oT lns l A B K:=λK=>by
    constructor
    ·rintro⟨j,hj,o,p,h1,h2⟩;rcases bm.1 hj with rfl|hj
     ·rw[hi] at h1;cases h1
     ·exact⟨j,hj,o,p,h1,h2⟩
    ·rintro⟨j,hj,o,p,h1,h2⟩;exact⟨j,.tail _ hj,o,p,h1,h2⟩
   simp only[hit];exact⟨i1,i2,i3,i4⟩
  |some o=>
   dsimp only;obtain⟨s1,s2,s3,s4⟩:=abK (cs:=cs) hW h (hl o (bn hi)) hm;generalize hst:il w (aA A,aA B) o (cs,m)=st at*;obtain⟨cs1,m1⟩:=st;obtain⟨i1,i2,i3,i4⟩:=Kx hW h hl l cs1 m1 s1;generalize hfin:ji w lns (aA A,aA B) l (cs1,m1)=fin at*;have hit:∀K,oT lns (i::l) A B K↔(∃p,qJ A B o K p)\/oT lns l A B K:=λK=>by
    constructor
    ·rintro⟨j,hj,o',p,h1,h2⟩;rcases bm.1 hj with rfl|hj
     ·rw[hi] at h1;cases h1;exact .inl ⟨p,h2⟩
     ·exact .inr ⟨j,hj,o',p,h1,h2⟩
    ·rintro(⟨p,h2⟩|⟨j,hj,o',p,h1,h2⟩)
     ·exact⟨i,.head _,o,p,hi,h2⟩
     ·exact⟨j,.tail _ hj,o',p,h1,h2⟩
   refine⟨i1,λe he=>i2 e (s2 e he),λq=>?_,λK hK=>?_⟩
   ·rw[i3 q,s3 q];constructor
    ·rintro((hq|⟨K,p,hk,hh⟩)|⟨K,hk,hh⟩)
     ·exact .inl hq
     ·exact .inr ⟨K,(hit K).2 (.inl ⟨p,hk⟩),hh.mono i2⟩
     ·exact .inr ⟨K,(hit K).2 (.inr hk),hh⟩
    ·rintro(hq|⟨K,hk,hh⟩)
     ·exact .inl (.inl hq)
     ·rcases(hit K).1 hk with⟨p,hp⟩|hk
      ·obtain⟨q',hq'⟩:=s4 K p hp;have:=lR.uniq i1 hh (hq'.mono i2);subst this;exact .inl (.inr ⟨K,p,hp,hq'⟩)
      ·exact .inr ⟨K,hk,hh⟩
   ·rcases(hit K).1 hK with⟨p,hp⟩|hk
    ·obtain⟨q',hq'⟩:=s4 K p hp;exact⟨q',hq'.mono i2⟩
    ·exact i4 K hk
structure rU (lns:List Ln) (l:List Int) (M:NM) (A B:IP) (ch:List Pt):Prop where
 mem:∀q,q∈ch↔∃K,oT lns l A B K/\lR M (bP A B K) q
 ord:ch.Pairwise λq q'=>∃K K',K<K'/\dJ q (bP A B K)/\dJ q' (bP A B K')
 ex:∀K,oT lns l A B K->∃q,lR M (bP A B K) q
theorem rU.later {l:List Int} {ch:List Pt} {M':NM} (h:rU lns l M A B ch) (hm:nr w M') (hs:∀e∈M,e∈M'):rU lns l M' A B ch:=by
 refine⟨λq=>?_,h.ord,λK hK=>?_⟩
 ·rw[h.mem q];constructor
  ·rintro⟨K,h1,h2⟩;exact⟨K,h1,h2.mono hs⟩
  ·rintro⟨K,h1,h2⟩;obtain⟨q',hq'⟩:=h.ex K h1;have:=lR.uniq hm h2 (hq'.mono hs);subst this;exact⟨K,h1,hq'⟩
 ·obtain⟨q,hq⟩:=h.ex K hK;exact⟨q,hq.mono hs⟩
theorem Si {α:Type} {R:α->α->Prop} (hirr:∀a,¬R a a) (hasy:∀a b,R a b->¬R b a):∀{l l':List α},l.Pairwise R->l'.Pairwise R->(∀x,x∈l↔x∈l')->l=l'
 |[],[],_,_,_=>rfl
 |[],b::l',_,_,h=>by have:=(h b).2 (.head _);cases this
 |a::l,[],_,_,h=>by have:=(h a).1 (.head _);cases this
 |a::l,b::l',h1,h2,h=>by
  obtain⟨p1,p2⟩:=oW.1 h1;obtain⟨q1,q2⟩:=oW.1 h2;have e:a=b:=by
   rcases bm.1 ((h a).1 (.head _)) with e|ha
   ·exact e
   rcases bm.1 ((h b).2 (.head _)) with e|hb
   ·exact e.symm
   exact absurd (q1 a ha) (hasy _ _ (p1 b hb))
  subst e;have na:a∉l:=λh=>hirr a (p1 a h);have nb:a∉l':=λh=>hirr a (q1 a h);congr 1;refine Si hirr hasy p2 q2 λx=>?_;constructor
  ·intro hx;rcases bm.1 ((h x).1 (.tail _ hx)) with e|hx'
   ·subst e;exact absurd hx na
   ·exact hx'
  ·intro hx;rcases bm.1 ((h x).2 (.tail _ hx)) with e|hx'
   ·subst e;exact absurd hx nb
   ·exact hx'
theorem rU.uniq (h:TE A B) {l:List Int} {ch ch':List Pt} (h1:rU lns l M A B ch) (h2:rU lns l M A B ch'):ch=ch':=by
 refine Si (λa=>?_) (λa b=>?_) h1.ord h2.ord (λx=>by rw[h1.mem,h2.mem])
 ·rintro⟨K,K',hlt,c1,c2⟩;have:=tF h (pt c1 c2);omega
 ·rintro⟨K,K',hlt,c1,c2⟩ ⟨J,J',hlt',d1,d2⟩;have:=tF h (pt c1 d2);have:=tF h (pt c2 d1);omega
theorem qJ.flip (h:TE A B) (hc:qJ A B o K p):qJ B A o (LL-K) p:=by
 obtain⟨h1,h2,h3,h4,n,e,n0,n20,hn⟩:=hc;refine⟨by rw[abz (hY h.gA) (hY h.gB) h.ne h.gA h.gB];exact h1,?_,aa,aa,n,n-e,n0,n20,by grind⟩;rw[Ty];have:LL-(LL-K)=K:=by omega
 rw[this];exact h2
theorem oT.flip (h:TE A B) {l:List Int} (hc:oT lns l A B K):oT lns l B A (LL-K):=by
 obtain⟨i,hi,o,p,h1,h2⟩:=hc;exact⟨i,hi,o,p,h1,h2.flip h⟩
theorem EF:bP B A (LL-K)=bP A B K:=by
 rw[Ty];have:LL-(LL-K)=K:=by omega
 rw[this]
theorem rU.flip (h:TE A B) {l:List Int} {ch:List Pt} (h1:rU lns l M A B ch):rU lns l M B A ch.reverse:=by
 refine⟨λq=>?_,?_,λK hK=>?_⟩
 ·rw[Do,h1.mem];constructor
  ·rintro⟨K,k1,k2⟩;exact⟨LL-K,k1.flip h,by rw[EF];exact k2⟩
  ·rintro⟨K,k1,k2⟩;refine⟨LL-K,k1.flip h.flip,by rw[EF];exact k2⟩
 ·rw[List.pairwise_reverse];refine h1.ord.imp ?_;rintro a b ⟨K,K',hlt,c1,c2⟩;exact⟨LL-K',LL-K,aa,by rw[EF];exact c2,by rw[EF];exact c1⟩
 ·obtain⟨q,hq⟩:=h1.ex _ (hK.flip h.flip);exact⟨q,by rw[EF] at hq;exact hq⟩
theorem afW (gA:gd A) (gB:gd B):ia (aA B,aA A)=ia (aA A,aA B):=by
 have ha:=hY gA;have hb:=hY gB;have e1:A.1=B.1->(aA A).1=(aA B).1:=λh=>by unfold aA;rw[h]
 have e2:A.2=B.2->(aA A).2=(aA B).2:=λh=>by unfold aA;rw[h]
 unfold ia;dsimp only;rw[tJ hb.x ha.x,tJ hb.y ha.y,tJ ha.x hb.x,tJ ha.y hb.y];rcases Int.lt_trichotomy A.1 B.1 with h1|h1|h1<;>rcases Int.lt_trichotomy A.2 B.2 with h2|h2|h2
 ·have a1:¬B.1<A.1:=by omega
  have a2:¬B.2<A.2:=by omega
  simp[h1,h2,a1,a2]
 ·have a1:¬B.1<A.1:=by omega
  simp[h1,h2,a1,e2 h2]
 ·have a1:¬B.1<A.1:=by omega
  have a2:¬A.2<B.2:=by omega
  simp[h1,h2,a1,a2]
 ·have a2:¬B.2<A.2:=by omega
  simp[h1,h2,a2,e1 h1]
 ·simp[h1,h2,e1 h1,e2 h2]
 ·have a2:¬A.2<B.2:=by omega
  simp[h1,h2,a2,e1 h1]
 ·have a1:¬A.1<B.1:=by omega
  have a2:¬B.2<A.2:=by omega
  simp[h1,h2,a1,a2]
 ·have a1:¬A.1<B.1:=by omega
  simp[h1,h2,a1,e2 h2]
 ·have a1:¬A.1<B.1:=by omega
  have a2:¬A.2<B.2:=by omega
  simp[h1,h2,a1,a2]
end Go.Proofs
namespace Go.Proofs
open Go.V Go.Flt Go.Tiles Go.Sort
variable {x y w:Nat} {i j n e f g K K':Int} {a b c d p q:Pt} {A B C D P Q k k':IP} {u v W:Rat} {m M:NM} {o:Ln} {cs qs:List Pt} {lns:List Ln} {V:bH->List Int}
def kG:Ieee.Datum->Int×Rat
 |.number s m e=>(0,dv s m e)
 |.infinity s=>(if s then -1 else 1,0)
 |.nan _ _=>(0,0)
theorem aen (c d:Ieee.Datum) (hc:Ieee.Datum.isNaN c=false) (hd:Ieee.Datum.isNaN d=false):(c.order d==some .lt)=decide ((kG c).1<(kG d).1\/((kG c).1=(kG d).1/\(kG c).2<(kG d).2)):=by
 cases c with
 |nan s t=>cases hc
 |infinity s=>
  cases d with
  |nan s t=>cases hd
  |infinity t=>cases s<;>cases t<;>simp[Ieee.Datum.order,kG,Pm]<;>decide
  |number t n j=>cases s<;>simp[Ieee.Datum.order,kG]<;>decide
 |number s m i=>
  cases d with
  |nan s t=>cases hd
  |infinity t=>cases t<;>simp[Ieee.Datum.order,kG]<;>decide
  |number t n j=>
   rw[DV.ord (x:=dv s m i) (y:=dv t n j) ⟨_,_,_,rfl,rfl⟩ ⟨_,_,_,rfl,rfl⟩];unfold kG;by_cases h1:dv s m i<dv t n j
   ·simp[h1]
   ·by_cases h2:dv s m i=dv t n j<;>simp[h1,h2]
theorem TH (a x:Pt):Ieee.Datum.isNaN (FloatKind.f64.decode (kd a x))=false:=by
 unfold kd;split
 ·rename_i v _;cases h:Ieee.Datum.isNaN (FloatKind.f64.decode v) with
  |true=>exact FV.notNaN Dd
  |false=>exact h
 ·exact FV.notNaN Dd
theorem aka (a:Pt):SWO (rz a):=by
 have key:∀x y,rz a x y=decide ((kG (FloatKind.f64.decode (kd a x))).1<(kG (FloatKind.f64.decode (kd a y))).1\/((kG (FloatKind.f64.decode (kd a x))).1=(kG (FloatKind.f64.decode (kd a y))).1/\(kG (FloatKind.f64.decode (kd a x))).2<(kG (FloatKind.f64.decode (kd a y))).2)):=λx y=>by
  unfold rz jn Ieee.Format.order;exact aen _ _ (TH a x) (TH a y)
 refine⟨λx=>?_,λx y z=>?_,λx y z=>?_⟩
 ·rw[key];simp[Pm]
 ·rw[key,key,key];generalize kG (FloatKind.f64.decode (kd a x))=X;generalize kG (FloatKind.f64.decode (kd a y))=Y;generalize kG (FloatKind.f64.decode (kd a z))=Z;simp only[decide_eq_true_eq];rintro(h1|⟨h1,h1'⟩) (h2|⟨h2,h2'⟩)
  ·exact .inl aa
  ·exact .inl aa
  ·exact .inl aa
  ·exact .inr ⟨aa,by grind⟩
 ·rw[key,key,key];generalize kG (FloatKind.f64.decode (kd a x))=X;generalize kG (FloatKind.f64.decode (kd a y))=Y;generalize kG (FloatKind.f64.decode (kd a z))=Z;simp only[decide_eq_false_iff_not,not_or,not_and];rintro⟨h1,h1'⟩ ⟨h2,h2'⟩;refine⟨aa,λh3=>?_⟩;have e1:X.1=Y.1:=by omega
  have e2:Y.1=Z.1:=by omega
  have:=h1' e1;have:=h2' e2;grind
def Fr (K:Int):Prop:=(∃n e:Int,0<n/\n<=20/\K*n=e*LL)/\0<=K/\K<=LL
theorem U3 (h:Fr K) (h':Fr K') (hlt:K<K'):LL<=400*(K'-K):=by
 obtain⟨⟨n,e,n0,n20,hn⟩,_,_⟩:=h;obtain⟨⟨n',e',n0',n20',hn'⟩,_,_⟩:=h';have h1:n*n'*(K'-K)=(e'*n-e*n')*LL:=by
  have e1:n*n'*(K'-K)=n*(K'*n')-n'*(K*n):=by grind
  rw[e1,hn,hn'];grind
 have hp:0<n*n':=Pa n0 n0';have hle:n*n'<=400:=by
  have:=Int.mul_le_mul n20 n20' aa aa;omega
 have hpos:0<n*n'*(K'-K):=Pa hp aa;have hge:1<=e'*n-e*n':=by
  rw[h1] at hpos;have:=R7 hpos (by decide:(0:Int)<LL);omega
 have h2:LL<=n*n'*(K'-K):=by
  rw[h1];have:=Be hge (by decide:(0:Int)<=LL);omega
 have h3:n*n'*(K'-K)<=400*(K'-K):=Be hle aa;omega
theorem Nv:Fr 0:=⟨⟨1,0,by decide,by decide,by decide⟩,by decide,by decide⟩
theorem aiM:Fr LL:=⟨⟨1,1,by decide,by decide,by decide⟩,by decide,by decide⟩
theorem qJ.fr (h:qJ A B o K p):Fr K:=⟨h.frac,by have:=h.lo;omega,by have:=h.hi;omega⟩
theorem oT.fr {l:List Int} (h:oT lns l A B K):Fr K:=by obtain⟨i,_,o,p,_,h⟩:=h;exact h.fr
abbrev cd (K:Int):Rat:=(K:Rat)/(LL:Rat)
theorem Rj (K K':Int):cd K'-cd K=cd (K'-K):=by
 have h1:=sY K;have h2:=sY K';have h3:=sY (K'-K);rw[DA] at h3;unfold cd;rw[DA];generalize (K:Rat)/(LL:Rat)=s at*;generalize (K':Rat)/(LL:Rat)=t at*;generalize ((K':Rat)-(K:Rat))/(LL:Rat)=r at*;grind
theorem DQ {K:Int} (h:Fr K):0<=cd K/\cd K<=1:=by
 have h1:=sY K;have a1:((0:Int):Rat)<=(K:Rat):=fF.2 h.2.1;have a2:(K:Rat)<=((232792560:Int):Rat):=fF.2 h.2.2;have e0:((0:Int):Rat)=0:=rfl;have e1:((232792560:Int):Rat)=232792560:=rfl;rw[e0] at a1;rw[e1] at a2;unfold cd;generalize (K:Rat)/(LL:Rat)=s at*;constructor<;>grind
theorem GQ {K K':Int} (h:Fr K) (h':Fr K') (hlt:K<K'):1/400<=cd K'-cd K:=by
 have hg:=U3 h h' hlt;rw[Rj];have h1:=sY (K'-K);have a1:((232792560:Int):Rat)<=((400*(K'-K):Int):Rat):=fF.2 hg;have e1:((232792560:Int):Rat)=232792560:=rfl;rw[e1,qM] at a1;have e2:((400:Int):Rat)=400:=rfl;rw[e2] at a1;unfold cd;generalize ((K'-K:Int):Rat)/(LL:Rat)=s at*;rw[<-h1] at a1;grind
theorem HG (A B:IP) (K:Int):(((bP A B K).1:Int):Rat)/(LL:Rat)=(A.1:Rat)+cd K*((B.1-A.1:Int):Rat)/\(((bP A B K).2:Int):Rat)/(LL:Rat)=(A.2:Rat)+cd K*((B.2-A.2:Int):Rat):=by
 have hL:(0:Rat)<232792560:=by decide+kernel
 have h1:=sY K;have k1:(((bP A B K).1:Int):Rat)=232792560*(A.1:Rat)+(K:Rat)*((B.1-A.1:Int):Rat):=by
  unfold bP;dsimp only;simp only[ou,qM];rfl
 have k2:(((bP A B K).2:Int):Rat)=232792560*(A.2:Rat)+(K:Rat)*((B.2-A.2:Int):Rat):=by
  unfold bP;dsimp only;simp only[ou,qM];rfl
 constructor
 ·refine(xw hL).1 ?_;rw[sY,k1];unfold cd;generalize (K:Rat)/(LL:Rat)=s at*;generalize ((B.1-A.1:Int):Rat)=U at*;rw[<-h1];grind
 ·refine(xw hL).1 ?_;rw[sY,k2];unfold cd;generalize (K:Rat)/(LL:Rat)=s at*;generalize ((B.2-A.2:Int):Rat)=U at*;rw[<-h1];grind
theorem VP (h:TE A B) (hf:Fr K) (hf':Fr K') (hlt:K<K') (ha:dJ a (bP A B K)) (hb:dJ b (bP A B K')):
  (∃d r z,jE a b=some d/\mo d d=some r/\FV r z/\Abt (24/70368744177664*(cd K'-cd K)+1/211106232532992) z ((((B.1-A.1)*(B.1-A.1)+(B.2-A.2)*(B.2-A.2):Int):Rat)*((cd K'-cd K)*(cd K'-cd K)))/\0<=z/\z<=11)/\
  (∃d r z,jE b a=some d/\mo d d=some r/\FV r z/\Abt (24/70368744177664*(cd K'-cd K)+1/211106232532992) z ((((B.1-A.1)*(B.1-A.1)+(B.2-A.2)*(B.2-A.2):Int):Rat)*((cd K'-cd K)*(cd K'-cd K)))/\0<=z/\z<=11):=by
 obtain⟨⟨u,hu,a1⟩,v,hv,a2⟩:=ha.near;obtain⟨⟨u',hu',b1⟩,v',hv',b2⟩:=hb.near;dsimp only at a1 a2 b1 b2;rw[(HG A B K).1] at a1;rw[(HG A B K).2] at a2;rw[(HG A B K').1] at b1;rw[(HG A B K').2] at b2;have g:=GQ hf hf' hlt;have l1:=DQ hf;have l2:=DQ hf';obtain⟨s,hs⟩:∃s,s=cd K'-cd K:=⟨_,rfl⟩;have dI:∀i:Int,(i=2\/i= -2\/i=0\/i=1\/i= -1)->(i:Rat)<=2/\ -2<=(i:Rat):=by
  intro i hi;rcases hi with rfl|rfl|rfl|rfl|rfl<;>constructor<;>decide+kernel
 have d1:=dI (B.1-A.1) (by have:=h.dir;omega);have d2:=dI (B.2-A.2) (by have:=h.dir;omega);have eU:(((B.1-A.1)*(B.1-A.1)+(B.2-A.2)*(B.2-A.2):Int):Rat)*(s*s)=(s*((B.1-A.1:Int):Rat))*(s*((B.1-A.1:Int):Rat))+(s*((B.2-A.2:Int):Rat))*(s*((B.2-A.2:Int):Rat)):=by
  rw[ou,qM,qM];grind
 rw[<-hs,eU];rw[<-hs] at g;generalize ((B.1-A.1:Int):Rat)=U at*;generalize ((B.2-A.2:Int):Rat)=U' at*;have s2:s<=1:=by grind
 have hδ:∃δ:Rat,δ<=2/\s*U<=δ/\ -δ<=s*U/\s*U'<=δ/\ -δ<=s*U'/\δ=2*s:=by
  have s0:0<=s:=by grind
  have m1:=cj s0 (show 0<=2-U by grind);have m2:=cj s0 (show 0<=2+U by grind);have m3:=cj s0 (show 0<=2-U' by grind);have m4:=cj s0 (show 0<=2+U' by grind);exact⟨2*s,by grind,by grind,by grind,by grind,by grind,O⟩
 obtain⟨δ,t1,t2,t3,t4,t5,t6⟩:=hδ;have ε2:(1:Rat)/70368744177664+1/70368744177664=1/35184372088832:=by decide+kernel
 have hsU:s*U=cd K'*U-cd K*U:=by rw[hs];generalize cd K=α;generalize cd K'=β;grind
 have hsU':s*U'=cd K'*U'-cd K*U':=by rw[hs];generalize cd K=α;generalize cd K'=β;grind
 generalize cd K'*U=m1 at*;generalize cd K*U=m2 at*;generalize cd K'*U'=m3 at*;generalize cd K*U'=m4 at*;have hx1:Abt (1/35184372088832) (u'-u) (s*U):=by rw[hsU];obtain⟨p1,p2⟩:=a1;obtain⟨p3,p4⟩:=b1;constructor<;>grind
 have hx2:Abt (1/35184372088832) (v'-v) (s*U'):=by rw[hsU'];obtain⟨p1,p2⟩:=a2;obtain⟨p3,p4⟩:=b2;constructor<;>grind
 have hy1:Abt (1/35184372088832) (u-u') (-(s*U)):=by obtain⟨p1,p2⟩:=hx1;constructor<;>grind
 have hy2:Abt (1/35184372088832) (v-v') (-(s*U')):=by obtain⟨p1,p2⟩:=hx2;constructor<;>grind
 have fin:∀{p q:Pt} {z1 z2 y1 y2:Rat},FV p.1 z1->FV p.2 z2->FV q.1 y1->FV q.2 y2->Abt (1/35184372088832) (z1-y1) (s*U)/\Abt (1/35184372088832) (z2-y2) (s*U')\/Abt (1/35184372088832) (z1-y1) (-(s*U))/\Abt (1/35184372088832) (z2-y2) (-(s*U'))->
   ∃d r z,jE p q=some d/\mo d d=some r/\FV r z/\Abt (24/70368744177664*s+1/211106232532992) z (s*U*(s*U)+s*U'*(s*U'))/\0<=z/\z<=11:=by
  intro p q z1 z2 y1 y2 f1 f2 f3 f4 hh;have n1: -(s*U)* -(s*U)=s*U*(s*U):=by grind
  have n2: -(s*U')* -(s*U')=s*U'*(s*U'):=by grind
  have h1:∃d r z,Ieee.double.sub p.1 q.1=some d/\Ieee.double.mul d d=some r/\FV r z/\Abt (6/70368744177664*δ+1/844424930131968) z (s*U*(s*U))/\0<=z/\z<=5:=by
   rcases hh with⟨hh,_⟩|⟨hh,_⟩
   ·exact GI f1 f3 hh t2 t3 t1
   ·have:=GI f1 f3 hh (by grind: -(s*U)<=δ) df t1;rw[n1] at this;exact this
  have h2:∃d r z,Ieee.double.sub p.2 q.2=some d/\Ieee.double.mul d d=some r/\FV r z/\Abt (6/70368744177664*δ+1/844424930131968) z (s*U'*(s*U'))/\0<=z/\z<=5:=by
   rcases hh with⟨_,hh⟩|⟨_,hh⟩
   ·exact GI f2 f4 hh t4 t5 t1
   ·have:=GI f2 f4 hh (by grind: -(s*U')<=δ) df t1;rw[n2] at this;exact this
  obtain⟨e1,r1,w1,k1,k2,k3,k4,k5⟩:=h1;obtain⟨e2,r2,w2,l1,l2,l3,l4,l5⟩:=h2;obtain⟨r,z,m1,m2,m3,m4⟩:=abU k3 l3 k4 l4 k5 l5;have k1':jd p.1 q.1=some e1:=k1;have l1':jd p.2 q.2=some e2:=l1;have k2':jm e1 e1=some r1:=k2;have l2':jm e2 e2=some r2:=l2;have m1':qm r1 r2=some r:=m1;refine⟨(e1,e2),r,z,?_,?_,m2,?_,m4⟩
  ·unfold jE;simp only[k1',l1',lh]
  ·unfold mo;simp only[k2',l2',m1',lh]
  ·refine m3.mono ?_;rw[t6];grind
 exact⟨fin hu hv hu' hv' (.inr ⟨hy1,hy2⟩),fin hu' hv' hu hv (.inl ⟨hx1,hx2⟩)⟩
end Go.Proofs
namespace Go.Proofs
open Go.V Go.Flt Go.Tiles Go.Sort
variable {x y w:Nat} {i j n e f g K K':Int} {a b c d p q:Pt} {A B C D P Q k k':IP} {u v W:Rat} {m M:NM} {o:Ln} {cs qs:List Pt} {lns:List Ln} {V:bH->List Int}
theorem Qh {r:Pt->Int}:∀(l:List Pt) (a:Pt),(∀x∈a::l,∀y∈a::l,(aV x y=true↔x=y))->(∀x∈a::l,∀y∈a::l,r x=r y->x=y)->(a::l).Pairwise (λx y=>r x<=r y)->
  (∀x,x∈a::lk a l↔x∈a::l)/\(a::lk a l).Pairwise (λx y=>r x<r y)
 |[],a,_,_,_=>⟨λx=>Iff.rfl,by unfold lk;exact List.pairwise_singleton _ _⟩
 |b::l,a,h1,h2,h3=>by
  obtain⟨s1,s2⟩:=oW.1 h3;obtain⟨i1,i2⟩:=Qh l b (λx hx y hy=>h1 x (.tail _ hx) y (.tail _ hy)) (λx hx y hy=>h2 x (.tail _ hx) y (.tail _ hy)) s2;unfold lk;by_cases hb:aV b a=true
  ·rw[if_pos hb];have e:=(h1 b (.tail _ (.head _)) a (.head _)).1 hb;subst e;refine⟨λx=>?_,i2⟩;rw[i1 x];simp
  ·rw[if_neg hb];have hne:b≠a:=λe=>hb ((h1 b (.tail _ (.head _)) a (.head _)).2 e);have hlt:r a<r b:=by
    have h4:=s1 b (.head _);have:r a≠r b:=λe=>hne (h2 a (.head _) b (.tail _ (.head _)) e).symm;omega
   refine⟨λx=>?_,oW.2 ⟨λx hx=>?_,i2⟩⟩
   ·rw[bm,i1 x,<-bm]
   ·rcases bm.1 ((i1 x).1 hx) with rfl|hx'
    ·exact hlt
    ·have:=(oW.1 s2).1 x hx';omega
theorem Yw {r:Pt->Int} {l:List Pt} (h1:∀x∈l,∀y∈l,(aV x y=true↔x=y)) (h2:∀x∈l,∀y∈l,r x=r y->x=y) (h3:l.Pairwise (λx y=>r x<=r y)):
  (∀x,x∈uq l↔x∈l)/\(uq l).Pairwise (λx y=>r x<r y):=by
 cases l with
 |nil=>exact⟨λx=>Iff.rfl,List.Pairwise.nil⟩
 |cons a l=>exact Qh l a h1 h2 h3
noncomputable def Aa (A B:IP) (q:Pt):Int:=by classical exact if h:∃K,dJ q (bP A B K) then h.choose else 0
theorem ac6 (h:TE A B) (hq:dJ q (bP A B K)):Aa A B q=K:=by
 unfold Aa;have hex:∃K,dJ q (bP A B K):=⟨K,hq⟩;rw[dif_pos hex];exact tF h (pt hex.choose_spec hq)
theorem abq (h:TE A B):(2:Rat)<=(((B.1-A.1)*(B.1-A.1)+(B.2-A.2)*(B.2-A.2):Int):Rat)/\(((B.1-A.1)*(B.1-A.1)+(B.2-A.2)*(B.2-A.2):Int):Rat)<=4:=by
 rcases h.dir with⟨e1,e2⟩|⟨e1,e2⟩|⟨e1,e2⟩|⟨e1,e2⟩|⟨e1|e1,e2|e2⟩<;>rw[e1,e2]<;>constructor<;>decide+kernel
theorem K9:cd 0=0:=by unfold cd;decide+kernel
theorem acv:cd LL=1:=by unfold cd LL;decide+kernel
theorem TG (h:TE A B) (hf:Fr K) (h0:0<K) (hq:dJ q (bP A B K)):∃z,FV (kd (aA A) q) z/\Abt (24/70368744177664*cd K+1/211106232532992) z ((((B.1-A.1)*(B.1-A.1)+(B.2-A.2)*(B.2-A.2):Int):Rat)*(cd K*cd K)):=by
 have cA:dJ (aA A) (bP A B 0):=by rw[MJ];exact yI h.gA
 obtain⟨_,d,r,z,h1,h2,h3,h4,_⟩:=VP h Nv hf h0 cA hq;have e:cd K-cd 0=cd K:=by rw[K9];grind
 rw[e] at h4;refine⟨z,?_,h4⟩;have h5:AB (aA A) q=some r:=by unfold AB;rw[h1];exact h2
 unfold kd;rw[h5];dsimp only;rw[FV.notNaN h3];exact h3
theorem agh (h:TE A B) (hf:Fr K) (hf':Fr K') (h0:0<K) (hlt:K<K') (hp:dJ p (bP A B K)) (hq:dJ q (bP A B K')):rz (aA A) p q=true:=by
 obtain⟨z,hz,a1,a2⟩:=TG h hf h0 hp;obtain⟨z',hz',b1,b2⟩:=TG h hf' aa hq;have g:=GQ hf hf' hlt;have g0:=GQ Nv hf h0;rw[K9] at g0;have l':=DQ hf';obtain⟨u2,u4⟩:=abq h;unfold rz;rw[H7 hz hz'];apply decide_eq_true;generalize (((B.1-A.1)*(B.1-A.1)+(B.2-A.2)*(B.2-A.2):Int):Rat)=U at*;generalize cd K=s at*;generalize cd K'=t at*;have m1:=cj (show 0<=t-s-1/400 by grind) (show 0<=t+s by grind);have m2:1/400*(t+s)<=t*t-s*s:=by grind
 have m3:(1:Rat)/160000<=t*t-s*s:=by grind
 have m4:=gg u2 (show 0<=t*t-s*s by grind);have m5:U*(t*t)-U*(s*s)=U*(t*t-s*s):=by grind
 grind
theorem akM (hW:nq w W) (h:TE A B) (hl:∀o∈lns,x8 o) {l:List Int} (hm:nr w m) {m':NM} (hc:(cs,m')=ji w lns (aA A,aA B) l ([],m)) (hq:FQ (aA A) cs qs):
  rU lns l m' A B (uq qs)/\nr w m'/\∀e∈m,e∈m':=by
 obtain⟨v1,v2,v3,v4⟩:=Kx hW h hl l [] m hm;rw[<-hc] at v1 v2 v3 v4;dsimp only at v1 v2 v3 v4;have v3':∀q,q∈cs↔∃K,oT lns l A B K/\lR m' (bP A B K) q:=λq=>by rw[v3 q];simp
 have mem:∀q,q∈qs↔∃K,oT lns l A B K/\lR m' (bP A B K) q:=λq=>by rw[hq.perm.mem_iff];exact v3' q
 have cl:∀q∈qs,∃K,oT lns l A B K/\lR m' (bP A B K) q/\dJ q (bP A B K)/\Aa A B q=K:=λq hq'=>by
  obtain⟨K,h1,h2⟩:=(mem q).1 hq';have h3:dJ q (bP A B K):=by obtain⟨e,_,_,h3⟩:=h2;exact h3
  exact⟨K,h1,h2,h3,ac6 h h3⟩
 have inj:∀x∈qs,∀y∈qs,Aa A B x=Aa A B y->x=y:=λx hx y hy e=>by
  obtain⟨K,h1,h2,h3,h4⟩:=cl x hx;obtain⟨K',k1,k2,k3,k4⟩:=cl y hy;rw[h4,k4] at e;subst e;exact lR.uniq v1 h2 k2
 have heq:∀x∈qs,∀y∈qs,(aV x y=true↔x=y):=λx hx y hy=>by
  obtain⟨K,h1,h2,h3,h4⟩:=cl x hx;obtain⟨K',k1,k2,k3,k4⟩:=cl y hy;constructor
  ·intro e;have:=tF h (E6 e h3 k3);exact inj x hx y hy (by rw[h4,k4,this])
  ·rintro rfl;exact Cr h3.node
 have hit0:∀K,oT lns l A B K->0<K:=λK ⟨i,_,o,p,_,hk⟩=>hk.lo;have srt:qs.Pairwise (λx y=>Aa A B x<=Aa A B y):=by
  refine(Gg.1 (hq.sorted (aka _))).imp ?_;rintro x y ⟨hx,hy,hlt⟩;obtain⟨K,h1,h2,h3,h4⟩:=cl x hx;obtain⟨K',k1,k2,k3,k4⟩:=cl y hy;rw[h4,k4];rcases Int.lt_or_le K' K with hh|hh
  ·have:=agh h k1.fr h1.fr (hit0 _ k1) hh k3 h3;rw[this] at hlt;cases hlt
  ·exact hh
 obtain⟨u1,u2⟩:=Yw heq inj srt;refine⟨⟨λq=>by rw[u1,mem],?_,v4⟩,v1,v2⟩;refine(Gg.1 u2).imp ?_;rintro x y ⟨hx,hy,hlt⟩;obtain⟨K,h1,h2,h3,h4⟩:=cl x ((u1 x).1 hx);obtain⟨K',k1,k2,k3,k4⟩:=cl y ((u1 y).1 hy);rw[h4,k4] at hlt;exact⟨K,K',hlt,h3,k3⟩
end Go.Proofs
namespace Go.Proofs
open Go.V Go.Flt Go.Tiles Go.Sort Go.Edges
variable {x y w:Nat} {i j n e f g K K':Int} {a b c d p q:Pt} {A B C D P Q k k':IP} {u v W:Rat} {m M:NM} {o:Ln} {cs qs:List Pt} {lns:List Ln} {V:bH->List Int}
inductive iX {α β:Type} (R:α->β->Prop):List α->List β->Prop where
 |nil:iX R [] []
 |cons {a:α} {b:β} {xs:List α} {ys:List β}:R a b->iX R xs ys->iX R (a::xs) (b::ys)
theorem iX.app {α β:Type} {R:α->β->Prop} {xs us:List α} {ys ws:List β} (h:iX R xs ys) (k:iX R us ws):iX R (xs++us) (ys++ws):=by
 induction h with
 |nil=>exact k
 |cons h1 _ ih=>exact .cons h1 ih
theorem iX.imp {α β:Type} {R S:α->β->Prop} (hRS:∀a b,R a b->S a b) {xs:List α} {ys:List β} (h:iX R xs ys):iX S xs ys:=by
 induction h with
 |nil=>exact .nil
 |cons h1 _ ih=>exact .cons (hRS _ _ h1) ih
inductive s8 (CH:IP->IP->List Pt->Prop):List IP->List Pt->Prop where
 |one {A:IP}:s8 CH [A] [aA A]
 |cons {A B:IP} {L:List IP} {ch out:List Pt}:CH A B ch->s8 CH (B::L) out->s8 CH (A::B::L) (aA A::(ch++out))
theorem s8.imp {CH CH':IP->IP->List Pt->Prop} {L:List IP} {l:List Pt} (h:s8 CH L l) (hi:∀A B ch,(A,B)∈aD L->CH A B ch->CH' A B ch):s8 CH' L l:=by
 induction h with
 |one=>exact .one
 |cons h1 _ ih=>exact .cons (hi _ _ _ (.head _) h1) (ih λA B ch hm=>hi A B ch (.tail _ hm))
abbrev pW (lns:List Ln) (V:bH->List Int) (M:NM) (A B:IP) (ch:List Pt):Prop:=rU lns (V (ia (aA A,aA B))) M A B ch
theorem Qy (h:TE A B):aV (aA A) (aA B)=false:=by
 rw[NH (hY h.gA) (hY h.gB)];exact decide_eq_false h.ne
theorem QS (hW:nq w W) (hl:∀o∈lns,x8 o):∀(L:List IP) (A:IP) (s s':qy eX) (out:List Pt),(∀p∈aD (A::L),TE p.1 p.2)->nr w s.1->pU (qG w eX lns V) s (bK ((A::L).map aA)) out s'->
  nr w s'.1/\(∀e∈s.1,e∈s'.1)/\s8 (pW lns V s'.1) (A::L) (out++((A::L).map aA).getLast?.toList)
 |[],A,s,s',out,ht,hm,h=>by
  cases h with
  |nil=>exact⟨hm,λe he=>he,.one⟩
 |B::L,A,s,s',out,ht,hm,h=>by
  have hAB:=ht (A,B) (.head _);have e:bK ((A::B::L).map aA)=(aA A,aA B)::bK ((B::L).map aA):=by
   simp only[dV,bK,Qy hAB];rfl
  rw[e] at h;cases h with
  |cons h1 h2 h3=>
   obtain⟨c1,c2,c3⟩:=akM hW hAB hl hm h1 h2;obtain⟨i1,i2,i3⟩:=QS hW hl L B _ s' _ (λp hp=>ht p (.tail _ hp)) c2 h3;refine⟨i1,λe he=>i2 e (c3 e he),?_⟩;have e2:((A::B::L).map aA).getLast?.toList=((B::L).map aA).getLast?.toList:=by simp[PJ]
   rw[e2];simp only[pY,cG];exact .cons (c1.later i1 i2) i3
theorem RS (hW:nq w W) (hl:∀o∈lns,x8 o) {L:List IP} {l':List Pt} {s s':qy eX} (hne:L≠[]) (ht:∀p∈aD L,TE p.1 p.2) (hm:nr w s.1) (h:wq (qG w eX lns V) s (L.map aA) l' s'):
  nr w s'.1/\(∀e∈s.1,e∈s'.1)/\s8 (pW lns V s'.1) L l':=by
 obtain⟨out,h1,rfl⟩:=h;cases L with
 |nil=>exact absurd rfl hne
 |cons A L=>exact QS hW hl L A s s' out ht hm h1
def AF (L:List IP):Prop:=L≠[]/\∀p∈aD L,TE p.1 p.2
theorem adk (hW:nq w W) (hl:∀o∈lns,x8 o) {ls ls':List (List Pt)} {s s':qy eX} (h:oK (qG w eX lns V) s ls ls' s'):∀{Ls:List (List IP)},ls=Ls.map (List.map aA)->(∀L∈Ls,AF L)->nr w s.1->
  nr w s'.1/\(∀e∈s.1,e∈s'.1)/\iX (s8 (pW lns V s'.1)) Ls ls':=by
 induction h with
 |nil=>
  intro Ls e _ hm;have:Ls=[]:=XP.1 e.symm;subst this;exact⟨hm,λe he=>he,.nil⟩
 |@snoc m s' ls ls' l l' h1 h2 ih=>
  intro Ls e hL hm;obtain⟨L1,L2,e1,e2,e3⟩:=Dp.1 e;subst e1;obtain⟨L,rfl,e4⟩:∃L,L2=[L]/\L.map aA=l:=by
   match L2,e3 with
   |[L],e3=>exact⟨L,rfl,by simpa using e3⟩
  obtain⟨i1,i2,i3⟩:=ih e2.symm (λL hL'=>hL L (bq _ hL')) hm;rw[<-e4] at h2;have hg:=hL L (bI _ (.head _));obtain⟨j1,j2,j3⟩:=RS hW hl hg.1 hg.2 i1 h2;exact⟨j1,λe he=>j2 e (i2 e he),(i3.imp λL' l' hc=>hc.imp λA B ch _ hch=>hch.later j1 j2).app (.cons j3 .nil)⟩
theorem adm (hW:nq w W) (hl:∀o∈lns,x8 o) {g g':GM} {s s':qy eX} (h:jq (qG w eX lns V) s g g' s'):∀{Ls:List (List IP)},g.lines=Ls.map (List.map aA)->(∀L∈Ls,AF L)->nr w s.1->
  nr w s'.1/\(∀e∈s.1,e∈s'.1)/\iX (s8 (pW lns V s'.1)) Ls g'.lines:=by
 induction h with
 |@ls s s' l l' h=>
  intro Ls e hL hm;obtain⟨L,rfl,e4⟩:∃L,Ls=[L]/\L.map aA=l:=by
   match Ls,e with
   |[L],e=>exact⟨L,rfl,(by simpa[GM.lines] using e.symm)⟩
  rw[<-e4] at h;have hg:=hL L (.head _);obtain⟨j1,j2,j3⟩:=RS hW hl hg.1 hg.2 hm h;exact⟨j1,j2,.cons j3 .nil⟩
 |mls h=>intro Ls e hL hm;exact adk hW hl h e hL hm
 |gc0=>
  intro Ls e hL hm;have:Ls=[]:=XP.1 e.symm;subst this;exact⟨hm,λe he=>he,.nil⟩
 |snoc h1 h2 ih1 ih2=>
  intro Ls e hL hm;simp only[GM.lines,si,ck,jz] at e;obtain⟨L1,L2,e1,e2,e3⟩:=Dp.1 e;subst e1;obtain⟨i1,i2,i3⟩:=ih1 (by simp only[GM.lines];exact e2.symm) (λL hL'=>hL L (bq _ hL')) hm;obtain⟨j1,j2,j3⟩:=ih2 e3.symm (λL hL'=>hL L (bI _ hL')) i1;refine⟨j1,λe he=>j2 e (i2 e he),?_⟩;simp only[GM.lines,si,ck,jz] at i3 ⊢;exact(i3.imp λL' l' hc=>hc.imp λA B ch _ hch=>hch.later j1 j2).app j3
end Go.Proofs
namespace Go.Proofs
open Go.V Go.Flt Go.Tiles Go.Sort Go.Edges
variable {x y w z:Nat} {i j n e f g K K':Int} {a b c d p q:Pt} {A B C D P Q k k':IP} {u v W:Rat} {m M:NM} {o:Ln} {cs qs pts:List Pt} {lns:List Ln} {V:bH->List Int}
theorem An (h:aZ p):∃P,p=aA P/\gd P/\(P.1+P.2)%2=0:=by obtain⟨P,h1,h2,h3⟩:=h;exact⟨P,h3,h1,h2⟩
theorem aem (gA:gd A) (gB:gd B) (gP:gd P) (h:tC (vT (aA P)) (ia (aA A,aA B))=true):pu A B P:=by
 have ha:=hY gA;have hb:=hY gB;have hp:=hY gP;have x1:FI (bif fJ (aA A).1 (aA B).1 then(aA B).1 else(aA A).1) (min A.1 B.1):=by
  rw[tJ ha.x hb.x];by_cases h1:B.1<A.1
  ·simp only[h1,decide_true,cond_true];rw[Pe aa];exact hb.x
  ·simp only[h1,decide_false,cond_false];rw[Pc aa];exact ha.x
 have x2:FI (bif fJ (aA A).1 (aA B).1 then(aA A).1 else(aA B).1) (max A.1 B.1):=by
  rw[tJ ha.x hb.x];by_cases h1:B.1<A.1
  ·simp only[h1,decide_true,cond_true];rw[Pd aa];exact ha.x
  ·simp only[h1,decide_false,cond_false];rw[Pf aa];exact hb.x
 have y1:FI (bif fJ (aA A).2 (aA B).2 then(aA B).2 else(aA A).2) (min A.2 B.2):=by
  rw[tJ ha.y hb.y];by_cases h1:B.2<A.2
  ·simp only[h1,decide_true,cond_true];rw[Pe aa];exact hb.y
  ·simp only[h1,decide_false,cond_false];rw[Pc aa];exact ha.y
 have y2:FI (bif fJ (aA A).2 (aA B).2 then(aA A).2 else(aA B).2) (max A.2 B.2):=by
  rw[tJ ha.y hb.y];by_cases h1:B.2<A.2
  ·simp only[h1,decide_true,cond_true];rw[Pd aa];exact ha.y
  ·simp only[h1,decide_false,cond_false];rw[Pf aa];exact hb.y
 unfold tC Ai ia vT at h;dsimp only at h;rw[H9 hp.x x2,Ic hp.x x1,H9 hp.y y2,Ic hp.y y1] at h;simp only[eI,decide_eq_true_eq] at h;exact⟨⟨h.1,h.2.1⟩,h.2.2⟩
theorem abr (h:TE A B) (hP:∀y∈pts,aZ y) {s s':Unit} (hc:lI pts z s (aA A,aA B) cs s'):cs=[]:=by
 match cs,hc with
 |[],_=>rfl
 |y::cs,hc=>
  exfalso;obtain⟨h1,h2,h3⟩:=hc.2 y (.head _);obtain⟨P,rfl,gP,pP⟩:=An (hP y h1);have hb:=aem h.gA h.gB gP h2;unfold pu at hb;have d:=h.dir;have pa:=h.pA;have:(P.1=A.1/\P.2=A.2)\/(P.1=B.1/\P.2=B.2):=by omega
  have hPe:P=A\/P=B:=this.imp (λh=>mN h.1 h.2) (λh=>mN h.1 h.2);dsimp only at h3;have sA:=Cr (nX h.gA);have sB:=Cr (nX h.gB);rcases hPe with rfl|rfl
  ·rw[sA] at h3;cases h3
  ·rw[sB] at h3;simp at h3
theorem QR (hP:∀y∈pts,aZ y):∀(L:List IP) (A:IP) (s s':Unit) (out:List Pt),(∀p∈aD (A::L),TE p.1 p.2)->pU (lI pts z) s (bK ((A::L).map aA)) out s'->out++((A::L).map aA).getLast?.toList=(A::L).map aA
 |[],A,s,s',out,ht,h=>by cases h with|nil=>rfl
 |B::L,A,s,s',out,ht,h=>by
  have hAB:=ht (A,B) (.head _);have e:bK ((A::B::L).map aA)=(aA A,aA B)::bK ((B::L).map aA):=by
   simp only[dV,bK,Qy hAB];rfl
  rw[e] at h;cases h with
  |cons h1 h2 h3=>
   have hc:=abr hAB hP h1;subst hc;have hq:_=[]:=List.Perm.eq_nil h2.perm;subst hq;have ih:=QR hP L B _ s' _ (λp hp=>ht p (.tail _ hp)) h3;have e2:((A::B::L).map aA).getLast?.toList=((B::L).map aA).getLast?.toList:=by simp[PJ]
   rw[e2];simp only[uq,j6,pY];rw[ih];rfl
theorem RQ (hP:∀y∈pts,aZ y) {L:List IP} {l':List Pt} {s s':Unit} (hL:AF L) (h:wq (lI pts z) s (L.map aA) l' s'):l'=L.map aA:=by
 obtain⟨out,h1,rfl⟩:=h;cases L with
 |nil=>exact absurd rfl hL.1
 |cons A L=>exact QR hP L A s s' out hL.2 h1
theorem adi (hP:∀y∈pts,aZ y) {ls ls':List (List Pt)} {s s':Unit} (h:oK (lI pts z) s ls ls' s'):∀{Ls:List (List IP)},ls=Ls.map (List.map aA)->(∀L∈Ls,AF L)->ls'=ls:=by
 induction h with
 |nil=>intro Ls e _;rfl
 |@snoc m s' ls ls' l l' h1 h2 ih=>
  intro Ls e hL;obtain⟨L1,L2,e1,e2,e3⟩:=Dp.1 e;subst e1;obtain⟨L,rfl,e4⟩:∃L,L2=[L]/\L.map aA=l:=by
   match L2,e3 with
   |[L],e3=>exact⟨L,rfl,by simpa using e3⟩
  have i1:=ih e2.symm (λL hL'=>hL L (bq _ hL'));rw[<-e4] at h2;have i2:=RQ hP (hL L (bI _ (.head _))) h2;rw[i1,i2,e4]
theorem RU (hP:∀y∈pts,aZ y) {g g':GM} {s s':Unit} (h:jq (lI pts z) s g g' s'):∀{Ls:List (List IP)},g.lines=Ls.map (List.map aA)->(∀L∈Ls,AF L)->g'.lines=g.lines:=by
 induction h with
 |@ls s s' l l' h=>
  intro Ls e hL;obtain⟨L,rfl,e4⟩:∃L,Ls=[L]/\L.map aA=l:=by
   match Ls,e with
   |[L],e=>exact⟨L,rfl,(by simpa[GM.lines] using e.symm)⟩
  rw[<-e4] at h;have i2:=RQ hP (hL L (.head _)) h;simp only[GM.lines];rw[i2,e4]
 |mls h=>intro Ls e hL;simp only[GM.lines];exact adi hP h e hL
 |gc0=>intro Ls e hL;rfl
 |snoc h1 h2 ih1 ih2=>
  intro Ls e hL;simp only[GM.lines,si,ck,jz] at e;obtain⟨L1,L2,e1,e2,e3⟩:=Dp.1 e;subst e1;have i1:=ih1 (by simp only[GM.lines];exact e2.symm) (λL hL'=>hL L (bq _ hL'));have i2:=ih2 e3.symm (λL hL'=>hL L (bI _ hL'));simp only[GM.lines,si,ck,jz] at i1 ⊢;rw[i1,i2]
theorem als {ln:Ln} {x:Pt} {st:List Pt×NM} (h:∀y∈st.1,aV y ln.1=false/\aV y ln.2=false):∀y∈(kO w ln x st).1,aV y ln.1=false/\aV y ln.2=false:=by
 unfold kO;split
 ·rename_i bk hb;intro y hy;dsimp only at hy;unfold oe at hy;split at hy
  ·exact h y hy
  ·rename_i hne;rcases bB.1 hy with hy|hy
   ·exact h y hy
   ·simp at hy;subst hy;simpa using hne
 ·exact h
theorem abP {ln:Ln} {st:List Pt×NM} (h:∀y∈st.1,aV y ln.1=false/\aV y ln.2=false):∀y∈(il w ln o st).1,aV y ln.1=false/\aV y ln.2=false:=by
 unfold il;split
 ·rename_i p q hs;have k:∀(c:Prop) [Decidable c] (x:Pt) (st:List Pt×NM),(∀y∈st.1,aV y ln.1=false/\aV y ln.2=false)->∀y∈(if c then st else kO w ln x st).1,aV y ln.1=false/\aV y ln.2=false:=λc _ x st h=>by
   split
   ·exact h
   ·exact als h
  exact k _ q _ (k _ p _ h)
 ·exact h
theorem Qc {ln:Ln}:∀(l:List Int) (st:List Pt×NM),(∀y∈st.1,aV y ln.1=false/\aV y ln.2=false)->∀y∈(ji w lns ln l st).1,aV y ln.1=false/\aV y ln.2=false
 |[],_,h=>h
 |i::l,st,h=>by
  unfold ji;rw[Dy];have ih:=Qc (ln:=ln) l (match lns[i.toNat]? with|some o=>il w ln o st|none=>st);unfold ji at ih;refine ih ?_;split
  ·exact abP h
  ·exact h
noncomputable def ij (p:Pt):Rat×Rat:=by classical exact if h:∃X:Rat×Rat,FV p.1 X.1/\FV p.2 X.2 then h.choose else(0,0)
theorem Qd {u v:Rat} (h1:FV p.1 u) (h2:FV p.2 v):ij p=(u,v):=by
 unfold ij;have hex:∃X:Rat×Rat,FV p.1 X.1/\FV p.2 X.2:=⟨(u,v),h1,h2⟩;rw[dif_pos hex];exact mN (FV.uniq hex.choose_spec.1 h1) (FV.uniq hex.choose_spec.2 h2)
theorem Ij (hp:eX p) (hq:eX q):aV p q=decide (ij p=ij q):=by
 obtain⟨u,hu,_⟩:=hp.x;obtain⟨v,hv,_⟩:=hp.y;obtain⟨u',hu',_⟩:=hq.x;obtain⟨v',hv',_⟩:=hq.y;rw[Qd hu hv,Qd hu' hv'];unfold aV;rw[we hu hu',we hv hv'];by_cases h1:u=u'<;>by_cases h2:v=v'<;>simp[h1,h2]
theorem Qi:∀(l:List Pt) (a:Pt),(∀x∈a::l,eX x)->∀p∈aD (a::lk a l),ij p.1≠ij p.2
 |[],a,_,p,hp=>by unfold lk at hp;cases hp
 |b::l,a,h,p,hp=>by
  have hb':=Ij (h b (.tail _ (.head _))) (h a (.head _));have ih:=Qi l b (λx hx=>h x (.tail _ hx));unfold lk at hp;by_cases hb:aV b a=true
  ·rw[if_pos hb] at hp;rw[hb] at hb';have hv:ij b=ij a:=by simpa using hb'.symm
   cases hu:lk b l with
   |nil=>rw[hu] at hp;cases hp
   |cons c t=>
    rw[hu] at hp ih;rcases bm.1 hp with rfl|hp
    ·have:=ih (b,c) (.head _);dsimp only at this ⊢;rw[<-hv];exact this
    ·exact ih p (.tail _ hp)
  ·rw[if_neg hb] at hp;rcases bm.1 hp with rfl|hp
   ·dsimp only;intro e;rw[e] at hb';simp at hb';exact hb hb'
   ·exact ih p hp
theorem Yx {l:List Pt} (h:∀x∈l,eX x):∀p∈aD (uq l),ij p.1≠ij p.2:=by
 cases l with
 |nil=>intro p hp;cases hp
 |cons a l=>exact Qi l a h
theorem adA {α:Type}:∀(l:List α) (a b:α) (t:List α),∀p∈aD (a::(l++b::t)),p∈aD (a::(l++[b]))\/p∈aD (b::t):=by
 intro l a b t p hp;have:=Af (a::l) b t;rw[pY] at this;rw[this] at hp;rcases bB.1 hp with h|h
 ·exact .inl (by rw[<-pY];exact h)
 ·exact .inr h
theorem ady {l:List Pt} {a b:Pt} (h:∀p∈aD l,ij p.1≠ij p.2) (ha:∀x∈l,ij a≠ij x) (hb:∀x∈l,ij x≠ij b) (hab:ij a≠ij b):∀p∈aD (a::(l++[b])),ij p.1≠ij p.2:=by
 have tail:∀(l:List Pt),(∀p∈aD l,ij p.1≠ij p.2)->(∀x∈l,ij x≠ij b)->∀p∈aD (l++[b]),ij p.1≠ij p.2:=by
  intro l
  induction l with
  |nil=>intro _ _ p hp;cases hp
  |cons c l ih=>
   intro h hb p hp;cases l with
   |nil=>
    rcases bm.1 hp with rfl|hp
    ·exact hb c (.head _)
    ·cases hp
   |cons d l=>
    rcases bm.1 hp with rfl|hp
    ·exact h (c,d) (.head _)
    ·exact ih (λp hp=>h p (.tail _ hp)) (λx hx=>hb x (.tail _ hx)) p hp
 intro p hp;cases l with
 |nil=>
  rcases bm.1 hp with rfl|hp
  ·exact hab
  ·cases hp
 |cons c l=>
  rcases bm.1 hp with rfl|hp
  ·exact ha c (.head _)
  ·exact tail (c::l) h hb p hp
theorem KW {α:Type} {R:α->Ln->List Pt->α->Prop} (hR:∀s ln cs s',aZ ln.1->aZ ln.2->aV ln.1 ln.2=false->R s ln cs s'->∀x∈cs,eX x/\aV x ln.1=false/\aV x ln.2=false):
  ∀(l:List Pt) (a:Pt) (s s':α) (out:List Pt),(∀x∈a::l,aZ x)->pU R s (bK (a::l)) out s'->(∃t,out++(a::l).getLast?.toList=a::t)/\(∀x∈out++(a::l).getLast?.toList,eX x)/\∀p∈aD (out++(a::l).getLast?.toList),ij p.1≠ij p.2
 |[],a,s,s',out,hl,h=>by
  cases h with
  |nil=>
   obtain⟨P,rfl,gP,_⟩:=An (hl a (.head _));refine⟨⟨[],O⟩,λx hx=>?_,λp hp=>by cases hp⟩;simp at hx;subst hx;exact nX gP
 |b::l,a,s,s',out,hl,h=>by
  have e2:(a::b::l).getLast?.toList=(b::l).getLast?.toList:=by simp[PJ]
  obtain⟨P,rfl,gP,_⟩:=An (hl a (.head _));obtain⟨Q,rfl,gQ,_⟩:=An (hl b (.tail _ (.head _)));rw[e2];by_cases hab:aV (aA P) (aA Q)=true
  ·have e:bK (aA P::aA Q::l)=bK (aA Q::l):=by simp only[bK,hab,if_true]
   rw[e] at h;have he:=hab;rw[NH (hY gP) (hY gQ)] at he;have hPQ:P=Q:=by simpa using he
   subst hPQ;exact KW hR l (aA P) s s' out (λx hx=>hl x (.tail _ hx)) h
  ·have e:bK (aA P::aA Q::l)=(aA P,aA Q)::bK (aA Q::l):=by simp only[bK,hab,if_false];rfl
   rw[e] at h;cases h with
   |@cons _ _ _ _ cs qs _ out' h1 h2 h3=>
    have hc:=hR _ _ _ _ (hl _ (.head _)) (hl _ (.tail _ (.head _))) (by simpa using hab) h1;obtain⟨⟨t,ht⟩,i2,i3⟩:=KW hR l (aA Q) _ s' _ (λx hx=>hl x (.tail _ hx)) h3;have hq:∀x∈uq qs,eX x/\aV x (aA P)=false/\aV x (aA Q)=false:=λx hx=>hc x (h2.perm.mem_iff.1 (KA hx));have hqs:∀x∈qs,eX x:=λx hx=>(hc x (h2.perm.mem_iff.1 hx)).1;simp only[pY,cG];refine⟨⟨_,O⟩,λx hx=>?_,?_⟩
    ·rcases bm.1 hx with rfl|hx
     ·exact nX gP
     ·rcases bB.1 hx with hx|hx
      ·exact(hq x hx).1
      ·exact i2 x hx
    ·rw[ht] at i3 ⊢;intro p hp;rcases adA _ _ _ _ p hp with hp|hp
     ·refine ady (Yx hqs) (λx hx e=>?_) (λx hx e=>?_) (λe=>?_) p hp
      ·have:=(hq x hx).2.1;rw[Ij (hq x hx).1 (nX gP),<-e] at this;simp at this
      ·have:=(hq x hx).2.2;rw[Ij (hq x hx).1 (nX gQ),e] at this;simp at this
      ·rw[Ij (nX gP) (nX gQ),e] at hab;simp at hab
     ·exact i3 p hp
end Go.Proofs
namespace Go.Proofs
open Go.V Go.Flt Go.Tiles Go.Sort Go.Edges
variable {x y w z:Nat} {i j n e f g K K':Int} {a b c d p q:Pt} {A B C D P Q k k':IP} {u v W:Rat} {m M:NM} {o:Ln} {cs qs pts ch:List Pt} {lns:List Ln} {V:bH->List Int} {l:List Int}
def s2:Rat:=6369051672525773/4503599627370496
def wk (k k':IP):Rat:=if(k.1-k'.1=0\/k.2-k'.2=0) then(((k.1-k'.1).natAbs+(k.2-k'.2).natAbs:Nat):Rat)/(LL:Rat) else s2*(((k.1-k'.1).natAbs:Nat):Rat)/(LL:Rat)
theorem X4:wk k k'=wk k' k:=by
 unfold wk;have e1:(k.1-k'.1).natAbs=(k'.1-k.1).natAbs:=by omega
 have e2:(k.2-k'.2).natAbs=(k'.2-k.2).natAbs:=by omega
 have e3:(k.1-k'.1=0\/k.2-k'.2=0)↔(k'.1-k.1=0\/k'.2-k.2=0):=by omega
 rw[e1,e2];by_cases h:k.1-k'.1=0\/k.2-k'.2=0
 ·rw[if_pos h,if_pos (e3.1 h)]
 ·rw[if_neg h,if_neg (λh'=>h (e3.2 h'))]
def qv (A B:IP):Rat:=if(A.1=B.1\/A.2=B.2) then 2 else s2
theorem aj4 (N L:Rat):((2:Nat):Rat)*N/L=2*(N/L):=by
 have:((2:Nat):Rat)=2:=rfl;rw[this,O9,O9,tg]
theorem P6 (h:TE A B) (hlt:K<K'):wk (bP A B K) (bP A B K')=qv A B*(cd K'-cd K):=by
 rw[Rj];unfold wk bP qv cd;dsimp only;have x1:∀a d:Int,LL*a+K*d-(LL*a+K'*d)= -((K'-K)*d):=by intro a d;grind
 rw[x1,x1];have ek:(K'-K:Int)=((K'-K).natAbs:Int):=by omega
 have er:((K'-K:Int):Rat)=(((K'-K).natAbs:Nat):Rat):=by
  conv=>lhs;rw[ek]
  rfl
 have hp:0<(K'-K).natAbs:=by omega
 rw[er];generalize (K'-K).natAbs=N at*;rw[ek];have hne:(N:Int)≠0:=by omega
 rcases h.dir with⟨e1,e2⟩|⟨e1,e2⟩|⟨e1,e2⟩|⟨e1,e2⟩|⟨e1|e1,e2|e2⟩<;>rw[e1,e2]
 ·rw[if_pos (.inr aa),if_pos (.inr aa)];have:(-((N:Int)*2)).natAbs+(-((N:Int)*0)).natAbs=2*N:=by omega
  rw[this,ja];exact Js
 ·rw[if_pos (.inr aa),if_pos (.inr aa)];have:(-((N:Int)* -2)).natAbs+(-((N:Int)*0)).natAbs=2*N:=by omega
  rw[this,ja];exact Js
 ·rw[if_pos (.inl aa),if_pos (.inl aa)];have:(-((N:Int)*0)).natAbs+(-((N:Int)*2)).natAbs=2*N:=by omega
  rw[this,ja];exact Js
 ·rw[if_pos (.inl aa),if_pos (.inl aa)];have:(-((N:Int)*0)).natAbs+(-((N:Int)* -2)).natAbs=2*N:=by omega
  rw[this,ja];exact Js
 all_goals
  rw[if_neg aa,if_neg aa];have h1:(-((N:Int)*1)).natAbs=N:=by omega
  have h2:(-((N:Int)* -1)).natAbs=N:=by omega
  first|rw[h1]|rw[h2]
  rw[O9,O9,tg]
noncomputable def Iy (p:Pt):IP:=by classical exact if h:∃k,dJ p k then h.choose else(0,0)
theorem Ix (h:dJ p k):Iy p=k:=by
 unfold Iy;have hex:∃k,dJ p k:=⟨k,h⟩;rw[dif_pos hex];exact pt hex.choose_spec h
noncomputable def wt (s:Pt×Pt):Rat:=wk (Iy s.1) (Iy s.2)
theorem P3 (s:Pt×Pt):wt (s.2,s.1)=wt s:=X4
def eJ:List Rat->Rat
 |[]=>0
 |a::l=>a+eJ l
theorem Bz (a b:List Rat):eJ (a++b)=eJ a+eJ b:=by
 induction a with
 |nil=>simp only[j6,eJ];grind
 |cons x a ih=>simp only[pY,eJ,ih];grind
theorem abE {a b:List Rat} (h:a.Perm b):eJ a=eJ b:=by
 induction h with
 |nil=>rfl
 |cons x _ ih=>simp only[eJ,ih]
 |swap x y l=>simp only[eJ];grind
 |trans _ _ ih1 ih2=>exact ih1.trans ih2
inductive mw (A B:IP):Int->List Pt->Int->Prop where
 |one {p:Pt} {K:Int}:dJ p (bP A B K)->Fr K->mw A B K [p] K
 |cons {p:Pt} {K K' J:Int} {l:List Pt}:dJ p (bP A B K)->Fr K->K<K'->mw A B K' l J->mw A B K (p::l) J
theorem mw.le (h:mw A B K l' J):K<=J:=by
 induction h with
 |one _ _=>omega
 |cons _ _ h _ ih=>omega
theorem mw.fr {l':List Pt} (h:mw A B K l' J):Fr K:=by cases h<;>assumption
theorem mw.head {l':List Pt} (h:mw A B K l' J):∃q t,l'=q::t/\dJ q (bP A B K):=by cases h<;>exact⟨_,_,rfl,by assumption⟩
theorem mw.sum (hE:TE A B) {l':List Pt} (h:mw A B K l' J):eJ ((aD l').map wt)=qv A B*(cd J-cd K):=by
 induction h with
 |one _ _=>simp only[aD,th,eJ];grind
 |@cons p K K' J l hc hf hlt h ih=>
  obtain⟨q,t,rfl,hq⟩:=h.head;have e:aD (p::q::t)=(p,q)::aD (q::t):=rfl;rw[e,dV];have e2:wt (p,q)=qv A B*(cd K'-cd K):=by
   unfold wt;dsimp only;rw[Ix hc,Ix hq];exact P6 hE hlt
  show wt (p,q)+eJ ((aD (q::t)).map wt)=_;rw[ih,e2];generalize cd K=a;generalize cd K'=b;generalize cd J=c;grind
theorem mw.len {l':List Pt} (h:mw A B K l' J):LL*((l'.length:Int)-1)<=400*(J-K):=by
 induction h with
 |one _ _=>simp
 |@cons p K K' J l hc hf hlt h ih=>
  have:=U3 hf h.fr hlt;simp only[cE];have e:((l.length+1:Nat):Int)-1=((l.length:Int)-1)+1:=by omega
  rw[e,Int.mul_add];omega
theorem mw.step {l':List Pt} (h:mw A B K l' J):∀s∈aD l',∃I I',Fr I/\Fr I'/\I<I'/\dJ s.1 (bP A B I)/\dJ s.2 (bP A B I')/\K<=I/\I'<=J:=by
 induction h with
 |one _ _=>intro s hs;cases hs
 |@cons p K K' J l hc hf hlt h ih=>
  intro s hs;have hle:=h.le;obtain⟨q,t,rfl,hq⟩:=h.head;rcases bm.1 hs with rfl|hs
  ·exact⟨K,K',hf,h.fr,hlt,hc,hq,Int.le_refl _,hle⟩
  ·obtain⟨I,I',a1,a2,a3,a4,a5,a6,a7⟩:=ih s hs;exact⟨I,I',a1,a2,a3,a4,a5,aa,a7⟩
theorem akL (hE:TE A B) (h:rU lns l M A B ch):mw A B 0 (aA A::(ch++[aA B])) LL:=by
 have cA:dJ (aA A) (bP A B 0):=by rw[MJ];exact yI hE.gA
 have cB:dJ (aA B) (bP A B LL):=by rw[Tz];exact yI hE.gB
 have hmem:∀q∈ch,∃K,Fr K/\0<K/\K<LL/\dJ q (bP A B K):=λq hq=>by
  obtain⟨K,⟨i,hi,o,p,h1,h2⟩,e,he,rfl,h3⟩:=(h.mem q).1 hq;exact⟨K,h2.fr,h2.lo,h2.hi,h3⟩
 have go:∀(ch:List Pt) (p:Pt) (K:Int),dJ p (bP A B K)->Fr K->K<LL->(∀q∈ch,∃J,Fr J/\K<J/\J<LL/\dJ q (bP A B J))->(ch.Pairwise λq q'=>∃K K',K<K'/\dJ q (bP A B K)/\dJ q' (bP A B K'))->mw A B K (p::(ch++[aA B])) LL:=by
  intro ch
  induction ch with
  |nil=>intro p K hp hf hlt _ _;exact .cons hp hf hlt (.one cB aiM)
  |cons q ch ih=>
   intro p K hp hf hlt hq hord;obtain⟨J,j1,j2,j3,j4⟩:=hq q (.head _);obtain⟨o1,o2⟩:=oW.1 hord;refine .cons hp hf j2 (ih q J j4 j1 j3 (λr hr=>?_) o2);obtain⟨I,i1,i2,i3,i4⟩:=hq r (.tail _ hr);obtain⟨H,H',hlt',c1,c2⟩:=o1 r hr;have e1:=tF hE (pt c1 j4);have e2:=tF hE (pt c2 i4);exact⟨I,i1,aa,i3,i4⟩
 exact go ch (aA A) 0 cA Nv bz (λq hq=>by obtain⟨K,h1,h2,h3,h4⟩:=hmem q hq;exact⟨K,h1,h2,h3,h4⟩) h.ord
end Go.Proofs
namespace Go.Proofs
open Tryz
open Go.V Go.Tiles Go.Edges
variable {x:RI} {p:Option Addr} {cp:Nat} {xs:List RI}
theorem ai0 (l:List IP) (P:IP):bl ((l++[P]).map aA)=bl (l.map aA)++[aw (fI P.1),aw (fI P.2)]:=by simp[bl,aA]
theorem aix (hb:x.l.length<=1048576):ai prog 22 [.agg x.sh.toArray].toArray [x.fact] [] (λv Fs' L'=>(∃q:Sq,q.l=x.l.map aA/\v= .agg q.ig.toArray/\Fs'=[q.fact])/\L'=[]):=by
 refine am func22 λ_=>(au) ?_;intro b1;refine(aq) ?_;intro r2;refine(cn) ?_;refine dl (r:=b1) tA<|(rI) ?_;refine az ab O O O (cY (j:=0) (aR (xs:=x.sh) mA) O) O<|(cN)<|(aq) ?_;intro r3;refine(dS)<|(ba)<|(cQ) ?_;refine az ab O O O (cY (j:=1) (aR (xs:=x.sh) mA) O) O<|(gW)<|aU [(5,5),(14,29)] (λ(y:Nat×Value×List ae)=>y.1<=x.l.length/\aJ 45 1 y.2.1 (2*(x.l.take y.1).length) (bl ((x.l.take y.1).map aA)) y.2.2) (λy=>[(14,iv y.1)]) (λ_=>[]) (λy=>y.2.2++[bL r3 41 [iv 2,iv 0,y.2.1,.slice none 0 0],bL r2 41 [iv 0,iv 0,.slice none 0 0,.slice none 0 0]]) (λy=>x.l.length-y.1) ((0,.slice none 0 0,[])) (⟨bf _,by simpa[bl] using aJ.nil 45 1⟩) λ⟨i,nv,nB⟩ fr ⟨h5,h6⟩=>?_;dsimp only at h5 h6;have htl:(x.l.take i).length=i:=by rw[lV];omega
 obtain⟨np,nc,rfl⟩:=h6.shape;refine(cM)<|ao ?_ ?_
 ·intro hc15;have hlt:i<x.l.length:=by have:=of_decide_eq_true hc15;dsimp only at this;omega
  obtain⟨P,hP⟩:∃P,x.l[i]? =some P:=⟨_,aG hlt⟩;refine(ix) ?_;refine cU (size:=2) (i:=i) ab O O O O O aa mA aa (flat_take (F:=bT) (λ_ _=>O) hP) O λ_ _=>?_;refine aK ab O O O (aR (xs:=bT P) mA) O O<|(aq) ?_;intro r5;refine(cu)<|(rI)<|(FA)<|(dW)<|(Jr)<|(dW)<|(Jr)<|(eD) ?_;intro b26;refine di (e:=45) (size:=1) (news:=[aw (fI P.1),aw (fI P.2)]) ab O O O O O O O (B:=nB) tA h6 O (bD mA) O O dp (by show(2*(x.l.take i).length+2)*8<=_;omega) O λv' B' hs'=>?_;have hs2:aJ 45 1 v' (2*(x.l.take (i+1)).length) (bl ((x.l.take (i+1)).map aA)) B':=by rw[dO hP,ai0,aW,dZ,Nat.mul_add];exact hs'
  obtain⟨np2,nc2,rfl⟩:=hs2.shape;refine(cQ)<|(gn)<|(rM) ?_;exact⟨(i+1,_,B'),oA,⟨by dsimp only;omega,hs2⟩,lA,kA,fA,hA⟩
 ·intro hc15;have hge:i=x.l.length:=by have:=of_decide_eq_false hc15;dsimp only at this;omega
  rw[hge,dg] at h6;have hlm:2*x.l.length=2*(x.l.map aA).length:=by rw[cP]
  rw[hge,dg,hlm];rw[hlm] at h6;refine(jh)<|(ba)<|(cQ) ?_;refine az ab O O O (cY (j:=2) (aR (xs:=x.sh) mA) O) O<|(gW)<|aU [(7,7),(33,44)] (λ(_:Unit)=>True) (λ_=>[(33,iv 0)]) (λ_=>[]) (λ_=>nB++[bL r3 41 [iv 2,iv 0,.slice np (2*(x.l.map aA).length) nc,.slice none 0 0],bL r2 41 [iv 0,iv 0,.slice none 0 0,.slice none 0 0]]) (λ_=>0) (()) (trivial) ?_;intro _ fr1 _;refine(ba) ?_;refine aL O O (by show some (decide ((0:Int)<0))=some false;rfl) O<|(cn)<|(gL)<|(jh) ?_;refine eN h6 tA<|(cJ)<|(gq)<|(eF)<|aH [gF np (x.l.map aA) nc] [] ?_;exact⟨⟨⟨np,x.l.map aA,nc⟩,O,O,O⟩,O⟩
abbrev se (xs:List RI):List (List Pt):=xs.map λx=>x.l.map aA
theorem aiw (hb:∀x∈xs,x.l.length<=1048576) (hn:xs.length<=1048576):ai prog 22 [.agg #[iv 3,.slice none 0 0,.slice p xs.length cp]].toArray [wg p xs cp] [] (λv Fs' L'=>(∃p' cp',v=xG 3 p' (se xs) cp'/\Fs'=[nj p' (se xs) cp'])/\L'=[]):=by
 refine nT (bF 3 (.slice p xs.length cp) xs.length (xs.flatMap RI.sh)) (λhp al=>(al (wg p xs cp) (.head _)).1) ?_;refine am func22 λ_=>(au) ?_;intro b1;refine(aq) ?_;intro r2;refine(cn) ?_;refine dl (r:=b1) tA<|(rI) ?_;refine az ab O O O (cY (j:=0) (aR (xs:=[iv 3,.slice none 0 0,.slice p xs.length cp]) mA) O) O<|(cN)<|(aq) ?_;intro r3;refine(dS)<|(ba)<|(cQ) ?_;refine az ab O O O (cY (j:=1) (aR (xs:=[iv 3,.slice none 0 0,.slice p xs.length cp]) mA) O) O<|(gW)<|aU [(5,5),(14,29)] (λ(_:Unit)=>True) (λ_=>[(14,iv 0)]) (λ_=>[]) (λ_=>[bL r3 41 [iv 3,iv 0,.slice none 0 0,.slice none 0 0],bL r2 41 [iv 0,iv 0,.slice none 0 0,.slice none 0 0]]) (λ_=>0) (()) (trivial) ?_;intro _ fr _;refine(ba) ?_;refine aL O O (by show some (decide ((0:Int)<0))=some false;rfl) O<|(cn)<|(gL)<|(jh)<|(ba) ?_;refine cL (gK []) (λhp al=>λx hx=>nomatch hx) ?_;refine(cQ) ?_;refine az ab O O O (cY (j:=2) (aR (xs:=[iv 3,.slice none 0 0,.slice p xs.length cp]) mA) O) O<|(gW)<|aU [(7,7),(33,44)] (λ(y:Nat×Value×List ae×List Sq)=>y.1<=xs.length/\y.2.2.2.map (·.l)=se (xs.take y.1)/\aJ 41 4 y.2.1 y.2.2.2.length (y.2.2.2.flatMap Sq.ig) y.2.2.1) (λy=>[(33,iv y.1)]) (λy=>[gK y.2.2.2]) (λy=>y.2.2.1++[bL r3 41 [iv 3,iv 0,.slice none 0 0,y.2.1],bL r2 41 [iv 0,iv 0,.slice none 0 0,.slice none 0 0]]) (λy=>xs.length-y.1) ((0,.slice none 0 0,[],[])) (⟨bf _,O,aJ.nil 41 4⟩) λ⟨i,kv,kB,qs⟩ fr ⟨h5,h6,h7⟩=>?_;dsimp only at h5 h6 h7;obtain⟨kp,kc,rfl⟩:=h7.shape;have hql:qs.length=i:=by have:=congrArg List.length h6;simp only[cP,lV] at this;omega
 refine(cM)<|ao ?_ ?_
 ·intro hc34;have hlt:i<xs.length:=by have:=of_decide_eq_true hc34;dsimp only at this;omega
  obtain⟨x,hx⟩:∃x,xs[i]? =some x:=⟨_,aG hlt⟩;have hxm:=bn hx;refine cI x.fact (λhp al=>(al (wg p xs cp) mA).2 x hxm)<|(ix) ?_;refine cU (size:=3) (i:=i) ab O O O O O aa mA aa (flat_take (F:=RI.sh) (λ_ _=>O) hx) O λ_ _=>?_;refine aK ab O O O (aR (xs:=x.sh) mA) O O<|(aq) ?_;intro r7;refine(cu) ?_;refine cz cw 6 [3,4,5] [5]<|(iU) ?_;refine ac O (az ab O O O (cY (j:=3) (bD mA) O) O)<|(Xx)<|(dT)<|aI eA call22 (aix (x:=x) (hb x hxm)) λv1 Fs1 ⟨q,e1,e2,e3⟩=>?_;subst e2;subst e3;refine(dU)<|(eD) ?_;intro b41;refine(dU) ?_;refine di (e:=41) (size:=4) (news:=q.ig) ab O O O O O O O (B:=kB) tA h7 O (bD mA) O O dp (by show(qs.length+1)*64<=_;omega) O λv' B' hs'=>?_;have hs2:aJ 41 4 v' (qs++[q]).length ((qs++[q]).flatMap Sq.ig) B':=by rw[aW,ft,zT];exact hs'
  obtain⟨kp2,kc2,rfl⟩:=hs2.shape;refine(rJ)<|(cQ)<|(gn)<|(aN)<|(ir) ?_;refine cI (gK (qs++[q])) (λhp al=>λy hy=>by{rcases bB.1 hy with hy|hy;exact al (gK qs) mA y hy;simp at hy;rw[hy];exact al q.fact mA})<|(cJ)<|(qA)<|(aN) ?_;exact⟨(i+1,_,B',qs++[q]),oA,⟨by dsimp only;omega,by dsimp only;simp only[se] at h6;simp only[se,dO hx,dX,dV,th,h6,e1],hs2⟩,lA,kA,fA,hA⟩
 ·intro hc34;have hge:i=xs.length:=by have:=of_decide_eq_false hc34;dsimp only at this;omega
  rw[hge,dg] at h6;have hll:qs.length=(se xs).length:=by rw[<-h6,cP]
  refine(jh) ?_;refine eN h7 tA ?_;rw[hll];refine cI (nj kp (se xs) kc) (λhp al=>⟨qs,h6,by rw[<-hll];rw[hll];exact al _ (.head _),λy hy=>al (gK qs) mA y hy⟩)<|(cJ)<|(gq)<|(eF)<|aH [nj kp (se xs) kc] [] ?_;exact⟨⟨kp,kc,O,O⟩,O⟩
theorem ajf (hb:∀x∈xs,x.l.length<=1048576) (hn:xs.length<=1048576):ai prog 13 [.agg #[iv 3,.slice none 0 0,.slice p xs.length cp]].toArray [wg p xs cp] [] (λv Fs' L'=>(∃p' cp',v=xG 3 p' (se xs) cp'/\Fs'=[nj p' (se xs) cp'])/\L'=[]):=by
 refine am func13 λ_=>(au) ?_;intro b1;refine(aq) ?_;intro r2;refine(eZ)<|(lQ)<|aI eA call22 (aiw (p:=p) (cp:=cp) hb hn) λv1 Fs1 ⟨kp,kc,e1,e2⟩=>?_;subst e1;subst e2;refine(eF)<|aH [nj kp (se xs) kc] [] ?_;exact⟨⟨kp,kc,O,O⟩,O⟩
end Go.Proofs
namespace Go.Proofs
open Tryz
open Go.V Go.Tiles Go.Edges
def NW (w h n e:Nat):Bool:=match Go.Tiles.bey w h n e with
 |some _=>true
 |none=>let r:=((eC w n e).2,(eC w n e).1);let c:=Go.Tiles.inv w r;!(Nat.blt c.1 (4*w*h)&&(Nat.blt c.2 3&&(Ca (eC w c.1 c.2).1 r.1&&Ca (eC w c.1 c.2).2 r.2)))
def akE:Bool:=gJ.all λs=>(List.range (4*s.1*s.2)).all λn=>[0,1,2].all λe=>NW s.1 s.2 n e
theorem akD:akE=true:=by decide+kernel
theorem akC {w h n e:Nat} (hs:(w,h)∈gJ) (hn:n<4*w*h) (he:e<3):NW w h n e=true:=by
 have h1:=kD.1 akD _ hs;have h2:=kD.1 h1 n (nL.2 hn);have h3:e=0\/e=1\/e=2:=by omega
 refine kD.1 h2 e ?_;rcases h3 with rfl|rfl|rfl<;>decide
theorem ajR (w n:Nat) {e:Nat} (he:e<3):(eC w n e).2=(eC w n ((e+1)%3)).1:=rfl
theorem T9 {p:IP} (h:inb p=true):gd p/\(p.1+p.2)%2=0:=by
 unfold inb at h;simp only[eI,decide_eq_true_eq,beq_iff_eq] at h;obtain⟨⟨⟨⟨h1,h2⟩,h3⟩,h4⟩,h5⟩:=h;exact⟨⟨aa,aa,aa,aa⟩,aa⟩
theorem ajP {w h n e:Nat} (hs:(w,h)∈gJ) (hn:n<4*w*h) (he:e<3):TE (eC w n e).1 (eC w n e).2:=by
 obtain⟨g1,p1⟩:=T9 (VJ hs hn he);have h2:=VJ hs hn (show(e+1)%3<3 from nI _ bz);rw[<-ajR w n he] at h2;obtain⟨g2,p2⟩:=T9 h2;have hst:=ajQ hs hn he;unfold stp at hst;simp only[Ka,eI,beq_iff_eq] at hst;exact⟨g1,g2,p1,p2,aa⟩
abbrev Sm (part:List Nat) (j:Nat):Bool:=decide (j∈part)
theorem Me {w h:Nat} {S:Nat->Bool} {part:List Nat} {x:IP×IP} (hx:x∈fk w h S part):∃n e,n∈part/\e<3/\x=eC w n e/\sk w h S (n,e)=false:=by
 rw[Im] at hx;obtain⟨⟨n,e⟩,h1,h2⟩:=aM.1 hx;obtain⟨h3,h4⟩:=uJ.1 h1;obtain⟨h5,h6⟩:=Ey.1 h3;exact⟨n,e,h5,h6,h2.symm,by simpa using h4⟩
theorem VF {w h:Nat} {S:Nat->Bool} {part:List Nat} (hs:(w,h)∈gJ) (hp:∀n∈part,n<4*w*h):∀x∈fk w h S part,TE x.1 x.2:=λx hx=>by
 obtain⟨n,e,h1,h2,rfl,_⟩:=Me hx;exact ajP hs (hp n h1) h2
theorem ajM {w h:Nat} {part:List Nat} (hs:(w,h)∈gJ) (hp:∀n∈part,n<4*w*h):FO (fk w h (Sm part) part):=by
 have hte:=VF (S:=Sm part) hs hp;refine⟨λx hx=>(hte x hx).ne,λx hx hr=>?_,λx hx=>?_⟩
 ·obtain⟨n,e,h1,h2,rfl,h3⟩:=Me hx;obtain⟨n',e',k1,k2,k3,_⟩:=Me hr;have hi:=VI hs (hp n' k1) k2;rw[<-k3] at hi;unfold sk at h3;dsimp only at h3;cases hb:Go.Tiles.bey w h n e with
  |some j=>
   rw[hb] at h3;obtain⟨j1,j2,j3⟩:=WJ hs (hp n h1) h2 hb;have hj:=VI hs j1 (WL h2);rw[j3] at hj;rw[hj] at hi;cases hi;simp[Sm,k1] at h3
  |none=>
   have hc:=akC hs (hp n h1) h2;unfold NW at hc;rw[hb] at hc;dsimp only at hc;rw[hi] at hc;dsimp only at hc;rw[<-k3] at hc;have e1:Nat.blt n' (4*w*h)=true:=by rw[vM];exact hp n' k1
   have e2:Nat.blt e' 3=true:=by rw[vM];exact k2
   rw[e1,e2,MS.2 rfl,MS.2 rfl] at hc;cases hc
 ·have h1:=(hte x hx).gA;have h2:=(hte x hx).gB;unfold sm;exact⟨⟨⟨by have:=h1.a;omega,by have:=h1.b;omega⟩,by have:=h1.c;omega,by have:=h1.d;omega⟩,⟨by have:=h2.a;omega,by have:=h2.b;omega⟩,by have:=h2.c;omega,by have:=h2.d;omega⟩
structure LG where
 p:Option Addr
 ls:List (List IP)
 cp:Nat
abbrev LG.lss (x:LG):List (List Pt):=x.ls.map (List.map aA)
abbrev LG.c (x:LG):List Value:=[iv 3,iv 0,.slice none 0 0,.slice x.p x.lss.length x.cp]
abbrev LG.fact (x:LG):an:=nj x.p x.lss x.cp
def xP (xs:List LG):an where
 p h:=∀x∈xs,x.fact.p h
 mono:=λhle h x hx=>x.fact.mono hle (h x hx)
def EZ (p:Option Addr) (xs:List LG) (cp:Nat):an where
 p h:=(bF 4 (.slice p xs.length cp) xs.length (xs.flatMap LG.c)).p h/\(xP xs).p h
 mono:=λhle ⟨h1,h2⟩=>⟨(bF _ _ _ _).mono hle h1,(xP xs).mono hle h2⟩
structure AM (n:Nat) (l:List Nat):Prop where
 nd:l.Nodup
 lt:∀m∈l,m<n
def A3 (w h:Nat) (x:LG) (part:List Nat):Prop:=C8 (fk w h (Sm part) part) x.ls
abbrev NX (w h:Nat) (v3 v4 v5:Value):Value:= .agg #[iv w,iv h,v3,v4,v5]
abbrev mV (n:Nat) (l:List Nat):List Bool:=(List.range n).map λj=>decide (j∈l)
theorem Mi (n:Nat) (l:List Nat):(mV n l).length=n:=by simp[mV]
theorem SW (n:Nat):mV n []=List.replicate n false:=by
 apply uH;intro j;rcases dL j n with h|h
 ·simp[mV,h]
 ·simp[mV,h]
theorem ae5 {n m:Nat} (l:List Nat) (hm:m<n):(mV n l).set m true=mV n (l++[m]):=by
 apply uH;intro j;rw[s9];by_cases h:m=j
 ·subst h;simp[mV,hm]
 ·rw[if_neg h];rcases dL j n with hj|hj
  ·have:¬j=m:=λe=>h e.symm;simp[mV,hj,this]
  ·simp[mV,hj]
theorem alB {n:Nat} {l:List Nat} (h:∀m∈l,m<n):je (mV n l)=Sm l:=by
 funext j;unfold je Sm;rcases dL j n with hj|hj
 ·simp[mV,List.getD,hj]
 ·have:j∉l:=λhm=>by have:=h j hm;omega
  simp[mV,List.getD,hj,this]
theorem Wy {g n:Nat} {l:List Bool} {hp:PH} (hl:l.length=n) (h0:0<n) (hb:n<=100) (h:(aO g 0 (l.flatMap bE++[])).p hp):(Ay (some ⟨g,0,none⟩) l n).p hp:=by
 rw[jz] at h;refine⟨kJ (F:=bE) λ_ _=>O,.inr ⟨g,0,n,by rw[hl],⟨aa,by simp only[maxLen];omega⟩,h⟩⟩
theorem Mq {E:List (IP×IP)} {ls:List (List IP)} {k:Nat} (h:C8 E ls) (hE:E.length<=3*k):3*ls.length<=3*k/\∀l∈ls,l.length<=3*k+1:=by
 have hlen:=h.perm.length_eq;have key:∀l:List IP,l.length<=(aD l).length+1:=by
  intro l
  induction l with
  |nil=>simp
  |cons a l ih=>cases l with
   |nil=>simp
   |cons b l=>simp only[aD,cE] at ih ⊢;omega
 have h3:∀ds:List (List IP),(∀l∈ds,4<=l.length)->3*ds.length<=(ds.flatMap aD).length:=by
  intro ds
  induction ds with
  |nil=>intro _;simp
  |cons d ds ih=>
   intro h;have:=ih λl hl=>h l (.tail _ hl);have hd:=h d (.head _);have:=key d;simp only[dC,aW,cE];omega
 refine⟨by have:=h3 ls h.len;omega,λl hl=>?_⟩;have:(aD l).length<=(ls.flatMap aD).length:=by
  obtain⟨i,hi⟩:=lg hl;rw[xM hi,ft,dC];simp only[aW];omega
 have:=key l;omega
variable {w h cp n:Nat} {p pi:Option Addr} {ps:List PI} {ov:Value} {ci:Nat}
theorem adF {g5:Nat} {x:PI} (hs:(w,h)∈gJ) (hw:1<=w/\w<=5) (hh:1<=h/\h<=5) (hn:n=4*w*h) (hn100:n<=100) (hok:AM n x.l) (hxl:x.l.length<=n):
  ai prog 14 [Bw w h (some ⟨g5,0,none⟩) n n,.slice x.p x.l.length x.cp].toArray [Ay (some ⟨g5,0,none⟩) (mV n x.l) n,E0 x.p x.l x.cp] [] (λv Fs' L'=>(∃p' xs cp',C8 (fk w h (Sm x.l) x.l) (xs.map RI.l)/\v= .agg #[iv 3,.slice none 0 0,.slice p' xs.length cp']/\Fs'=[wg p' xs cp'])/\L'=[]):=by
 have hml:=Mi n x.l;have hSo:=alB hok.lt;have hEo:=ajM (w:=w) (h:=h) hs (part:=x.l) (by rw[<-hn];exact hok.lt);have hBa:=ajN (w:=w) (h:=h) hs (S:=Sm x.l) hok.nd (λj=>by simp[Sm]) (by rw[<-hn];exact hok.lt);have h0:=adD (w:=w) (h:=h) (p:=some ⟨g5,0,none⟩) (cp:=n) (p2:=x.p) (cp2:=x.cp) (bs:=mV n x.l) (part:=x.l) hs hw hh (by rw[hml];exact hn) (by rw[hml];exact hok.lt) aa (by rw[hSo];exact hEo) (by rw[hSo];exact hBa);rw[hSo,hml] at h0;exact h0
theorem af4 (hs:(w,h)∈gJ) (hw:1<=w/\w<=5) (hh:1<=h/\h<=5) (hn:n=4*w*h) (hov:ov.oneCell'=true) (hps:∀x∈ps,AM n x.l) (hpl:ps.length<=1000):
  ai prog 6 [NX w h (.slice pi n ci) ov (.slice p ps.length cp)].toArray [q8 p ps cp] []
   (λv Fs' L'=>(∃p' xs cp',iX (A3 w h) xs (ps.map PI.l)/\v= .slice p' xs.length cp'/\Fs'=[EZ p' xs cp'])/\L'=[]):=by
 have hwh:w*h<=5*5:=uD hw.2 hh.2;have hn100:n<=100:=by rw[hn,nK];omega
 have hn0:0<n:=by
  have:1*1<=w*h:=uD hw.1 hh.1;rw[hn,nK];omega
 refine nT (bF 1 (.slice p ps.length cp) ps.length (ps.flatMap PI.c)) (λhp al=>(al (q8 p ps cp) (.head _)).1) ?_;refine nT (xP []) (λhp al=>λx hx=>nomatch hx) ?_;refine am func6 λ_=>(au) ?_;intro b1;refine(bR) ?_;refine dl (r:=b1) tA<|(cJ)<|(rD)<|(cQ) ?_;refine az ab O O O (cY (j:=4) (aR (xs:=[iv w,iv h,.slice pi n ci,ov,.slice p ps.length cp]) mA) O) O<|(gW)<|aU [(3,3),(5,6),(8,8),(12,46)] (λ(y:Nat×Value×List ae×List LG)=>y.1<=ps.length/\iX (A3 w h) y.2.2.2 ((ps.take y.1).map PI.l)/\aJ 41 4 y.2.1 y.2.2.2.length (y.2.2.2.flatMap LG.c) y.2.2.1/\y.2.2.2.length=y.1) (λy=>[(12,iv y.1),(3,y.2.1)]) (λy=>[xP y.2.2.2]) (λy=>y.2.2.1) (λy=>ps.length-y.1) ((0,.slice none 0 0,[],[])) (⟨bf _,.nil,aJ.nil 41 4,O⟩) λ⟨i,gv,gB,gs⟩ fr ⟨h5,h6,h7,h8⟩=>?_;dsimp only at h5 h6 h7 h8;obtain⟨gp,gc,rfl⟩:=h7.shape;refine(cM)<|ao ?_ ?_
 ·intro hc13;have hlt:i<ps.length:=by have:=of_decide_eq_true hc13;dsimp only at this;omega
  obtain⟨x,hx⟩:∃x,ps[i]? =some x:=⟨_,aG hlt⟩;have hxm:=bn hx;have hok:=hps x hxm;have hxl:=uN hok.nd hok.lt;refine cI x.fact (λhp al=>(al (q8 p ps cp) mA).2 x hxm)<|(ix) ?_;refine cU (size:=1) (i:=i) ab O O O O O aa mA aa (flat_take (F:=PI.c) (λ_ _=>O) hx) O λ_ _=>?_;refine az ab O O O (cY (j:=0) (aR (xs:=[.slice x.p x.l.length x.cp]) mA) O) O<|(bR)<|jl ([]) [(6,6),(16,27)] (λ(_:Nat×Nat)=>True) (λz=>[(6,aF z.2)]) (λ_=>[]) (λz=>[u9 z.1 (mV n []),bL z.2 25 [iv w,iv h,.slice (some ⟨z.1,0,none⟩) n n]]) ?_ ?_
  ·refine cz cw 13 [10,11,12] []<|(iU)<|(iU) ?_;refine ac O (az ab O O O (cY (j:=0) (aR (xs:=[iv w,iv h,.slice pi n ci,ov,.slice p ps.length cp]) mA) O) O)<|(iU)<|(iU) ?_;refine ac O (az ab O O O (cY (j:=1) (aR (xs:=[iv w,iv h,.slice pi n ci,ov,.slice p ps.length cp]) mA) O) O)<|(iU)<|(iU) ?_;refine ac O (az ab O O O (cY (j:=2) (aR (xs:=[iv w,iv h,.slice pi n ci,ov,.slice p ps.length cp]) mA) O) O)<|(zp)<|(zo) ?_;refine so (i:=10) (j:=12) br yA ?_ ?_
   ·refine(oj) ?_;refine ml (e:=4) (size:=1) ab O O O O O O (zl:=[.bool false]) nA O (l:=n) (cp:=n) O O (bg _) O (by show n*1<=_;omega) O λg5=>?_;rw[DG,<-SW];refine(px) ?_;refine so (i:=11) (j:=12) br yA ?_ ?_
    ·refine(oj)<|(cN)<|(dU)<|(aq) ?_;intro r6;refine(iy)<|(cu) ?_;exact⟨(g5,r6),trivial,lA,kA,fA,hA⟩
    ·refine(Jk) ?_;intro r6;refine(kr) ?_;exact⟨(g5,r6),trivial,lA,kA,fA,hA⟩
   ·refine(Jk) ?_;intro r6;refine(dU) ?_;refine ml (e:=4) (size:=1) ab O O O O O O (zl:=[.bool false]) nA O (l:=n) (cp:=n) O O (bg _) O (by show n*1<=_;omega) O λg5=>?_;rw[DG,<-SW];refine(kr) ?_;exact⟨(g5,r6),trivial,lA,kA,fA,hA⟩
  ·intro⟨g5,r6⟩ fj _;refine(eE)<|(gW)<|aU [(8,8),(30,38)] (λ(y:Nat)=>y<=x.l.length) (λy=>[(30,iv y)]) (λ_=>[]) (λy=>gB++[u9 g5 (mV n (x.l.take y)),bL r6 25 [iv w,iv h,.slice (some ⟨g5,0,none⟩) n n]]) (λy=>x.l.length-y) (0) (bf _) ?_;intro k fr2 k5;refine(cM)<|ao ?_ ?_
   ·intro hc31;have hlk:k<x.l.length:=by have:=of_decide_eq_true hc31;omega
    obtain⟨m,hm⟩:∃m,x.l[k]? =some m:=⟨_,aG hlk⟩;have hmn:=hok.lt m (bn hm);refine(ix) ?_;refine cU (size:=1) (i:=k) ab O O O O O aa mA aa (flat_take (F:=iq) (λ_ _=>O) hm) O λ_ _=>(fM)<|(bt)<|(rI)<|(FA)<|(aB) ?_;refine bp (s:=1) (i:=m) ab O O O O O aa aa O ?_;refine sp (F:=bE) (k:=1) (l:=mV n (x.l.take k)) (j:=m) (tl:=[]) ab O (λ_=>O) true O aa O O O O (by rw[Mi];omega) uA ?_;rw[ae5 _ hmn,<-dO hm];refine(rM) ?_;exact⟨k+1,oA,aa,lA,kA,fA,hA⟩
   ·intro hc31;have hge:k=x.l.length:=by have:=of_decide_eq_false hc31;omega
    subst hge;rw[dg];have hml:=Mi n x.l;have hpo:=adF (g5:=g5) hs hw hh hn hn100 hok hxl;refine(eG) ?_;refine dl (r:=g5) tA ?_;refine cI (Ay (some ⟨g5,0,none⟩) (mV n x.l) n) (λhp al=>Wy hml aa aa (al _ (.head _)))<|(aY)<|(lQ)<|(aB)<|aI eA call14 (hpo) λv1 Fs1 ⟨p1,xs,c1,hL,e1,e2⟩=>?_;subst e1;subst e2;obtain⟨hq1,hq2⟩:=Mq hL (yP (w:=w) (h:=h) (S:=Sm x.l) x.l);refine aI eA call13 (ajf (p:=p1) (cp:=c1) (xs:=xs) (λy hy=>by have:=hq2 y.l (aM.2 ⟨y,hy,O⟩);omega) (by rw[cP] at hq1;omega)) λv2 Fs2 ⟨p2,c2,e3,e4⟩=>?_;subst e3;subst e4;have hlss:se xs=LG.lss (LG.mk p2 (xs.map RI.l) c2):=by simp[se,LG.lss]
    rw[hlss];refine(eD) ?_;intro b44;refine di (e:=41) (size:=4) (news:=LG.c (LG.mk p2 (xs.map RI.l) c2)) ab O O O O O O O (B:=gB) tA h7 O (bD mA) O O dp (by show(gs.length+1)*64<=_;omega) O λv' B' hs'=>?_;have hs2:aJ 41 4 v' (gs++[(LG.mk p2 (xs.map RI.l) c2)]).length ((gs++[(LG.mk p2 (xs.map RI.l) c2)]).flatMap LG.c) B':=by rw[aW,ft,zT];exact hs'
    refine cL (xP (gs++[(LG.mk p2 (xs.map RI.l) c2)])) (λhp al=>λy hy=>by{rcases bB.1 hy with hy|hy;exact al (xP gs) mA y hy;simp at hy;rw[hy];exact al (nj p2 (LG.lss (LG.mk p2 (xs.map RI.l) c2)) c2) mA})<|(jr) ?_;exact⟨(i+1,v',B',gs++[(LG.mk p2 (xs.map RI.l) c2)]),oA,⟨by dsimp only;omega,by dsimp only;rw[dO hx,dX];exact h6.app (.cons hL .nil),hs2,by dsimp only;rw[aW,dZ];omega⟩,lA,kA,fA,hA⟩
 ·intro hc13;have hge:i=ps.length:=by have:=of_decide_eq_false hc13;dsimp only at this;omega
  rw[hge,dg] at h6;refine(jh) ?_;refine eN h7 tA ?_;refine cI (EZ gp gs gc) (λhp al=>⟨al _ (.head _),al (xP gs) mA⟩)<|(aY)<|(bO)<|aH [EZ gp gs gc] [] ?_;exact⟨⟨gp,gs,gc,h6,O,O⟩,O⟩
end Go.Proofs
