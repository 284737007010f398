/- Part 9 of the proof that FnMapBorders returns true for every input that its row lets in. No further condition. -/
import Derived.Test.YtpddkliglnoaaaaGreatDoorA08
set_option linter.all false
set_option autoImplicit true
set_option relaxedAutoImplicit true
namespace Go.Proofs
open Tryz
open Go.V Go.Edges
theorem abR {X:List Pt} {p:Pt} (h:p∈X):fe (fV X) (pv p)=some (.agg #[]):=by
 induction X with
 |nil=>cases h
 |cons a X ih=>
  by_cases e:p=a
  ·subst e;simp[fe]
  ·have hm:p∈X:=by rcases bm.1 h with h|h;exact absurd h e;exact h
   have hne:¬pv p=pv a:=λx=>e (yu _ _ x);simp only[fV,dV,fe,hne,if_false];exact ih hm
theorem abQ {X:List Pt} {p:Pt} (h:p∉X):fe (fV X) (pv p)=none:=by
 induction X with
 |nil=>rfl
 |cons a X ih=>
  have e:¬p=a:=λx=>h (x▸ .head _);have hne:¬pv p=pv a:=λx=>e (yu _ _ x);simp only[fV,dV,fe,hne,if_false];exact ih λx=>h (.tail _ x)
structure Fl (X:List Pt) (l:List Pt) (j k:Nat):Prop where
 lt:j<k
 len:k<l.length
 mid:∀m,j<m->m<k->∀p,l[m]? =some p->p∉X
 fin:∀p,l[k]? =some p->p∈X
abbrev qw (l:List Pt) (j k:Nat):List Pt:=(l.drop j).take (k+1-j)
inductive AH {α:Type} (R:α->List Pt->α->Prop) (X:List Pt) (l:List Pt):α->Nat->α->Nat->Prop where
 |nil {s i}:AH R X l s i s i
 |snoc {s i m j k s'}:AH R X l s i m j->Fl X l j k->R m (qw l j k) s'->AH R X l s i s' k
def Oh {α:Type} (St:α->Prop) (FF:α->List an) (LL:α->List ae) (R:α->List Pt->α->Prop) (G:List an) (fn:Nat) (fv cv:List Value) (ok:List Pt->Prop):Prop:=
 ∀(s:α) (q:Sq) (i:Nat),i<=1152921504606846976->St s->ok q.l->ai prog fn (fv++([q.v,iv i]++cv)).toArray (FF s++(q.fact::G)) (LL s) (λv Fs' L'=>∃s',(R s q.l s'/\St s')/\v= .tuple #[]/\Fs'=FF s'/\L'=LL s')
variable {α:Type} {St:α->Prop} {FF:α->List an} {LL:α->List ae} {R:α->List Pt->α->Prop} {G:List an} {fn:Nat} {fv cv:List Value} {ok:List Pt->Prop} {s:α} {q:Sq} {X:List Pt} {rx:Nat}
theorem U6 (hc:∀(args:Array Value) (w:World),(callFunc fn args).run prog w= .ok (.enter fn args) w) (hcb:Oh St FF LL R G fn fv cv ok) (hs:St s) (hl:∀x∈q.l,b6 x) (hX:∀x∈X,b6 x)
  (hlast:∀z,q.l[q.l.length-1]? =some z->z∈X) (hok:∀j k,Fl X q.l j k->(j=0\/∀p,q.l[j]? =some p->p∈X)->ok (qw q.l j k)) (hb:q.l.length<=1152921504606):
  ai prog 202 [q.v,.map (some rx),gE fn fv cv].toArray (q.fact::sD rx (fV X)::(FF s++G)) (LL s) (λv Fs' L'=>∃s',(AH R X q.l s 0 s' (q.l.length-1)/\St s')/\v= .tuple #[]/\Fs'=FF s'/\L'=LL s'):=by
 refine am func202 λ_=>(au) ?_;intro r3;refine(gu)<|aj eA call98 (jB (l:=q.l))<|(wG)<|aU [(7,13),(16,47)] (λ(x:Nat×α)=>x.1<=q.l.length-1/\AH R X q.l s 0 x.2 x.1/\St x.2/\(x.1=0\/∀p,q.l[x.1]? =some p->p∈X)) (λx=>[(7,iv x.1)]) (λx=>FF x.2) (λx=>LL x.2) (λx=>q.l.length-x.1) ((0,s)) (⟨bf _,.nil,hs,.inl O⟩) λ⟨i,t⟩ fr ⟨h5,h6,h7,h8⟩=>?_;dsimp only at h5 h6 h7 h8;refine(lL) ?_;refine EP O O ⟨aa,aa⟩ O ?_;refine(kU)<|ao ?_ ?_
 ·intro hc19;have hlt:i+1<q.l.length:=by have:=of_decide_eq_true hc19;omega
  refine(kV)<|(bJ)<|(fo)<|(iC) ?_;refine dD (m:=((i+1:Nat):Int)) O O aa ⟨aa,aa⟩ O ?_;refine(nz)<|aU [(9,12),(23,37)] (λ(j:Nat)=>(i<j/\j<=q.l.length)/\∀m,i<m->m<j->∀p,q.l[m]? =some p->p∉X) (λj=>[(10,iv j)]) (λ_=>[]) (λ_=>[]) (λj=>q.l.length-j) (i+1) (⟨⟨aa,aa⟩,λm h1 h2=>absurd h2 aa⟩) λj fr1 ⟨⟨h9,h10⟩,h11⟩=>?_;refine(lN)<|ao ?_ ?_
  ·intro hc25;have hlt2:j<q.l.length:=by have:=of_decide_eq_true hc25;omega
   obtain⟨y,hy⟩:∃x,q.l[j]? =some x:=⟨_,aG hlt2⟩;have hyn:=hl y (bn hy);refine(CP) ?_;rcases F4 (y∈X) with hin|hout
   ·refine(js)<|(aB)<|aj eA call131 (iO hy) ?_;refine yK ab O O O O tG O (u:=pv y) O (EX (kvs:=fV X) mA) (BY hyn hX) (o:=some (.agg #[])) (abR hin) O<|(x5) ?_;intro r11;refine(de)<|(cF)<|(vE)<|(bJ)<|(bt)<|(AT)<|(OA)<|(cR)<|(dG) ?_;refine dD (m:=((j+1:Nat):Int)) O O aa ⟨aa,aa⟩ O ?_;refine aI eA call297 (ack (q:=q) (i:=i) (j:=j+1) aa aa) λv2 Fs2 ⟨q1,e1,e2,e3⟩=>?_;subst e2;subst e3;have hpc:Fl X q.l i j:=⟨h9,hlt2,h11,λp hp=>by{rw[hy] at hp;cases hp;exact hin}⟩;refine(aq) ?_;intro r13;refine(cu)<|(bJ)<|(eH)<|(aB) ?_;refine dj O eA hc (NF.refl _) (hcb t q1 i aa h7 (by rw[e1];exact hok i j hpc h8)) λv Fs' L' ⟨t',⟨hR,hs'⟩,e4,e5,e6⟩=>?_;subst e4;subst e5;subst e6;refine(lK) ?_;exact⟨(j,t'),oA,⟨by dsimp only;omega,.snoc h6 hpc (by have h:=hR;rw[e1] at h;exact h),hs',.inr (λp hp=>hpc.fin p hp)⟩,lA,kA,fA,hA⟩
   ·refine(js)<|(aB)<|aj eA call131 (iO hy) ?_;refine yK ab O O O O tG O (u:=pv y) O (EX (kvs:=fV X) mA) (BY hyn hX) (o:=none) (abQ hout) O<|(x5) ?_;intro r11;refine(de)<|(cF)<|(gH)<|(zb) ?_;refine dD (m:=((j+1:Nat):Int)) O O aa ⟨aa,aa⟩ O ?_;refine(bt) ?_;exact⟨j+1,oA,⟨⟨aa,aa⟩,λm h1 h2 p hp=>by{by_cases e:m=j;subst e;rw[hy] at hp;cases hp;exact hout;exact h11 m h1 aa p hp}⟩,lA,kA,fA,hA⟩
  ·intro hc25;exact absurd (hlast _ (aG (show q.l.length-1<q.l.length by omega))) (h11 (q.l.length-1) aa (by have:=of_decide_eq_false hc25;omega) _ (aG aa))
 ·intro hc19;have hge:i=q.l.length-1:=by have:=of_decide_eq_false hc19;omega
  subst hge;refine(nF) ?_;exact .norm (.nil) (Fs':=FF t) (L':=LL t) sA (tm _ _) ⟨t,⟨h6,h7⟩,O,O,O⟩
end Go.Proofs
namespace Go.Proofs
open Tryz
open Go.V Go.Edges
variable {q:Sq} {a z:Pt} {d:DS} {X:List Pt} {rx dr:Nat}
theorem agB (ha:q.l[0]? =some a) (hz:q.l[q.l.length-1]? =some z):ai prog 116 [q.v].toArray [q.fact] [] (Is (.bool (aV a z))):=by
 have hlen:=da ha;refine tu (.head _) (λ_ h=>(uX h).2) λhb=>?_;simp only[maxLen] at hb;have he:(decide ((q.l.length:Int)=0))=false:=decide_eq_false aa;have hemp:ai prog 115 [q.v].toArray [q.fact] [] (Is (.bool false)):=by
  have:=EA (q:=q);rw[he] at this;exact this
 refine am func116 λ_=>(au) ?_;intro _;refine(bR) ?_;refine cz cw 16 [] []<|(jf) ?_;refine ac O (λkX=>aj eA call115 (hemp) kX)<|(Xw)<|(bh) ?_;refine ac O (λkX=>ah O O (b9 ab O O O O kX)) ?_;refine ac O (by first|exact λkX=>ah O O (su ab O O O mA O O kX)|exact λkX=>ah O O (aK ab O O O (oD (k:=2) mA) O O kX)) ?_;refine ac O (λkX=>ah O O (aj eA call131 (iO (i:=0) ha) kX)) ?_;refine ac O (λkX=>ah O O (b9 ab O O O O kX)) ?_;refine ac O (by first|exact λkX=>ah O O (su ab O O O mA O O kX)|exact λkX=>ah O O (aK ab O O O (oD (k:=2) mA) O O kX)) ?_;refine ac O (λkX=>ah O O (b9 ab O O O O kX)) ?_;refine ac O (by first|exact λkX=>ah O O (su ab O O O mA O O kX)|exact λkX=>ah O O (aK ab O O O (oD (k:=2) mA) O O kX)) ?_;refine ac O (λkX=>ah O O (aj eA call98 (jB (l:=q.l)) kX)) ?_;refine ac O (λkX=>ah O O (ew (m:=((q.l.length-1:Nat):Int)) O O (by omega) iA O kX)) ?_;refine ac O (λkX=>ah O O (aj eA call131 (iO hz) kX)) ?_;refine ac O (λkX=>ah O O (xL O O qV (λw=>qo 9998 w _ _ _ _) O kX))<|(iV)<|(jY)<|cV
structure ko (dr:Nat) (vs:List (Pt×Nat)) (d:DS):Prop where
 dr:d.dr=dr
 vs:d.vs=vs
 hh:A6 d
 hin:JN d
def bN (d:DS):an where
 p h:=∀x∈d.hs,(d.E x.2).sq.fact.p h
 mono:=λhle k x hx=>an.mono _ hle (k x hx)
structure CF (vs:List (Pt×Nat)) (l:List Pt):Prop where
 two:2<=l.length
 big:l.length<=1152921504606
 nn:∀x∈l,b6 x
 st:∃v,lW vs (keyOf l).1=some v
 en:∃v,lW vs (keyOf l.reverse).1=some v
theorem II {q q':Sq} {r1 r2 sv ev:Nat}:(dd d q q' r1 r2 sv ev).d.hs=(dt (dt d q r1).2 q' r2).2.hs:=by simp only[dd,SM,SJ]
theorem Oa {q q':Sq} {r1 r2 sv ev:Nat}:(dd d q q' r1 r2 sv ev).d.vs=(dt (dt d q r1).2 q' r2).2.vs:=by simp only[dd,SL,SG]
theorem aeV (d:DS) (r:Nat) (g:cq->cq):(d.modE r g).dr=d.dr:=rfl
theorem aeT (d:DS) (v e:Nat):(d.modM v e).dr=d.dr:=rfl
theorem alz {q q':Sq} {r1 r2 sv ev:Nat}:(dd d q q' r1 r2 sv ev).d.dr=(dt (dt d q r1).2 q' r2).2.dr:=by simp only[dd,aeV,aeT]
theorem alA {q q':Sq} {r1 r2 sv ev:Nat} (j x:Nat) (h:x∈(dd d q q' r1 r2 sv ev).d.M j):x∈(dt (dt d q r1).2 q' r2).2.M j\/x=(dt d q r1).1\/x=(dt (dt d q r1).2 q' r2).1:=by
 simp only[dd,Mc,Hq] at h;by_cases e1:j=ev
 ·subst e1;rw[if_pos rfl,xC] at h;rcases h with h|h
  ·by_cases e2:j=sv
   ·subst e2;rw[if_pos rfl,xC] at h;exact h.imp id .inl
   ·rw[if_neg e2] at h;exact .inl h
  ·exact .inr (.inr h)
 ·rw[if_neg e1] at h;by_cases e2:j=sv
  ·subst e2;rw[if_pos rfl,xC] at h;exact h.imp id .inl
  ·rw[if_neg e2] at h;exact .inl h
theorem BQ (d:DS) (r:Nat) (g:cq->cq) (hg:∀e,(g e).sq=e.sq) (j:Nat):((d.modE r g).E j).sq=(d.E j).sq:=by
 rw[kl];split
 ·rename_i h;subst h;exact hg _
 ·rfl
theorem ab1 (d:DS) (r j:Nat) (x:Option Nat):((d.modE r λe=>{e with org:=x}).E j).sq=(d.E j).sq:=BQ d r (λe=>{e with org:=x}) (λ_=>rfl) j
theorem abZ (d:DS) (r j:Nat) (x:Option Nat):((d.modE r λe=>{e with tw:=x}).E j).sq=(d.E j).sq:=BQ d r (λe=>{e with tw:=x}) (λ_=>rfl) j
theorem ab2 (d:DS) (r j:Nat) (x:Option Nat):((d.modE r λe=>{e with nx:=x}).E j).sq=(d.E j).sq:=BQ d r (λe=>{e with nx:=x}) (λ_=>rfl) j
theorem ab0 (d:DS) (r j:Nat) (x:Option Nat):((d.modE r λe=>{e with pv:=x}).E j).sq=(d.E j).sq:=BQ d r (λe=>{e with pv:=x}) (λ_=>rfl) j
theorem alw {q q':Sq} {r1 r2 sv ev:Nat} (j:Nat):((dd d q q' r1 r2 sv ev).d.E j).sq=((dt (dt d q r1).2 q' r2).2.E j).sq:=by
 simp only[dd,ab1,abZ,ab2,ab0,SK]
theorem UT {q:Sq} {r:Nat} (hr:r∉d.hs.map (·.2)) (x:PP×Nat) (hx:x∈(dt d q r).2.hs):((dt d q r).2.E x.2).sq=q\/(x∈d.hs/\((dt d q r).2.E x.2).sq=(d.E x.2).sq):=by
 cases hg:qU d.hs (keyOf q.l) with
 |some e=>rw[Nr hg] at hx ⊢;exact .inr ⟨hx,rfl⟩
 |none=>
  rw[Ns hg] at hx ⊢;rcases bB.1 hx with hx|hx
  ·refine .inr ⟨hx,?_⟩;have:x.2≠r:=λe=>hr (aM.2 ⟨x,hx,e⟩);simp only[DS.newE,if_neg this]
  ·simp at hx;subst hx;left;simp[DS.newE,vQ]
theorem Vu {q q':Sq} {r1 r2 sv ev:Nat} {hp:PH} (hr1:r1∉d.hs.map (·.2)) (hr2:r2∉(dt d q r1).2.hs.map (·.2)) (h:(bN d).p hp) (h1:q.fact.p hp) (h2:q'.fact.p hp):(bN (dd d q q' r1 r2 sv ev).d).p hp:=by
 intro x hx;rw[II] at hx;rw[alw];rcases UT hr2 x hx with e|⟨hx',e⟩
 ·rw[e];exact h2
 ·rw[e];rcases UT hr1 x hx' with e|⟨hx',e⟩
  ·rw[e];exact h1
  ·rw[e];exact h x hx'
theorem QX {vs:List (Pt×Nat)} {q q':Sq} {r1 r2 sv ev:Nat} (hs:ko dr vs d) (hq:q'.l=q.l.reverse) (hl:CF vs q.l):ko dr vs (dd d q q' r1 r2 sv ev).d:=by
 obtain⟨f,D1,h1⟩:∃f D,dt d q r1=(f,D):=⟨_,_,rfl⟩;obtain⟨g,D2,h2⟩:∃g D,dt D1 q' r2=(g,D):=⟨_,_,rfl⟩;obtain⟨k1,m1⟩:=Ch h1;obtain⟨k2,m2⟩:=Ch h2;have kn:∀l:List Pt,2<=l.length->(∀x∈l,b6 x)->b6 (keyOf l).1/\b6 (keyOf l).2:=by
  intro l hl hn
  match l,hl with
  |a::b::l,_=>exact⟨hn a (.head _),hn b (.tail _ (.head _))⟩
 have n1:=Nt h1 hs.hh (kn _ hl.two hl.nn);have n2:=Nt h2 n1 (kn _ (by rw[hq];simpa using hl.two) (by rw[hq];intro x hx;exact hl.nn x (by simpa using hx)));have e1:(dt (dt d q r1).2 q' r2)=(g,D2):=by rw[h1];exact h2
 refine⟨by rw[alz,e1];exact k2.dr.trans (k1.dr.trans hs.dr),by rw[Oa,e1];exact k2.vs.trans (k1.vs.trans hs.vs),by unfold A6;rw[II,e1];exact n2,λp v hp r hr=>?_⟩;rw[II,e1];rw[Oa,e1] at hp;rcases alA _ _ hr with hr|hr|hr
 ·rw[e1] at hr;dsimp only at hr hp ⊢;rw[k2.M,k1.M] at hr;rw[k2.vs,k1.vs] at hp;obtain⟨k,hk⟩:=hs.hin p v hp r hr;exact⟨k,k2.hs _ (k1.hs _ hk)⟩
 ·rw[h1] at hr;dsimp only at hr ⊢;subst hr;exact⟨_,k2.hs _ m1⟩
 ·rw[e1] at hr;dsimp only at hr ⊢;subst hr;exact⟨_,m2⟩
theorem Rq {l:List Pt} (h:2<=l.length):∃a b z y,l[0]? =some a/\l[1]? =some b/\l.reverse[0]? =some z/\l.reverse[1]? =some y/\(a∈l/\b∈l)/\z∈l/\y∈l:=by
 have h':2<=l.reverse.length:=by simpa using h
 refine⟨l[0],l[1],l.reverse[0],l.reverse[1],aG _,aG _,aG _,aG _,⟨zK _,zK _⟩,?_,?_⟩
 ·exact Do.1 (zK _)
 ·exact Do.1 (zK _)
theorem ait {vs:List (Pt×Nat)} {r3:Nat} (hv:∀e∈vs,b6 e.1):Oh (ko dr vs) (λd=>[bN d]) DS.LL (wW false) [aO r3 0 [aF dr]] 203 [] [be r3] (CF vs):=by
 intro d q i _ hs hl;obtain⟨a,b,z,y,ha,hb,hz,hy,⟨ma,mb⟩,mz,my⟩:=Rq hl.two;obtain⟨sv,hsv⟩:=hl.st;obtain⟨ev,hev⟩:=hl.en;have ka:=BZ ha hb;have kz:=BZ hz hy;rw[ka] at hsv;rw[kz] at hev;show ai prog 203 [q.v,iv i,be r3].toArray ([bN d]++(q.fact::[aO r3 0 [aF dr]])) d.LL _;refine am func203 λ_=>(au) ?_;intro _;refine(aN)<|(cJ)<|(fM)<|(eH)<|aS eA call204 (WW (d:=d) (q:=q) (sv:=sv) (ev:=ev) hs.dr ha hb hz hy hl.big ⟨⟨hl.nn a ma,hl.nn b mb⟩,hl.nn z mz,hl.nn y my⟩ hs.hh (by rw[hs.vs];exact hv) hs.hin (by rw[hs.vs];exact hsv) (by rw[hs.vs];exact hev)) λv Fs' L' ⟨q',r1,r2,⟨hq',hr1,hr2⟩,e1,e2,e3⟩=>?_;subst e1;subst e2;subst e3;refine cL (bN (dd d q q' r1 r2 sv ev).d) (λhp al=>Vu hr1 hr2 (al (bN d) mA) (al q.fact mA) (al q'.fact mA))<|(lJ) ?_;exact .norm (.nil) (Fs':=[bN (dd d q q' r1 r2 sv ev).d]) (L':=(dd d q q' r1 r2 sv ev).d.LL) (mP mA gy) (by repeat (first|exact gx _|apply pd)) ⟨_,⟨.ghost hq' hr1 hr2 (by rw[ka,hs.vs];exact hsv) (by rw[hq',kz,hs.vs];exact hev),QX hs hq' hl⟩,O,O,O⟩
end Go.Proofs
namespace Go.Proofs
open Tryz
open Go.V Go.Edges
variable {q:Sq} {a z:Pt} {d:DS} {X:List Pt} {rx dr:Nat}
def dw.a_ (v:dw) (x:Bool):dw:={v with a:=x}
def dw.li_ (v:dw) (x:Bool):dw:={v with li:=x}
def dw.lb_ (v:dw) (x:Bool):dw:={v with lb:=x}
def cq.a_ (e:cq) (x:Bool):cq:={e with a:=x}
theorem mi {d:DS} {k:Pt} {r:Nat} (hr:(k,r)∈d.vs) (hn:(ids d.LL).Nodup) (g:dw->dw) (hg:∀v,(g v).im=v.im):
  ∃d',d'=d.modV r g/\cf d.LL r (.cells (d.V r).enc.toArray 256 (0,0)) (.cells (g (d.V r)).enc.toArray 256 (0,0)) d'.LL/\(ids d'.LL).Nodup/\OV d d':=
 ⟨_,rfl,xz hg hr hn,by rw[(xz hg hr hn).ids];exact hn,⟨rfl,rfl,rfl,λv=>by rw[Ew];split;(rename_i h;subst h;exact hg _);rfl⟩⟩
theorem Ma {d:DS} {r:Nat} {g g':dw->dw} (h:g (d.V r)=g' (d.V r)):d.modV r g=d.modV r g':=by unfold DS.modV;rw[h]
theorem aeS {d:DS} {r:Nat} {g g':dw->dw}:(d.modV r g).modV r g'=d.modV r (λv=>g' (g v)):=by
 unfold DS.modV;congr 1;funext j;by_cases e:j=r
 ·subst e;simp
 ·simp[e]
theorem BA {d:DS} {v:Nat} {b:Bool}:d.modV v (λx=>x.li_ b)=d.modV v (ph b (d.V v).lb):=Ma rfl
theorem Rk {d:DS} {v:Nat} {b:Bool}:d.modV v (λx=>x.lb_ b)=d.modV v (ph (d.V v).li b):=Ma rfl
theorem GR {d:DS} {v:Nat} {b c:Bool}:(d.modV v (λx=>x.lb_ b)).modV v (λx=>x.li_ c)=d.modV v (ph c b):=by rw[aeS];exact Ma rfl
def JK (D:DS) (sv ev:Nat):Nat->DS->Prop
 |0,t=>t=D
 |1,t=>∃a b,t=D.modV sv (ph a b)
 |_,t=>∃a b c e,t=(D.modV sv (ph a b)).modV ev (ph c e)
theorem JK.keep {D:DS} {sv ev:Nat} {k:Nat} {t:DS} (h:JK D sv ev k t):t.hs=D.hs/\t.vs=D.vs/\t.E=D.E/\t.M=D.M/\t.dr=D.dr:=by
 match k,h with
 |0,h=>have h:t=D:=h;subst h;exact⟨rfl,rfl,rfl,rfl,rfl⟩
 |1,⟨_,_,h⟩=>subst h;exact⟨rfl,rfl,rfl,rfl,rfl⟩
 |k+2,⟨_,_,_,_,h⟩=>subst h;exact⟨rfl,rfl,rfl,rfl,rfl⟩
theorem WX {q q':Sq} {r1 r2 sv ev:Nat}:(dd d q q' r1 r2 sv ev).fw=(dt d q r1).1/\(dd d q q' r1 r2 sv ev).rv=(dt (dt d q r1).2 q' r2).1/\(dd d q q' r1 r2 sv ev).sv=sv/\(dd d q q' r1 r2 sv ev).ev=ev:=by simp only[dd];exact⟨trivial,trivial,trivial,trivial⟩
theorem alx {q q':Sq} {r1 r2 sv ev:Nat}:(keyOf q.l,(dd d q q' r1 r2 sv ev).fw)∈(dd d q q' r1 r2 sv ev).d.hs/\(keyOf q'.l,(dd d q q' r1 r2 sv ev).rv)∈(dd d q q' r1 r2 sv ev).d.hs/\(dd d q q' r1 r2 sv ev).d.vs=d.vs:=by
 obtain⟨f,D1,h1⟩:∃f D,dt d q r1=(f,D):=⟨_,_,rfl⟩;obtain⟨g,D2,h2⟩:∃g D,dt D1 q' r2=(g,D):=⟨_,_,rfl⟩;obtain⟨k1,m1⟩:=Ch h1;obtain⟨k2,m2⟩:=Ch h2;obtain⟨e1,e2,_,_⟩:=WX (d:=d) (q:=q) (q':=q') (r1:=r1) (r2:=r2) (sv:=sv) (ev:=ev);rw[II,Oa,e1,e2,h1];dsimp only;rw[h2];exact⟨k2.hs _ m1,m2,k2.vs.trans k1.vs⟩
theorem abS {vs:List (Pt×Nat)} {D t:DS} (h:ko dr vs D) (h1:t.hs=D.hs) (h2:t.vs=D.vs) (h3:t.M=D.M) (h4:t.dr=D.dr):ko dr vs t:=
 ⟨h4.trans h.dr,h2.trans h.vs,by unfold A6;rw[h1];exact h.hh,by unfold JN;rw[h1,h2,h3];exact h.hin⟩
theorem Ih {D t:DS} {hp:PH} (h:(bN D).p hp) (h1:t.hs=D.hs) (h2:∀j,(t.E j).sq=(D.E j).sq):(bN t).p hp:=by
 intro x hx;rw[h1] at hx;rw[h2];exact h x hx
theorem ae7 (x:FN) (j:Nat):((oF x).E j).sq=(x.d.E j).sq:=by
 have h1:=BQ ((x.d.modV x.sv λv=>{v with a:=true}).modV x.ev λv=>{v with a:=true}) x.fw (λe=>{e with a:=true}) (λ_=>rfl) j;have h2:=BQ (((x.d.modV x.sv λv=>{v with a:=true}).modV x.ev λv=>{v with a:=true}).modE x.fw λe=>{e with a:=true}) x.rv (λe=>{e with a:=true}) (λ_=>rfl) j;unfold oF;rw[h2,h1];simp only[SE]
abbrev K2 (r2 r3 r4 r5 dr:Nat) (q0:Sq):List an:=[aO r2 0 [aF dr],aO r3 0 [iv 0],aO r4 0 q0.cells,aO r5 0 q0.cells,q0.fact]
set_option maxHeartbeats 1600000 in
theorem abT {vs:List (Pt×Nat)} {r2 r3 r4 r5:Nat} {q0:Sq} (hv:∀e∈vs,b6 e.1) (ha0:q0.l[0]? =some a) (hz0:q0.l[q0.l.length-1]? =some z) (hb0:q0.l.length<=1152921504606):Oh (ko dr vs) (λd=>[bN d]) DS.LL (wW true) (K2 r2 r3 r4 r5 dr q0) 302 [] [be r2,be r3,be r4,be r5] (CF vs):=by
 intro d q i hi hs hl;obtain⟨a1,b1,z1,y1,ha,hb,hz,hy,⟨ma,mb⟩,mz,my⟩:=Rq hl.two;obtain⟨sv,hsv⟩:=hl.st;obtain⟨ev,hev⟩:=hl.en;have hbig:=hl.big;have ka:=BZ ha hb;have kz:=BZ hz hy;rw[ka] at hsv;rw[kz] at hev;obtain⟨cl,hcl⟩:∃b,aV a z=b:=⟨_,rfl⟩;have hcs:ai prog 116 [q0.v].toArray [q0.fact] [] (Is (.bool cl)):=by rw[<-hcl];exact agB ha0 hz0
 show ai prog 302 [q.v,iv i,be r2,be r3,be r4,be r5].toArray ([bN d]++(q.fact::K2 r2 r3 r4 r5 dr q0)) d.LL _;refine am func302 λ_=>(au) ?_;intro r6;refine(eZ)<|(fM)<|(eH)<|aS eA call204 (WW (d:=d) (q:=q) (sv:=sv) (ev:=ev) hs.dr ha hb hz hy hl.big ⟨⟨hl.nn a1 ma,hl.nn b1 mb⟩,hl.nn z1 mz,hl.nn y1 my⟩ hs.hh (by rw[hs.vs];exact hv) hs.hin (by rw[hs.vs];exact hsv) (by rw[hs.vs];exact hev)) λv Fs' L' ⟨q',x1,x2,⟨hq',hx1,hx2⟩,e1,e2,e3⟩=>?_;subst e1;subst e2;subst e3;obtain⟨mf0,mg0,hvs0⟩:=alx (d:=d) (q:=q) (q':=q') (r1:=x1) (r2:=x2) (sv:=sv) (ev:=ev);obtain⟨_,_,hxs,hxe⟩:=WX (d:=d) (q:=q) (q':=q') (r1:=x1) (r2:=x2) (sv:=sv) (ev:=ev);refine cL (bN (dd d q q' x1 x2 sv ev).d) (λhp al=>Vu hx1 hx2 (al (bN d) mA) (al q.fact mA) (al q'.fact mA)) ?_;have hst0:=QX hs hq' hl (r1:=x1) (r2:=x2) (sv:=sv) (ev:=ev);obtain⟨x,hx⟩:∃x,x=dd d q q' x1 x2 sv ev:=⟨_,rfl⟩;rw[<-hx] at mf0 mg0 hvs0 hst0 hxs hxe ⊢;obtain⟨f,hf⟩:∃f,f=x.fw:=⟨_,rfl⟩;obtain⟨g,hg⟩:∃g,g=x.rv:=⟨_,rfl⟩;rw[<-hf,<-hg];rw[<-hf] at mf0;rw[<-hg] at mg0;have msv:(a1,sv)∈x.d.vs:=by rw[hvs0,hs.vs];exact Bv hsv
 have mev:(z1,ev)∈x.d.vs:=by rw[hvs0,hs.vs];exact Bv hev
 refine(aq) ?_;intro r8;refine(dS)<|(FC) ?_;intro hnd;have n0:(ids x.d.LL).Nodup:=yz (mh hnd);obtain⟨D1,eD1,uD1,nD1,kD1⟩:=mi msv n0 (λv=>v.a_ true) (λ_=>rfl);have mev1:(z1,ev)∈D1.vs:=kD1.vs▸mev;obtain⟨D2,eD2,uD2,nD2,kD2⟩:=mi mev1 nD1 (λv=>v.a_ true) (λ_=>rfl);have mf2:(keyOf q.l,f)∈D2.hs:=kD2.hs▸kD1.hs▸mf0;obtain⟨D3,eD3,uD3,nD3,kD3⟩:=mU mf2 nD2 (λe=>e.a_ true);have mg3:(keyOf q'.l,g)∈D3.hs:=kD3.hs▸kD2.hs▸kD1.hs▸mg0;obtain⟨D4,eD4,uD4,nD4,kD4⟩:=mU mg3 nD3 (λe=>e.a_ true);have hmark:D4=oF x:=by{rw[eD4,eD3,eD2,eD1,hf,hg];unfold oF;rw[hxs,hxe];rfl}
 have hvs4:D4.vs=x.d.vs:=kD4.vs.trans (kD3.vs.trans (kD2.vs.trans kD1.vs));have msv4:(a1,sv)∈D4.vs:=hvs4▸msv;have mev4:(z1,ev)∈D4.vs:=hvs4▸mev;refine(wD) ?_;refine cS ab O (cs:=(x.d.V sv).enc) (cs':=((x.d.V sv).a_ true).enc) O O O O O O O (uT (uD1))<|(cn)<|(wD) ?_;refine cS ab O (cs:=(D1.V ev).enc) (cs':=((D1.V ev).a_ true).enc) O O O O O O O (uT (uD2))<|(cn)<|(wD) ?_;refine cS ab O (cs:=(D2.E f).enc) (cs':=((D2.E f).a_ true).enc) O O O O O O O (uT (uD3))<|(cn)<|(wD) ?_;refine cS ab O (cs:=(D3.E g).enc) (cs':=((D3.E g).a_ true).enc) O O O O O O O (uT (uD4))<|(cn)<|jl ([]) [(38,64)] (λ(_:Bool×Bool)=>True) (λx=>[(63,.agg #[aF sv,.bool x.1,aF ev,.bool x.2]),(64,iv 0)]) (λ_=>[]) (λ_=>[]) ?_ ?_
 ·rcases F4 (i=0) with h1|h1<;>rcases F4 (i+q.l.length=q0.l.length) with h2|h2
  ·refine(Jy)<|(rH) ?_;refine ac O (aL O O (by show some (decide ((i:Int)=0))=some true;simp[h1]) O)<|(bh) ?_;refine ac O (λkX=>ah O O (aK ab O O O (aR (xs:=q0.cells) mA) O O kX)) ?_;refine ac O (λkX=>ah O O (aj eA call116 (hcs) kX)) ?_;refine ac O (λkX=>ah O O (vX O O kX))<|(iV)<|(ny)<|(rH)<|(Xx) ?_;refine ac O (λkX=>aj eA call98 (jB (l:=q.l)) kX) ?_;refine ac O (dD (m:=((i+q.l.length:Nat):Int)) O O aa ⟨aa,aa⟩ O) ?_;refine ac O (aK ab O O O (aR (xs:=q0.cells) mA) O O) ?_;refine ac O (λkX=>aj eA call98 (jB (l:=q0.l)) kX) ?_;refine ac O (aL O O (by show some (decide (((i+q.l.length:Nat):Int)=(q0.l.length:Int)))=some true;rw[h2];simp) O)<|(bh) ?_;refine ac O (λkX=>ah O O (aK ab O O O (aR (xs:=q0.cells) mA) O O kX)) ?_;refine ac O (λkX=>ah O O (aj eA call116 (hcs) kX)) ?_;refine ac O (λkX=>ah O O (vX O O kX))<|(iV)<|(ny)<|(AY)<|(bh)<|(pH) ?_;exact⟨(!cl,!cl),trivial,lA,kA,fA,hA⟩
  ·refine(Jy)<|(rH) ?_;refine ac O (aL O O (by show some (decide ((i:Int)=0))=some true;simp[h1]) O)<|(bh) ?_;refine ac O (λkX=>ah O O (aK ab O O O (aR (xs:=q0.cells) mA) O O kX)) ?_;refine ac O (λkX=>ah O O (aj eA call116 (hcs) kX)) ?_;refine ac O (λkX=>ah O O (vX O O kX))<|(iV)<|(ny)<|(rH)<|(Xx) ?_;refine ac O (λkX=>aj eA call98 (jB (l:=q.l)) kX) ?_;refine ac O (dD (m:=((i+q.l.length:Nat):Int)) O O aa ⟨aa,aa⟩ O) ?_;refine ac O (aK ab O O O (aR (xs:=q0.cells) mA) O O) ?_;refine ac O (λkX=>aj eA call98 (jB (l:=q0.l)) kX) ?_;refine ac O (aL O O (iF (p:=((i+q.l.length:Nat):Int)=(q0.l.length:Int)) aa) O)<|(sK)<|(AY)<|(bh)<|(pH) ?_;exact⟨(!cl,false),trivial,lA,kA,fA,hA⟩
  ·refine(Jy)<|(rH) ?_;refine ac O (aL O O (by show some (decide ((i:Int)=0))=some false;simp[h1]) O)<|(sK)<|(rH)<|(Xx) ?_;refine ac O (λkX=>aj eA call98 (jB (l:=q.l)) kX) ?_;refine ac O (dD (m:=((i+q.l.length:Nat):Int)) O O aa ⟨aa,aa⟩ O) ?_;refine ac O (aK ab O O O (aR (xs:=q0.cells) mA) O O) ?_;refine ac O (λkX=>aj eA call98 (jB (l:=q0.l)) kX) ?_;refine ac O (aL O O (by show some (decide (((i+q.l.length:Nat):Int)=(q0.l.length:Int)))=some true;rw[h2];simp) O)<|(bh) ?_;refine ac O (λkX=>ah O O (aK ab O O O (aR (xs:=q0.cells) mA) O O kX)) ?_;refine ac O (λkX=>ah O O (aj eA call116 (hcs) kX)) ?_;refine ac O (λkX=>ah O O (vX O O kX))<|(iV)<|(ny)<|(AY)<|(bh)<|(pH) ?_;exact⟨(false,!cl),trivial,lA,kA,fA,hA⟩
  ·refine(Jy)<|(rH) ?_;refine ac O (aL O O (by show some (decide ((i:Int)=0))=some false;simp[h1]) O)<|(sK)<|(rH)<|(Xx) ?_;refine ac O (λkX=>aj eA call98 (jB (l:=q.l)) kX) ?_;refine ac O (dD (m:=((i+q.l.length:Nat):Int)) O O aa ⟨aa,aa⟩ O) ?_;refine ac O (aK ab O O O (aR (xs:=q0.cells) mA) O O) ?_;refine ac O (λkX=>aj eA call98 (jB (l:=q0.l)) kX) ?_;refine ac O (aL O O (iF (p:=((i+q.l.length:Nat):Int)=(q0.l.length:Int)) aa) O)<|(sK)<|(AY)<|(bh)<|(pH) ?_;exact⟨(false,false),trivial,lA,kA,fA,hA⟩
 ·intro⟨o1,o2⟩ fj _;refine(gU)<|aU [(10,10),(64,148)] (λ(y:Nat×DS)=>y.1<=2/\JK D4 sv ev y.1 y.2/\(ids y.2.LL).Nodup) (λy=>[(64,iv y.1)]) (λ_=>[]) (λy=>y.2.LL) (λy=>2-y.1) ((0,D4)) (⟨bf _,O,nD4⟩) λ⟨k,t⟩ fr ⟨h5,h6,hnt⟩=>?_;dsimp only at h5 h6 hnt;obtain⟨_,hvt,_,_,_⟩:=h6.keep;have msvt:(a1,sv)∈t.vs:=hvt▸msv4;have mevt:(z1,ev)∈t.vs:=hvt▸mev4;obtain⟨lb0,hlb0⟩:∃b,(t.V sv).lb=b:=⟨_,rfl⟩;obtain⟨lb1,hlb1⟩:∃b,(t.V ev).lb=b:=⟨_,rfl⟩;refine(cM)<|ao ?_ ?_
  ·intro hc65;have hlt:k<2:=by have:=of_decide_eq_true hc65;omega
   refine(CP) ?_;rcases(show k=0\/k=1 by omega) with rfl|rfl
   ·refine(cJ) ?_;have h6e:t=D4:=h6
    first|refine HU ab rfl rfl rfl rfl rfl rfl (i:=0) (by first|rfl|omega) (by first|decide|omega) rfl rfl (rfl) rfl ?_|refine Ni ab rfl rfl rfl rfl rfl rfl (i:=0) (by first|rfl|omega) (by first|decide|omega) rfl rfl (rfl) rfl ?_
    refine(aq) ?_;intro r10;refine(dS) ?_;rcases lb0 with _|_
    ·refine(Jx)<|(zm) ?_;refine ac O (az ab O O O (ct (bj (mT (jQ msvt)) O O) (v':= .bool _) (by rw[hlb0])) O)<|(Xw)<|(bh) ?_;refine ac O (λkX=>ah O O (b9 ab O O O O kX)) ?_;refine ac O (λkX=>ah O O (az ab O O O (bj mA O O) O kX)) ?_;refine ac O (λkX=>ah O O (az ab O O O (mm mA) O kX)) ?_;refine ac O (λkX=>ah O O (iL O O kX)) ?_;refine ac O (λkX=>ah O O (b9 ab O O O O kX)) ?_;refine ac O (λkX=>ah O O (fg (s:=2) (i:=0) ab O O O O O aa (by show _<2;omega) O kX)) ?_;refine ac O (λkX=>ah O O (b9 ab O O O O kX)) ?_;refine ac O (λkX=>ah O O (az ab O O O (bj (mT (jQ msvt)) O O) O kX)) ?_;refine ac O (λkX=>ah O O (vX O O kX))<|(iV)<|(pH)<|ao ?_ ?_
     ·intro hc86;refine(fR)<|(aN)<|ao ?_ ?_
      ·intro hc88;obtain⟨t1,et1,ut1,nt1,kt1⟩:=mi msvt hnt (λx=>x.lb_ true) (λ_=>rfl);refine(pR) ?_;refine cS ab O (cs:=(t.V sv).enc) (cs':=((t.V sv).lb_ true).enc) O O O O O O O (uT (ut1))<|(rM) ?_;exact⟨(1,t1),oA,⟨oA,⟨_,_,by rw[et1,Rk,h6e]⟩,nt1⟩,lA,kA,fA,hA⟩
      ·intro hc88;obtain⟨t1,et1,ut1,nt1,kt1⟩:=mi msvt hnt (λx=>x.li_ true) (λ_=>rfl);refine(pR) ?_;refine cS ab O (cs:=(t.V sv).enc) (cs':=((t.V sv).li_ true).enc) O O O O O O O (uT (ut1))<|(rM) ?_;exact⟨(1,t1),oA,⟨oA,⟨_,_,by rw[et1,BA,h6e]⟩,nt1⟩,lA,kA,fA,hA⟩
     ·intro hc86;refine(fR)<|(aN)<|ao ?_ ?_
      ·intro hc104;refine(ce)<|(C6)<|(zm) ?_;refine ac O (az ab O O O (ct (bj (mT (jQ msvt)) O O) (v':= .bool _) (by rw[hlb0])) O)<|(pH)<|(gL)<|(ce) ?_;obtain⟨t1,et1,ut1,nt1,kt1⟩:=mi msvt hnt (λx=>x.lb_ true) (λ_=>rfl);refine(pR) ?_;refine cS ab O (cs:=(t.V sv).enc) (cs':=((t.V sv).lb_ true).enc) O O O O O O O (uT (ut1))<|(aN) ?_;obtain⟨t2,et2,ut2,nt2,kt2⟩:=mi (kt1.vs▸msvt) nt1 (λx=>x.li_ false) (λ_=>rfl);refine(pR) ?_;refine cS ab O (cs:=(t1.V sv).enc) (cs':=((t1.V sv).li_ false).enc) O O O O O O O (uT (ut2))<|(rM) ?_;exact⟨(1,t2),oA,⟨oA,⟨_,_,by rw[et2,et1,GR,h6e]⟩,nt2⟩,lA,kA,fA,hA⟩
      ·intro hc104;obtain⟨t1,et1,ut1,nt1,kt1⟩:=mi msvt hnt (λx=>x.li_ true) (λ_=>rfl);refine(pR) ?_;refine cS ab O (cs:=(t.V sv).enc) (cs':=((t.V sv).li_ true).enc) O O O O O O O (uT (ut1))<|(rM) ?_;exact⟨(1,t1),oA,⟨oA,⟨_,_,by rw[et1,BA,h6e]⟩,nt1⟩,lA,kA,fA,hA⟩
    ·refine(Jx)<|(zm) ?_;refine ac O (az ab O O O (ct (bj (mT (jQ msvt)) O O) (v':= .bool _) (by rw[hlb0])) O)<|(Xw)<|(Jn)<|(pT)<|(jN)<|(pH)<|(gL)<|(fR)<|(aN)<|ao ?_ ?_
     ·intro hc104;refine(ce)<|(C6)<|(zm) ?_;refine ac O (az ab O O O (ct (bj (mT (jQ msvt)) O O) (v':= .bool _) (by rw[hlb0])) O)<|(jY)<|(vE)<|(ce) ?_;obtain⟨t1,et1,ut1,nt1,kt1⟩:=mi msvt hnt (λx=>x.lb_ false) (λ_=>rfl);refine(pR) ?_;refine cS ab O (cs:=(t.V sv).enc) (cs':=((t.V sv).lb_ false).enc) O O O O O O O (uT (ut1))<|(aN) ?_;obtain⟨t2,et2,ut2,nt2,kt2⟩:=mi (kt1.vs▸msvt) nt1 (λx=>x.li_ true) (λ_=>rfl);refine(pR) ?_;refine cS ab O (cs:=(t1.V sv).enc) (cs':=((t1.V sv).li_ true).enc) O O O O O O O (uT (ut2))<|(rM) ?_;exact⟨(1,t2),oA,⟨oA,⟨_,_,by rw[et2,et1,GR,h6e]⟩,nt2⟩,lA,kA,fA,hA⟩
     ·intro hc104;obtain⟨t1,et1,ut1,nt1,kt1⟩:=mi msvt hnt (λx=>x.li_ true) (λ_=>rfl);refine(pR) ?_;refine cS ab O (cs:=(t.V sv).enc) (cs':=((t.V sv).li_ true).enc) O O O O O O O (uT (ut1))<|(rM) ?_;exact⟨(1,t1),oA,⟨oA,⟨_,_,by rw[et1,BA,h6e]⟩,nt1⟩,lA,kA,fA,hA⟩
   ·refine(cJ) ?_;obtain⟨a0,b0,h6e⟩:∃a b,t=D4.modV sv (ph a b):=h6
    first|refine HU ab rfl rfl rfl rfl rfl rfl (i:=1) (by first|rfl|omega) (by first|decide|omega) rfl rfl (rfl) rfl ?_|refine Ni ab rfl rfl rfl rfl rfl rfl (i:=1) (by first|rfl|omega) (by first|decide|omega) rfl rfl (rfl) rfl ?_
    refine(aq) ?_;intro r10;refine(dS) ?_;rcases lb1 with _|_
    ·refine(Jx)<|(zm) ?_;refine ac O (az ab O O O (ct (bj (mT (jQ mevt)) O O) (v':= .bool _) (by rw[hlb1])) O)<|(Xw)<|(bh) ?_;refine ac O (λkX=>ah O O (b9 ab O O O O kX)) ?_;refine ac O (λkX=>ah O O (az ab O O O (bj mA O O) O kX)) ?_;refine ac O (λkX=>ah O O (az ab O O O (mm mA) O kX)) ?_;refine ac O (λkX=>ah O O (iL O O kX)) ?_;refine ac O (λkX=>ah O O (b9 ab O O O O kX)) ?_;refine ac O (λkX=>ah O O (fg (s:=2) (i:=0) ab O O O O O aa (by show _<2;omega) O kX)) ?_;refine ac O (λkX=>ah O O (b9 ab O O O O kX)) ?_;refine ac O (λkX=>ah O O (az ab O O O (bj (mT (jQ mevt)) O O) O kX)) ?_;refine ac O (λkX=>ah O O (vX O O kX))<|(iV)<|(pH)<|ao ?_ ?_
     ·intro hc86;refine(fR)<|(aN)<|ao ?_ ?_
      ·intro hc88;obtain⟨t1,et1,ut1,nt1,kt1⟩:=mi mevt hnt (λx=>x.lb_ true) (λ_=>rfl);refine(pR) ?_;refine cS ab O (cs:=(t.V ev).enc) (cs':=((t.V ev).lb_ true).enc) O O O O O O O (uT (ut1))<|(rM) ?_;exact⟨(2,t1),oA,⟨oA,⟨a0,b0,_,_,by rw[et1,Rk,h6e]⟩,nt1⟩,lA,kA,fA,hA⟩
      ·intro hc88;obtain⟨t1,et1,ut1,nt1,kt1⟩:=mi mevt hnt (λx=>x.li_ true) (λ_=>rfl);refine(pR) ?_;refine cS ab O (cs:=(t.V ev).enc) (cs':=((t.V ev).li_ true).enc) O O O O O O O (uT (ut1))<|(rM) ?_;exact⟨(2,t1),oA,⟨oA,⟨a0,b0,_,_,by rw[et1,BA,h6e]⟩,nt1⟩,lA,kA,fA,hA⟩
     ·intro hc86;refine(fR)<|(aN)<|ao ?_ ?_
      ·intro hc104;refine(ce)<|(C6)<|(zm) ?_;refine ac O (az ab O O O (ct (bj (mT (jQ mevt)) O O) (v':= .bool _) (by rw[hlb1])) O)<|(pH)<|(gL)<|(ce) ?_;obtain⟨t1,et1,ut1,nt1,kt1⟩:=mi mevt hnt (λx=>x.lb_ true) (λ_=>rfl);refine(pR) ?_;refine cS ab O (cs:=(t.V ev).enc) (cs':=((t.V ev).lb_ true).enc) O O O O O O O (uT (ut1))<|(aN) ?_;obtain⟨t2,et2,ut2,nt2,kt2⟩:=mi (kt1.vs▸mevt) nt1 (λx=>x.li_ false) (λ_=>rfl);refine(pR) ?_;refine cS ab O (cs:=(t1.V ev).enc) (cs':=((t1.V ev).li_ false).enc) O O O O O O O (uT (ut2))<|(rM) ?_;exact⟨(2,t2),oA,⟨oA,⟨a0,b0,_,_,by rw[et2,et1,GR,h6e]⟩,nt2⟩,lA,kA,fA,hA⟩
      ·intro hc104;obtain⟨t1,et1,ut1,nt1,kt1⟩:=mi mevt hnt (λx=>x.li_ true) (λ_=>rfl);refine(pR) ?_;refine cS ab O (cs:=(t.V ev).enc) (cs':=((t.V ev).li_ true).enc) O O O O O O O (uT (ut1))<|(rM) ?_;exact⟨(2,t1),oA,⟨oA,⟨a0,b0,_,_,by rw[et1,BA,h6e]⟩,nt1⟩,lA,kA,fA,hA⟩
    ·refine(Jx)<|(zm) ?_;refine ac O (az ab O O O (ct (bj (mT (jQ mevt)) O O) (v':= .bool _) (by rw[hlb1])) O)<|(Xw)<|(Jn)<|(pT)<|(jN)<|(pH)<|(gL)<|(fR)<|(aN)<|ao ?_ ?_
     ·intro hc104;refine(ce)<|(C6)<|(zm) ?_;refine ac O (az ab O O O (ct (bj (mT (jQ mevt)) O O) (v':= .bool _) (by rw[hlb1])) O)<|(jY)<|(vE)<|(ce) ?_;obtain⟨t1,et1,ut1,nt1,kt1⟩:=mi mevt hnt (λx=>x.lb_ false) (λ_=>rfl);refine(pR) ?_;refine cS ab O (cs:=(t.V ev).enc) (cs':=((t.V ev).lb_ false).enc) O O O O O O O (uT (ut1))<|(aN) ?_;obtain⟨t2,et2,ut2,nt2,kt2⟩:=mi (kt1.vs▸mevt) nt1 (λx=>x.li_ true) (λ_=>rfl);refine(pR) ?_;refine cS ab O (cs:=(t1.V ev).enc) (cs':=((t1.V ev).li_ true).enc) O O O O O O O (uT (ut2))<|(rM) ?_;exact⟨(2,t2),oA,⟨oA,⟨a0,b0,_,_,by rw[et2,et1,GR,h6e]⟩,nt2⟩,lA,kA,fA,hA⟩
     ·intro hc104;obtain⟨t1,et1,ut1,nt1,kt1⟩:=mi mevt hnt (λx=>x.li_ true) (λ_=>rfl);refine(pR) ?_;refine cS ab O (cs:=(t.V ev).enc) (cs':=((t.V ev).li_ true).enc) O O O O O O O (uT (ut1))<|(rM) ?_;exact⟨(2,t1),oA,⟨oA,⟨a0,b0,_,_,by rw[et1,BA,h6e]⟩,nt1⟩,lA,kA,fA,hA⟩
  ·intro hc65;have hge:k=2:=by have:=of_decide_eq_false hc65;omega
   subst hge;obtain⟨a0,b0,c0,e0,h6e⟩:∃a b c e,t=(D4.modV sv (ph a b)).modV ev (ph c e):=h6;obtain⟨k1,k2,k3,k4,k5⟩:=(show JK D4 sv ev 2 t from⟨a0,b0,c0,e0,h6e⟩).keep;have hadd:wW true d q.l t:=by{rw[h6e,hmark,hx];exact .src a0 b0 c0 e0 hq' hx1 hx2 (by rw[ka,hs.vs];exact hsv) (by rw[hq',kz,hs.vs];exact hev)}
   have hmk:D4.hs=x.d.hs/\D4.M=x.d.M/\D4.dr=x.d.dr:=by{rw[hmark];exact⟨rfl,rfl,rfl⟩}
   have hstd:ko dr vs t:=abS hst0 (k1.trans hmk.1) (k2.trans hvs4) (k4.trans hmk.2.1) (k5.trans hmk.2.2);refine cI (bN t) (λhp al=>Ih (al (bN x.d) mA) (k1.trans hmk.1) (λj=>by rw[k3,hmark];exact ae7 x j))<|(nF) ?_;exact .norm (.nil) (Fs':=[bN t]) (L':=t.LL) (mP mA gy) (tm _ _) ⟨t,⟨hadd,hstd⟩,O,O,O⟩
end Go.Proofs
namespace Go.Proofs
open Tryz
open Go.V Go.Edges
variable {q:Sq} {p:Option Addr} {cp:Nat} {lss:List (List Pt)} {gs:List GM} {g:GM} {v:Value} {d:DS} {X:List Pt} {rx dr:Nat} {vs:List (Pt×Nat)}
structure wU (vs:List (Pt×Nat)) (X:List Pt) (l:List Pt):Prop where
 ne:l≠[]
 big:l.length<=1152921504606
 nn:∀x∈l,b6 x
 first:∀x,l[0]? =some x->x∈X
 last:∀x,l[l.length-1]? =some x->x∈X
structure CC (vs:List (Pt×Nat)) (X:List Pt):Prop where
 nn:∀e∈vs,b6 e.1
 xn:∀x∈X,b6 x
 all:∀x∈X,∃v,lW vs x=some v
theorem akb {l:List Pt} {j k:Nat} {x:Pt} (h:x∈qw l j k):x∈l:=List.mem_of_mem_drop (XN h)
theorem akc {l:List Pt} {j k:Nat} (h:j<k) (hk:k<l.length):(qw l j k).length=k+1-j:=by rw[lV,jx];omega
theorem V4 {l:List Pt} {j k m:Nat} (h:m<k+1-j):(qw l j k)[m]? =l[j+m]? :=by rw[uK,if_pos h,vL]
theorem Sc (hv:CC vs X) {l:List Pt} (hl:wU vs X l) {j k:Nat} (h:Fl X l j k) (hj:j=0\/∀p,l[j]? =some p->p∈X):CF vs (qw l j k):=by
 have hlen:=akc h.lt h.len;have hjk:=h.lt;have hkl:=h.len;obtain⟨a,ha⟩:∃x,l[j]? =some x:=⟨_,aG aa⟩;obtain⟨z,hz⟩:∃x,l[k]? =some x:=⟨_,aG h.len⟩;have haX:a∈X:=by
  rcases hj with rfl|hj
  ·exact hl.first a ha
  ·exact hj a ha
 have h0:(keyOf (qw l j k)).1=a:=by
  show(qw l j k).getD 0 (0,0)=a;rw[j7,V4 aa,wY,ha];rfl
 have h1:(keyOf (qw l j k).reverse).1=z:=by
  show(qw l j k).reverse.getD 0 (0,0)=z;rw[j7,List.getElem?_reverse aa,hlen,V4 aa];rw[show j+(k+1-j-1-0)=k from by omega,hz];rfl
 refine⟨aa,by have:=hl.big;omega,λx hx=>hl.nn x (akb hx),?_,?_⟩
 ·rw[h0];exact hv.all a haX
 ·rw[h1];exact hv.all z (h.fin z hz)
inductive kY (b:Bool) (X:List Pt):DS->List (List Pt)->DS->Prop where
 |nil {d:DS}:kY b X d [] d
 |snoc {d m d':DS} {ls:List (List Pt)} {l:List Pt}:kY b X d ls m->AH (wW b) X l m 0 d' (l.length-1)->kY b X d (ls++[l]) d'
theorem kY.app {b:Bool} {d m d':DS} {a c:List (List Pt)} (h:kY b X d a m) (k:kY b X m c d'):kY b X d (a++c) d':=by
 induction k with
 |nil=>simpa using h
 |snoc _ h2 ih=>rw[<-cG];exact .snoc ih h2
abbrev yd (b:Bool) (dr:Nat) (vs:List (Pt×Nat)) (X:List Pt) (d:DS) (ls:List (List Pt)):cZ:=λv Fs' L'=>∃d',(kY b X d ls d'/\ko dr vs d')/\v= .tuple #[]/\Fs'=[bN d']/\L'=d'.LL
theorem air (hv:CC vs X) (hd:ko dr vs d) (hl:∀l∈lss,wU vs X l):ai prog 155 [aF dr,jb p lss cp,.map (some rx)].toArray [bQ p lss cp,sD rx (fV X),bN d] d.LL (yd false dr vs X d lss):=by
 refine uL (φ:=lss.length<=1048576) (λhp al=>by obtain⟨_,h,_⟩:=al (bQ p lss cp) (.head _);exact h.2) λhlb=>?_;refine am func155 λ_=>(ba)<|(qF) ?_;intro r3;refine(cg) ?_;intro _;refine(cn) ?_;refine dl (r:=r3) tA<|(cJ)<|(nz)<|aU [(6,21)] (λ(x:Nat×DS)=>x.1<=lss.length/\kY false X d (lss.take x.1) x.2/\ko dr vs x.2) (λx=>[(6,iv x.1)]) (λx=>[bN x.2]) (λx=>x.2.LL) (λx=>lss.length-x.1) ((0,d)) (⟨bf _,.nil,hd⟩) λ⟨i,t⟩ fr ⟨h5,h6,h7⟩=>?_;dsimp only at h5 h6 h7;refine(eE)<|(eH)<|aj eA call58 (xr (lss:=lss))<|(kU)<|ao ?_ ?_
 ·intro hc11;have hlt:i<lss.length:=by have:=of_decide_eq_true hc11;omega
  obtain⟨l,hli⟩:∃x,lss[i]? =some x:=⟨_,aG hlt⟩;have hl0:=hl l (bn hli);refine(mB)<|aI eA call59 (vW hli) λv2 Fs1 ⟨q1,e1,e2,e3⟩=>?_;subst e2;subst e3;refine aj eA call84 (tN (q:=q1))<|(aq) ?_;intro r7;refine(cu)<|(mH)<|(aB)<|(iW)<|aS eA call202 (U6 (St:=ko dr vs) (FF:=λd=>[bN d]) (LL:=DS.LL) (R:=wW false) (G:=[aO r3 0 [aF dr]]) (fv:=[]) (cv:=[be r3]) (ok:=CF vs) (s:=t) (q:=q1) (X:=X) (rx:=rx) call203 (ait hv.nn) h7 (by rw[e1];exact hl0.nn) hv.xn (by rw[e1];exact hl0.last) (by rw[e1];exact λj k hp hj=>Sc hv hl0 hp hj) (by rw[e1];exact hl0.big)) λv' Fs' L' ⟨t',⟨hR,hs'⟩,e4,e5,e6⟩=>?_;subst e4;subst e5;subst e6;rw[e1] at hR;refine(Jb) ?_;exact⟨(i+1,t'),oA,⟨oA,by dsimp only;rw[dO hli];exact .snoc h6 hR,hs'⟩,lA,kA,fA,hA⟩
 ·intro hc11;have hge:i=lss.length:=by have:=of_decide_eq_false hc11;omega
  rw[hge,dg] at h6;refine(nF) ?_;exact .norm (.nil) (Fs':=[bN t]) (L':=t.LL) (mP mA gy) (by first|exact tm _ _|(repeat (first|exact gx _|apply pd))) ⟨t,⟨h6,h7⟩,O,O,O⟩
theorem WT (hv:CC vs X) (hd:ko dr vs d) (hl:wU vs X q.l):ai prog 207 [aF dr,q.v,iv 0,.map (some rx)].toArray [q.fact,sD rx (fV X),bN d] d.LL (yd true dr vs X d [q.l]):=by
 have hpos:0<q.l.length:=DD.2 hl.ne;obtain⟨a,ha⟩:∃x,q.l[0]? =some x:=⟨_,aG hpos⟩;obtain⟨z,hz⟩:∃x,q.l[q.l.length-1]? =some x:=⟨_,aG aa⟩;refine am func207 λ_=>(ba)<|(qF) ?_;intro r4;refine(cg) ?_;intro r5;refine(qF) ?_;intro r6;refine(gu)<|aj eA call84 (tN (q:=q))<|(aq) ?_;intro r8;refine(cu) ?_;refine dl (r:=r4) tA ?_;refine dl (r:=r5) tA ?_;refine dl (r:=r6) tA ?_;refine dl (r:=r8) tA<|(cJ) ?_;refine aK ab O O O (aR (xs:=q.cells) mA) O O<|(aB)<|(iW)<|aS eA call202 (U6 (St:=ko dr vs) (FF:=λd=>[bN d]) (LL:=DS.LL) (R:=wW true) (G:=K2 r4 r6 r5 r8 dr q) (fv:=[]) (cv:=[be r4,be r6,be r5,be r8]) (ok:=CF vs) (s:=d) (q:=q) (X:=X) (rx:=rx) call302 (abT hv.nn ha hz hl.big) hd hl.nn hv.xn hl.last (λj k hp hj=>Sc hv hl hp hj) hl.big) λv' Fs' L' ⟨t',⟨hR,hs'⟩,e4,e5,e6⟩=>?_;subst e4;subst e5;subst e6;refine(lJ) ?_;exact .norm (.nil) (Fs':=[bN t']) (L':=t'.LL) (mP mA gy) (by repeat (first|exact gx _|apply pd)) ⟨t',⟨.snoc .nil hR,hs'⟩,O,O,O⟩
theorem alt (hv:CC vs X) (hd:ko dr vs d) (hl:∀l∈lss,wU vs X l):ai prog 208 [aF dr,jb p lss cp,iv 0,.map (some rx)].toArray [bQ p lss cp,sD rx (fV X),bN d] d.LL (yd true dr vs X d lss):=by
 refine uL (φ:=lss.length<=1048576) (λhp al=>by obtain⟨_,h,_⟩:=al (bQ p lss cp) (.head _);exact h.2) λhlb=>?_;refine am func208 λ_=>(au) ?_;intro _;refine(aN)<|(vD)<|aU [(8,21)] (λ(x:Nat×DS)=>x.1<=lss.length/\kY true X d (lss.take x.1) x.2/\ko dr vs x.2) (λx=>[(8,iv x.1)]) (λx=>[bN x.2]) (λx=>x.2.LL) (λx=>lss.length-x.1) ((0,d)) (⟨bf _,.nil,hd⟩) λ⟨i,t⟩ fr ⟨h5,h6,h7⟩=>?_;dsimp only at h5 h6 h7;refine(eE)<|(eH)<|aj eA call58 (xr (lss:=lss))<|(kU)<|ao ?_ ?_
 ·intro hc12;have hlt:i<lss.length:=by have:=of_decide_eq_true hc12;omega
  obtain⟨l,hli⟩:∃x,lss[i]? =some x:=⟨_,aG hlt⟩;have hl0:=hl l (bn hli);refine(j5)<|(js)<|(aB)<|aI eA call59 (vW hli) λv2 Fs1 ⟨q1,e1,e2,e3⟩=>?_;subst e2;subst e3;refine(dG)<|aS eA call207 (WT (q:=q1) (d:=t) (rx:=rx) hv h7 (by rw[e1];exact hl0)) λv' Fs' L' ⟨t',⟨hR,hs'⟩,e4,e5,e6⟩=>?_;subst e4;subst e5;subst e6;rw[e1] at hR;refine(Jb) ?_;exact⟨(i+1,t'),oA,⟨oA,by dsimp only;rw[dO hli];exact h6.app hR,hs'⟩,lA,kA,fA,hA⟩
 ·intro hc12;have hge:i=lss.length:=by have:=of_decide_eq_false hc12;omega
  rw[hge,dg] at h6;refine(nF) ?_;exact .norm (.nil) (Fs':=[bN t]) (L':=t.LL) (mP mA gy) (by first|exact tm _ _|(repeat (first|exact gx _|apply pd))) ⟨t,⟨h6,h7⟩,O,O,O⟩
end Go.Proofs
namespace Go.Proofs
open Tryz
open Go.V Go.Edges
variable {q:Sq} {p:Option Addr} {cp:Nat} {lss:List (List Pt)} {gs:List GM} {g:GM} {v:Value} {d:DS} {X:List Pt} {rx dr:Nat} {vs:List (Pt×Nat)} {o:Int}
theorem alv (IH:∀g∈gs,∀(v:Value) (d:DS),ko dr vs d->ai prog 156 [aF dr,gv g v,iv o,.map (some rx)].toArray [aE g v,sD rx (fV X),bN d] d.LL (yd true dr vs X d g.lines))
  (hd:ko dr vs d):
  ai prog 211 [aF dr,pn p gs cp,iv o,.map (some rx)].toArray [dA p gs cp,sD rx (fV X),bN d] d.LL (yd true dr vs X d (ck gs)):=by
 refine uL (φ:=gs.length<=1048576) (λhp al=>by obtain⟨_,h,_⟩:=al (dA p gs cp) (.head _);exact h.2) λhlb=>?_;refine am func211 λ_=>(au) ?_;intro _;refine(gu)<|aj eA call95 (Al (gs:=gs))<|(wG)<|aU [(9,9),(12,23)] (λ(x:Nat×DS)=>x.1<=gs.length/\kY true X d (ck (gs.take x.1)) x.2/\ko dr vs x.2) (λx=>[(9,iv x.1)]) (λx=>[bN x.2]) (λx=>x.2.LL) (λx=>gs.length-x.1) ((0,d)) (⟨bf _,.nil,hd⟩) λ⟨i,t⟩ fr ⟨h5,h6,h7⟩=>?_;dsimp only at h5 h6 h7;refine(lN)<|ao ?_ ?_
 ·intro hc14;have hlt:i<gs.length:=by have:=of_decide_eq_true hc14;omega
  obtain⟨g,hgi⟩:∃x,gs[i]? =some x:=⟨_,aG hlt⟩;refine(j5)<|(js)<|(aB)<|aI eA call96 (Ci hgi) λv2 Fs1 ⟨u0,e2,e3⟩=>?_;subst e2;subst e3;refine(dG)<|aS eA call156 (IH g (bn hgi) u0 t h7) λv' Fs' L' ⟨t',⟨hR,hs'⟩,e4,e5,e6⟩=>?_;subst e4;subst e5;subst e6;refine(Jb) ?_;exact⟨(i+1,t'),oA,⟨oA,by dsimp only;rw[dO hgi,si];simpa[ck] using h6.app hR,hs'⟩,lA,kA,fA,hA⟩
 ·intro hc14;have hge:i=gs.length:=by have:=of_decide_eq_false hc14;omega
  rw[hge,dg] at h6;refine(nF) ?_;exact .norm (.nil) (Fs':=[bN t]) (L':=t.LL) (mP mA gy) (by first|exact tm _ _|(repeat (first|exact gx _|apply pd))) ⟨t,⟨h6,h7⟩,O,O,O⟩
theorem WV (IH:∀g∈gs,∀(v:Value) (d:DS),ko dr vs d->ai prog 156 [aF dr,gv g v,iv o,.map (some rx)].toArray [aE g v,sD rx (fV X),bN d] d.LL (yd true dr vs X d g.lines))
  (hd:ko dr vs d):
  ai prog 156 [aF dr,gv (.gc gs) v,iv o,.map (some rx)].toArray [aE (.gc gs) v,sD rx (fV X),bN d] d.LL (yd true dr vs X d (ck gs)):=by
 refine am func156 λ_=>(au) ?_;intro _;refine(gu)<|aj eA call25 (lz (g:= .gc gs) (v:=v))<|(ud)<|(pO)<|aI eA call39 (sb (gs:=gs)) λv1 Fs1 ⟨p,cp,e2,e3⟩=>?_;subst e2;subst e3;refine(aq) ?_;intro _;refine(y7)<|(dG)<|aS eA call211 (alv (rx:=rx) (o:=o) IH hd) λv' Fs' L' ⟨t,⟨hR,hs'⟩,e4,e5,e6⟩=>?_;subst e4;subst e5;subst e6;refine(aN) ?_;exact .norm (.nil) (Fs':=[bN t]) (L':=t.LL) (mP mA gy) (by first|exact tm _ _|(repeat (first|exact gx _|apply pd))) ⟨t,⟨hR,hs'⟩,O,O,O⟩
theorem WU (hv:CC vs X):∀(k:Nat) (g:GM) (v:Value) (d:DS),SizeOf.sizeOf g<=k->(∀l∈g.lines,wU vs X l)->ko dr vs d->ai prog 156 [aF dr,gv g v,iv 0,.map (some rx)].toArray [aE g v,sD rx (fV X),bN d] d.LL (yd true dr vs X d g.lines)
 |0,g,v,d,h,_,_=>by cases g<;>simp at h
 |k+1,.ls l,v,d,h,hl,hd=>by
  have hl0:wU vs X l:=hl l (by simp[GM.lines]);refine am func156 λ_=>(au) ?_;intro _;refine(gu)<|aj eA call25 (lz (g:= .ls l) (v:=v))<|(dF)<|(pL)<|aI eA call29 (qQ (l:=l)) λv1 Fs1 ⟨q,e1,e2,e3⟩=>?_;subst e2;subst e3;subst e1;refine(aq) ?_;intro _;refine(y7)<|(dG)<|aS eA call207 (WT (q:=q) (d:=d) (rx:=rx) hv hd hl0) λv' Fs' L' ⟨t,⟨hR,hs'⟩,e4,e5,e6⟩=>?_;subst e4;subst e5;subst e6;refine(aN) ?_;exact .norm (.nil) (Fs':=[bN t]) (L':=t.LL) (mP mA gy) (by first|exact tm _ _|(repeat (first|exact gx _|apply pd))) ⟨t,⟨by simpa only[GM.lines] using hR,hs'⟩,O,O,O⟩
 |k+1,.mls lss,v,d,h,hl,hd=>by
  simp only[GM.lines] at hl ⊢;refine am func156 λ_=>(au) ?_;intro _;refine(gu)<|aj eA call25 (lz (g:= .mls lss) (v:=v))<|(ot)<|(pO)<|aI eA call35 (qP (lss:=lss)) λv1 Fs1 ⟨p,cp,e2,e3⟩=>?_;subst e2;subst e3;refine(aq) ?_;intro _;refine(y7)<|(dG)<|aS eA call208 (alt (d:=d) (rx:=rx) hv hd hl) λv' Fs' L' ⟨t,⟨hR,hs'⟩,e4,e5,e6⟩=>?_;subst e4;subst e5;subst e6;refine(aN) ?_;exact .norm (.nil) (Fs':=[bN t]) (L':=t.LL) (mP mA gy) (by first|exact tm _ _|(repeat (first|exact gx _|apply pd))) ⟨t,⟨hR,hs'⟩,O,O,O⟩
 |k+1,.gc gs,v,d,h,hl,hd=>by
  simp only[GM.lines] at hl ⊢;exact WV (λg hg v d hd=>WU hv k g v d (by have:=vN hg;simp at h;omega) (λl hm=>hl l (Hx hg hm)) hd) hd
theorem alu (hd:ko dr vs d):ai prog 156 [aF dr,gv (.gc []) v,iv o,.map (some rx)].toArray [aE (.gc []) v,sD rx (fV X),bN d] d.LL (yd true dr vs X d []):=
 WV (gs:=[]) (λg hg=>absurd hg oY) hd
end Go.Proofs
namespace Go.Proofs
open Tryz
open Go.V Go.Sort Go.Extern Go.Lib
variable {β:Type} [Inhabited β]
theorem abA {F:β->List Value} {tl:List Value} {e g n cap sf:Nat} {gS:Bool} {ie:TypeInfo} {M:List ae} (hk:∀x,(F x).length=1) (h1:∀x,∀v∈F x,v.oneCell'=true)
  (hx:∀args W,(callFunc sf args).run prog W=((ReflectliteSwapper.swap gS args).run prog W).andThen λv w'=> .ok (.value v) w')
  (hie:prog.info? e=some ie) (hs:ie.size=1) (hagg:∀w,(isAgg e).run prog w= .ok false w)
  (d:Array β) (hd:d.size=n) (x y:Int) (i j:Nat) (ex:x=i) (ey:y=j) (hi:i<n) (hj:j<n):
  IJ prog sf ([]++([iv x,iv y]++[Value.slice (some ⟨g,0,none⟩) n cap,typeHandle prog e])).toArray (dq F tl e g d::M) (λv L'=>v= .tuple #[]/\L'=dq F tl e g (swp d i j)::M):=by
 subst ex;subst ey;intro h w sa;have hg:=sa.own _ (.head _);simp only at hg;have hl:∀l:List β,(l.flatMap F++tl).length=l.length*1+tl.length:=λl=>by rw[aW,kJ λy _=>hk y]
 have hcell:∀q,q<n->∀v,F d[q]! =[v]->w.cell? ⟨g,0+q,none⟩=some v:=λq hq v hv=>by
  have hrow:=tM (Fs:=[]) (L:=dq F tl e g d::M) (r:=g) (off:=q) (j:=q) (x:=d[q]!) (io (.head _)) (λy _=>hk y) (by simp[hd,hq]) (vK q).symm;have:=hrow h w sa (λ_ hh=>nomatch hh) 0 v (by rw[hv];rfl);simpa using this
 have hfz:∀a,w.frozen? ⟨g,a,none⟩=false:=λa=>by simp[World.frozen?,hg]
 obtain⟨vi,hvi⟩:=Ke.1 (hk d[i]!);obtain⟨vj,hvj⟩:=Ke.1 (hk d[j]!);have hrun:=run_swap_one (P:=prog) gS e ie hie hs hagg g 0 n cap i j hi hj vi vj (h1 d[i]! vi (by rw[hvi];exact .head _)) (h1 d[j]! vj (by rw[hvj];exact .head _)) w (hcell i hi vi hvi) (hcell j hj vj hvj) (hfz _) (hfz _);have hrun:(ReflectliteSwapper.swap gS #[.int .i64 i,.int .i64 j,.slice (some ⟨g,0,none⟩) n cap,typeHandle prog e]).run prog w= .ok (.tuple #[]) ((w.setCells g (0+i*1) (F d[j]!)).setCells g (0+j*1) (F d[i]!)):=by
  rw[hvi,hvj,vK,vK];exact hrun
 have hdl:d.toList.length=n:=by simpa using hd
 have hin:i*1+1<=n*1:=by omega
 have hjn:j*1+1<=n*1:=by omega
 have e1:=GS (P:=prog) (o:=0+i*1) (vs:=F d[j]!) hg (by have:=hl d.toList;rw[hdl] at this;simp only[ox,hk];omega) (h1 _);rw[gX,G0 hk aa] at e1;have hg2:=setRow_heap w g _ ((d.toList.set i d[j]!).flatMap F++tl).toArray e (0,0) hg;have e2:=GS (P:=prog) (o:=0+j*1) (vs:=F d[i]!) hg2 (by have:=hl (d.toList.set i d[j]!);rw[Ko,hdl] at this;simp only[ox,hk];omega) (h1 _);rw[gX,G0 hk (by rw[Ko];omega),<-GE d i j aa aa] at e2;rw[gX,gX,e1,e2] at hrun;refine⟨.tuple #[],(w.setRow g ((d.toList.set i d[j]!).flatMap F++tl).toArray).setRow g ((swp d i j).toList.flatMap F++tl).toArray,dq F tl e g (swp d i j)::M,?_,⟨O,O⟩,?_⟩
 ·rw[hx];have:([]++([iv (i:Int),iv (j:Int)]++[Value.slice (some ⟨g,0,none⟩) n cap,typeHandle prog e])).toArray= #[.int .i64 i,.int .i64 j,.slice (some ⟨g,0,none⟩) n cap,typeHandle prog e]:=rfl;rw[this,hrun];rfl
 ·have re:dN ⟨h,w,ids (dq F tl e g d::M)⟩ h (dq F tl e g d::M) w:=⟨PH.le_refl _,sa,Fr.refl _ _,⟨λr hr=> .inl hr,λp hp=> .inl (aM.2 ⟨p,hp,rfl⟩)⟩⟩;have r1:=re.set (w':=w.setRow g ((d.toList.set i d[j]!).flatMap F++tl).toArray) (L':=(g,.cells ((d.toList.set i d[j]!).flatMap F++tl).toArray e (0,0))::M) .here rfl rfl rfl (by simp[World.setRow]) hg2 (λk hk=>by
   simp only[World.setRow,zU];rw[if_neg aa])
  have hg3:=setRow_heap (w.setRow g ((d.toList.set i d[j]!).flatMap F++tl).toArray) g _ ((swp d i j).toList.flatMap F++tl).toArray e (0,0) hg2;have r2:=r1.set (w':=(w.setRow g ((d.toList.set i d[j]!).flatMap F++tl).toArray).setRow g ((swp d i j).toList.flatMap F++tl).toArray) (L':=dq F tl e g (swp d i j)::M) .here rfl rfl rfl (by simp[World.setRow]) hg3 (λk hk=>by
   simp only[World.setRow,zU];rw[if_neg aa])
  exact⟨r2.sat,r2.fr,r2.new⟩
end Go.Proofs
namespace Go.Proofs
open Tryz
open Go.V
def G4 (a b:Pt):Bool:=
 bif kK a.1 0&&jn b.1 0 then true
 else bif jn a.1 0&&kK b.1 0 then false
 else bif cX a.1 0&&cX b.1 0 then(bif kK a.2 0||kK b.2 0 then jn a.2 b.2 else jn b.2 a.2)
 else bif tH ((uY a b).getD 0) 0 then fJ ((uY a b).getD 0) 0 else jn ((mo a a).getD 0) ((mo b b).getD 0)
structure Oi (a b:Pt):Prop where
 c:∃x,uY a b=some x
 d:∃x,mo a a=some x
 e:∃x,mo b b=some x
variable {a b:Pt}
theorem adn (h:Oi a b):ai prog 304 [pv a,pv b].toArray [] [] (Is (.bool (G4 a b))):=by
 obtain⟨⟨x,hx⟩,⟨y,hy⟩,z,hz⟩:=h;have ex:(uY a b).getD 0=x:=by rw[hx];rfl
 have ey:(mo a a).getD 0=y:=by rw[hy];rfl
 have ez:(mo b b).getD 0=z:=by rw[hz];rfl
 have e0:G4 a b=(bif kK a.1 0&&jn b.1 0 then true
  else bif jn a.1 0&&kK b.1 0 then false
  else bif cX a.1 0&&cX b.1 0 then(bif kK a.2 0||kK b.2 0 then jn a.2 b.2 else jn b.2 a.2)
  else bif tH x 0 then fJ x 0 else jn y z):=by rw[G4,ex,ey,ez]
 rw[e0];clear e0 ex ey ez;refine am func304 λ_=>(au) ?_;intro _;refine(cg) ?_;intro _;refine(bR)<|(fR)<|(ns)<|(aB) ?_;refine fY (t:=11) O (λhg11=>?_) (λhg11=>?_)
 ·refine(nC)<|(fm)<|ao ?_ ?_
  ·intro hc15;refine(ba)<|(jZ) ?_;exact⟨⟨by first|contradiction|simp_all [bw],O⟩,O⟩
  ·intro hc15;refine(bX)<|(eY) ?_;refine fY (t:=19) O (λhg19=>?_) (λhg19=>?_)
   ·refine(nC)<|(fm)<|ao ?_ ?_
    ·intro hc23;refine(ba)<|(jZ) ?_;exact⟨⟨by first|contradiction|simp_all [bw],O⟩,O⟩
    ·intro hc23;refine(bX)<|(eY) ?_;refine fY (t:=27) O (λhg27=>?_) (λhg27=>?_)
     ·refine(nC)<|(fm)<|ao ?_ ?_
      ·intro hc31;refine(eY) ?_;refine fY (t:=35) O (λhg35=>?_) (λhg35=>?_)
       ·refine(wH)<|ao ?_ ?_
        ·intro hc39
         first|(have hh:(true:Bool)=true:=hc39;clear hh hc39)|skip
         refine(cW) ?_;exact⟨⟨by first|contradiction|simp_all [bw],O⟩,O⟩
        ·intro hc39;refine(kW) ?_;exact⟨⟨by first|contradiction|simp_all [bw],O⟩,O⟩
       ·refine(nC)<|(vt)<|ao ?_ ?_
        ·intro hc39
         first|(have hh:(true:Bool)=true:=hc39;clear hh hc39)|skip
         refine(cW) ?_;exact⟨⟨by first|contradiction|simp_all [bw],O⟩,O⟩
        ·intro hc39;refine(kW) ?_;exact⟨⟨by first|contradiction|simp_all [bw],O⟩,O⟩
      ·intro hc31;refine(om)<|(gM)<|aj eA call353 (xR hx)<|(rG)<|ao ?_ ?_
       ·intro hc54;refine(za) ?_;exact⟨⟨by first|contradiction|simp_all [bw],O⟩,O⟩
       ·intro hc54;refine(Xe)<|aj eA call147 (oG hy)<|(rL)<|aj eA call147 (oG hz)<|(oP) ?_;exact⟨⟨by first|contradiction|simp_all [bw],O⟩,O⟩
     ·refine(lP)<|(vt)<|ao ?_ ?_
      ·intro hc31;refine(eY) ?_;refine fY (t:=35) O (λhg35=>?_) (λhg35=>?_)
       ·refine(wH)<|ao ?_ ?_
        ·intro hc39
         first|(have hh:(true:Bool)=true:=hc39;clear hh hc39)|skip
         refine(cW) ?_;exact⟨⟨by first|contradiction|simp_all [bw],O⟩,O⟩
        ·intro hc39;refine(kW) ?_;exact⟨⟨by first|contradiction|simp_all [bw],O⟩,O⟩
       ·refine(nC)<|(vt)<|ao ?_ ?_
        ·intro hc39
         first|(have hh:(true:Bool)=true:=hc39;clear hh hc39)|skip
         refine(cW) ?_;exact⟨⟨by first|contradiction|simp_all [bw],O⟩,O⟩
        ·intro hc39;refine(kW) ?_;exact⟨⟨by first|contradiction|simp_all [bw],O⟩,O⟩
      ·intro hc31;refine(om)<|(gM)<|aj eA call353 (xR hx)<|(rG)<|ao ?_ ?_
       ·intro hc54;refine(za) ?_;exact⟨⟨by first|contradiction|simp_all [bw],O⟩,O⟩
       ·intro hc54;refine(Xe)<|aj eA call147 (oG hy)<|(rL)<|aj eA call147 (oG hz)<|(oP) ?_;exact⟨⟨by first|contradiction|simp_all [bw],O⟩,O⟩
   ·refine(lP)<|(vt)<|ao ?_ ?_
    ·intro hc23;refine(ba)<|(jZ) ?_;exact⟨⟨by first|contradiction|simp_all [bw],O⟩,O⟩
    ·intro hc23;refine(bX)<|(eY) ?_;refine fY (t:=27) O (λhg27=>?_) (λhg27=>?_)
     ·refine(nC)<|(fm)<|ao ?_ ?_
      ·intro hc31;refine(eY) ?_;refine fY (t:=35) O (λhg35=>?_) (λhg35=>?_)
       ·refine(wH)<|ao ?_ ?_
        ·intro hc39
         first|(have hh:(true:Bool)=true:=hc39;clear hh hc39)|skip
         refine(cW) ?_;exact⟨⟨by first|contradiction|simp_all [bw],O⟩,O⟩
        ·intro hc39;refine(kW) ?_;exact⟨⟨by first|contradiction|simp_all [bw],O⟩,O⟩
       ·refine(nC)<|(vt)<|ao ?_ ?_
        ·intro hc39
         first|(have hh:(true:Bool)=true:=hc39;clear hh hc39)|skip
         refine(cW) ?_;exact⟨⟨by first|contradiction|simp_all [bw],O⟩,O⟩
        ·intro hc39;refine(kW) ?_;exact⟨⟨by first|contradiction|simp_all [bw],O⟩,O⟩
      ·intro hc31;refine(om)<|(gM)<|aj eA call353 (xR hx)<|(rG)<|ao ?_ ?_
       ·intro hc54;refine(za) ?_;exact⟨⟨by first|contradiction|simp_all [bw],O⟩,O⟩
       ·intro hc54;refine(Xe)<|aj eA call147 (oG hy)<|(rL)<|aj eA call147 (oG hz)<|(oP) ?_;exact⟨⟨by first|contradiction|simp_all [bw],O⟩,O⟩
     ·refine(lP)<|(vt)<|ao ?_ ?_
      ·intro hc31;refine(eY) ?_;refine fY (t:=35) O (λhg35=>?_) (λhg35=>?_)
       ·refine(wH)<|ao ?_ ?_
        ·intro hc39
         first|(have hh:(true:Bool)=true:=hc39;clear hh hc39)|skip
         refine(cW) ?_;exact⟨⟨by first|contradiction|simp_all [bw],O⟩,O⟩
        ·intro hc39;refine(kW) ?_;exact⟨⟨by first|contradiction|simp_all [bw],O⟩,O⟩
       ·refine(nC)<|(vt)<|ao ?_ ?_
        ·intro hc39
         first|(have hh:(true:Bool)=true:=hc39;clear hh hc39)|skip
         refine(cW) ?_;exact⟨⟨by first|contradiction|simp_all [bw],O⟩,O⟩
        ·intro hc39;refine(kW) ?_;exact⟨⟨by first|contradiction|simp_all [bw],O⟩,O⟩
      ·intro hc31;refine(om)<|(gM)<|aj eA call353 (xR hx)<|(rG)<|ao ?_ ?_
       ·intro hc54;refine(za) ?_;exact⟨⟨by first|contradiction|simp_all [bw],O⟩,O⟩
       ·intro hc54;refine(Xe)<|aj eA call147 (oG hy)<|(rL)<|aj eA call147 (oG hz)<|(oP) ?_;exact⟨⟨by first|contradiction|simp_all [bw],O⟩,O⟩
 ·refine(lP)<|(vt)<|ao ?_ ?_
  ·intro hc15;refine(ba)<|(jZ) ?_;exact⟨⟨by first|contradiction|simp_all [bw],O⟩,O⟩
  ·intro hc15;refine(bX)<|(eY) ?_;refine fY (t:=19) O (λhg19=>?_) (λhg19=>?_)
   ·refine(nC)<|(fm)<|ao ?_ ?_
    ·intro hc23;refine(ba)<|(jZ) ?_;exact⟨⟨by first|contradiction|simp_all [bw],O⟩,O⟩
    ·intro hc23;refine(bX)<|(eY) ?_;refine fY (t:=27) O (λhg27=>?_) (λhg27=>?_)
     ·refine(nC)<|(fm)<|ao ?_ ?_
      ·intro hc31;refine(eY) ?_;refine fY (t:=35) O (λhg35=>?_) (λhg35=>?_)
       ·refine(wH)<|ao ?_ ?_
        ·intro hc39
         first|(have hh:(true:Bool)=true:=hc39;clear hh hc39)|skip
         refine(cW) ?_;exact⟨⟨by first|contradiction|simp_all [bw],O⟩,O⟩
        ·intro hc39;refine(kW) ?_;exact⟨⟨by first|contradiction|simp_all [bw],O⟩,O⟩
       ·refine(nC)<|(vt)<|ao ?_ ?_
        ·intro hc39
         first|(have hh:(true:Bool)=true:=hc39;clear hh hc39)|skip
         refine(cW) ?_;exact⟨⟨by first|contradiction|simp_all [bw],O⟩,O⟩
        ·intro hc39;refine(kW) ?_;exact⟨⟨by first|contradiction|simp_all [bw],O⟩,O⟩
      ·intro hc31;refine(om)<|(gM)<|aj eA call353 (xR hx)<|(rG)<|ao ?_ ?_
       ·intro hc54;refine(za) ?_;exact⟨⟨by first|contradiction|simp_all [bw],O⟩,O⟩
       ·intro hc54;refine(Xe)<|aj eA call147 (oG hy)<|(rL)<|aj eA call147 (oG hz)<|(oP) ?_;exact⟨⟨by first|contradiction|simp_all [bw],O⟩,O⟩
     ·refine(lP)<|(vt)<|ao ?_ ?_
      ·intro hc31;refine(eY) ?_;refine fY (t:=35) O (λhg35=>?_) (λhg35=>?_)
       ·refine(wH)<|ao ?_ ?_
        ·intro hc39
         first|(have hh:(true:Bool)=true:=hc39;clear hh hc39)|skip
         refine(cW) ?_;exact⟨⟨by first|contradiction|simp_all [bw],O⟩,O⟩
        ·intro hc39;refine(kW) ?_;exact⟨⟨by first|contradiction|simp_all [bw],O⟩,O⟩
       ·refine(nC)<|(vt)<|ao ?_ ?_
        ·intro hc39
         first|(have hh:(true:Bool)=true:=hc39;clear hh hc39)|skip
         refine(cW) ?_;exact⟨⟨by first|contradiction|simp_all [bw],O⟩,O⟩
        ·intro hc39;refine(kW) ?_;exact⟨⟨by first|contradiction|simp_all [bw],O⟩,O⟩
      ·intro hc31;refine(om)<|(gM)<|aj eA call353 (xR hx)<|(rG)<|ao ?_ ?_
       ·intro hc54;refine(za) ?_;exact⟨⟨by first|contradiction|simp_all [bw],O⟩,O⟩
       ·intro hc54;refine(Xe)<|aj eA call147 (oG hy)<|(rL)<|aj eA call147 (oG hz)<|(oP) ?_;exact⟨⟨by first|contradiction|simp_all [bw],O⟩,O⟩
   ·refine(lP)<|(vt)<|ao ?_ ?_
    ·intro hc23;refine(ba)<|(jZ) ?_;exact⟨⟨by first|contradiction|simp_all [bw],O⟩,O⟩
    ·intro hc23;refine(bX)<|(eY) ?_;refine fY (t:=27) O (λhg27=>?_) (λhg27=>?_)
     ·refine(nC)<|(fm)<|ao ?_ ?_
      ·intro hc31;refine(eY) ?_;refine fY (t:=35) O (λhg35=>?_) (λhg35=>?_)
       ·refine(wH)<|ao ?_ ?_
        ·intro hc39
         first|(have hh:(true:Bool)=true:=hc39;clear hh hc39)|skip
         refine(cW) ?_;exact⟨⟨by first|contradiction|simp_all [bw],O⟩,O⟩
        ·intro hc39;refine(kW) ?_;exact⟨⟨by first|contradiction|simp_all [bw],O⟩,O⟩
       ·refine(nC)<|(vt)<|ao ?_ ?_
        ·intro hc39
         first|(have hh:(true:Bool)=true:=hc39;clear hh hc39)|skip
         refine(cW) ?_;exact⟨⟨by first|contradiction|simp_all [bw],O⟩,O⟩
        ·intro hc39;refine(kW) ?_;exact⟨⟨by first|contradiction|simp_all [bw],O⟩,O⟩
      ·intro hc31;refine(om)<|(gM)<|aj eA call353 (xR hx)<|(rG)<|ao ?_ ?_
       ·intro hc54;refine(za) ?_;exact⟨⟨by first|contradiction|simp_all [bw],O⟩,O⟩
       ·intro hc54;refine(Xe)<|aj eA call147 (oG hy)<|(rL)<|aj eA call147 (oG hz)<|(oP) ?_;exact⟨⟨by first|contradiction|simp_all [bw],O⟩,O⟩
     ·refine(lP)<|(vt)<|ao ?_ ?_
      ·intro hc31;refine(eY) ?_;refine fY (t:=35) O (λhg35=>?_) (λhg35=>?_)
       ·refine(wH)<|ao ?_ ?_
        ·intro hc39
         first|(have hh:(true:Bool)=true:=hc39;clear hh hc39)|skip
         refine(cW) ?_;exact⟨⟨by first|contradiction|simp_all [bw],O⟩,O⟩
        ·intro hc39;refine(kW) ?_;exact⟨⟨by first|contradiction|simp_all [bw],O⟩,O⟩
       ·refine(nC)<|(vt)<|ao ?_ ?_
        ·intro hc39
         first|(have hh:(true:Bool)=true:=hc39;clear hh hc39)|skip
         refine(cW) ?_;exact⟨⟨by first|contradiction|simp_all [bw],O⟩,O⟩
        ·intro hc39;refine(kW) ?_;exact⟨⟨by first|contradiction|simp_all [bw],O⟩,O⟩
      ·intro hc31;refine(om)<|(gM)<|aj eA call353 (xR hx)<|(rG)<|ao ?_ ?_
       ·intro hc54;refine(za) ?_;exact⟨⟨by first|contradiction|simp_all [bw],O⟩,O⟩
       ·intro hc54;refine(Xe)<|aj eA call147 (oG hy)<|(rL)<|aj eA call147 (oG hz)<|(oP) ?_;exact⟨⟨by first|contradiction|simp_all [bw],O⟩,O⟩
end Go.Proofs
namespace Go.Proofs
open Tryz
open Go.V Go.Sort Go.Extern Go.Lib
abbrev nE (e:Nat):List Value:=[aF e]
def xQ (d:DS) (e:Nat):Pt:=(jE ((d.E e).sq.l.getD 1 (0,0)) ((d.E e).sq.l.getD 0 (0,0))).getD (0,0)
def MY (d:DS) (e f:Nat):Bool:=G4 (xQ d e) (xQ d f)
structure A5 (d:DS) (l:List Nat):Prop where
 hs:∀e∈l,∃k,(k,e)∈d.hs
 two:∀e∈l,∃a b u,(d.E e).sq.l[0]? =some a/\(d.E e).sq.l[1]? =some b/\jE b a=some u
 rad:∀e∈l,∀f∈l,Oi (xQ d e) (xQ d f)
variable {d:DS} {g n cap r:Nat} {tl:List Value} {a:Array Nat} {ps:List Nat}
theorem Ip {d:DS} {e:Nat} {a b u:Pt} (ha:(d.E e).sq.l[0]? =some a) (hb:(d.E e).sq.l[1]? =some b) (hu:jE b a=some u):xQ d e=u:=by
 unfold xQ;rw[j7,j7,ha,hb];simp[hu]
abbrev Cb (r g n cap:Nat) (d:DS):List ae:=bL r 271 [.slice (some ⟨g,0,none⟩) n cap]::d.LL
theorem ahd (hd:a.size=n) (hn:n<=4294967295) (hk:A5 d a.toList) (x y:Int) (i j:Nat) (ex:x=i) (ey:y=j) (hi:i<n) (hj:j<n):
  ai prog 303 [iv x,iv y,be r].toArray [bN d] (dq nE tl 258 g a::Cb r g n cap d)
   (λv Fs' L'=>(v= .bool (MY d a[i]! a[j]!)/\Fs'=[])/\L'=dq nE tl 258 g a::Cb r g n cap d):=by
 subst ex;subst ey;obtain⟨e,he⟩:∃p,a[i]! =p:=⟨_,rfl⟩;obtain⟨f,hf⟩:∃q,a[j]! =q:=⟨_,rfl⟩;have hpi:a.toList[i]? =some e:=by rw[<-he];simp[hd,hi]
 have hqj:a.toList[j]? =some f:=by rw[<-hf];simp[hd,hj]
 have mei:=bn hpi;have mfj:=bn hqj;obtain⟨ke,hke⟩:=hk.hs e mei;obtain⟨kf,hkf⟩:=hk.hs f mfj;obtain⟨a0,a1,u,ha0,ha1,hu⟩:=hk.two e mei;obtain⟨b0,b1,v,hb0,hb1,hv⟩:=hk.two f mfj;have hr:=hk.rad e mei f mfj;rw[he,hf,MY];rw[Ip ha0 ha1 hu,Ip hb0 hb1 hv] at hr ⊢;refine nT (d.E e).sq.fact (λhp al=>al (bN d) (.head _) _ hke) ?_;refine nT (d.E f).sq.fact (λhp al=>al (bN d) (.tail _ (.head _)) _ hkf) ?_;refine am func303 λ_=>(y8)<|(gG)<|(aB) ?_;refine bp (s:=1) (i:=i) ab O O O O O aa aa O ?_;refine az ab O O O (jo (F:=nE) (k:=1) (i:=0) (io mA) (λ_ _=>O) hpi O aa) O<|(fo)<|(gG)<|(aB) ?_;refine bp (s:=1) (i:=j) ab O O O O O aa aa O ?_;refine az ab O O O (jo (F:=nE) (k:=1) (i:=0) (io mA) (λ_ _=>O) hqj O aa) O<|(bR) ?_;refine cz cw 12 [11] []<|(mE) ?_;refine ac O (aK ab O O O (jp (k:=5) (m:=2) (bD (mT (cK hke)))) O O) ?_;refine ac O (λkX=>aj eA call131 (iO (i:=1) ha1) kX)<|(mE) ?_;refine ac O (aK ab O O O (jp (k:=5) (m:=2) (bD (mT (cK hke)))) O O) ?_;refine ac O (λkX=>aj eA call131 (iO (i:=0) ha0) kX) ?_;refine ac O (λkX=>aj eA call132 (z0 hu) kX)<|(dT)<|(aq) ?_;intro r8;refine(iy)<|(dS) ?_;refine cz cw 12 [11] []<|(mE) ?_;refine ac O (aK ab O O O (jp (k:=5) (m:=2) (bD (mT (cK hkf)))) O O) ?_;refine ac O (λkX=>aj eA call131 (iO (i:=1) hb1) kX)<|(mE) ?_;refine ac O (aK ab O O O (jp (k:=5) (m:=2) (bD (mT (cK hkf)))) O O) ?_;refine ac O (λkX=>aj eA call131 (iO (i:=0) hb0) kX) ?_;refine ac O (λkX=>aj eA call132 (z0 hv) kX)<|(dT)<|(aq) ?_;intro r9;refine(iy)<|(cu)<|(gM)<|aj eA call304 (adn hr)<|(bO)<|aH [] (dq nE tl 258 g a::Cb r g n cap d) ?_;exact gk
end Go.Proofs
namespace Go.Proofs
open Tryz
open Go.V Go.Sort Go.Extern Go.Lib
variable {d:DS} {g n cap r:Nat} {tl:List Value} {a:Array Nat} {ps:List Nat} {v:Value} {B:List ae}
theorem Ud:(prog.info? 258).map (λi=>(i.size,i.hasPointers,i.bytes))=some (1,true,8):=by kernel_rfl
theorem aho:(prog.info? 271).map (·.desc)=some (.slice 258):=by kernel_rfl
theorem ahn:prog.packed 271=false:=by kernel_rfl
theorem aht (w:World):(isAgg 258).run prog w= .ok false w:=by kernel_rfl
theorem ahs (w:World):(Extern.Rtype.kind 258).run prog w= .ok 22 w:=by kernel_rfl
theorem abB:prog.funcs.findIdx? (·.name== "internal/reflectlite" ++ ".Swapper$" ++toString 3)=some 361:=by kernel_rfl
theorem xA (args:Array Value) (W:World):(callFunc 361 args).run prog W=((ReflectliteSwapper.swap true args).run prog W).andThen λv w'=> .ok (.value v) w':=
 run_callFunc_extern func361 br br br br args W
theorem aeu (x:Nat):∀v∈nE x,v.oneCell'=true:=λv hv=>by
 rcases bm.1 hv with rfl|hv
 ·rfl
 ·cases hv
noncomputable def T7 (d:DS) (r g n cap:Nat) (tl:List Value) (ps:List Nat):SF Nat where
 lf:=303
 sf:=361
 lfv:=[]
 lcv:=[be r]
 sfv:=[]
 scv:=[Value.slice (some ⟨g,0,none⟩) n cap,typeHandle prog 258]
 G:=[bN d]
 LL:=λa=>dq nE tl 258 g a::Cb r g n cap d
 lt:=MY d
 n:=n
 Ok:=λa=>a.size=n/\a.toList.Perm ps
theorem T8 {l l':List Nat} (h:A5 d l) (hp:l'.Perm l):A5 d l':=
 ⟨λe he=>h.hs e (hp.mem_iff.1 he),λe he=>h.two e (hp.mem_iff.1 he),λe he f hf=>h.rad e (hp.mem_iff.1 he) f (hp.mem_iff.1 hf)⟩
theorem ahc (hn:n<=4294967295) (hk:A5 d ps):kq (T7 d r g n cap tl ps) where
 lessE:=call303
 less:=λa ha x y i j ex ey hi hj=>ahd ha.1 hn (T8 hk ha.2) x y i j ex ey hi hj
 swap:=λa ha x y i j ex ey hi hj=>by
  obtain⟨ie,hie,hs⟩:=iE.1 Ud;exact abA (F:=nE) (λ_=>O) aeu xA hie (by simpa using(congrArg Prod.fst hs)) aht a ha.1 x y i j ex ey hi hj
 size:=λa ha=>ha.1
 ok:=λa ha i j hi hj=>⟨by simp[swp,ha.1],(GD (ha.1.symm▸hi) (ha.1.symm▸hj)).trans ha.2⟩
 small:=hn
theorem aci (h3:2<=n) (hn:n<=4294967295) (hk:A5 d ps) (hps:ps.length=n):
  ai prog 228 [.iface 271 (.slice (some ⟨g,0,none⟩) n cap),gE 303 [] [be r]].toArray [bN d] (dq nE tl 258 g ps.toArray::Cb r g n cap d)
   (λ_ Fs' L'=>Fs'=[]/\∃qs:List Nat,qs.Perm ps/\L'=dq nE tl 258 g qs.toArray::Cb r g n cap d):=by
 obtain⟨i,hi,hde⟩:=iE.1 aho;obtain⟨ie,hie,hs⟩:=iE.1 Ud;obtain⟨h1,hp,hby⟩:ie.size=1/\ie.hasPointers=true/\ie.bytes=8:=by simpa using hs
 have hsl:=xk (S:=T7 d r g n cap tl ps) (d:=ps.toArray) (p:=some ⟨g,0,none⟩) (cap:=cap) (ahc hn hk) ⟨hps,.refl _⟩ hi hde ahn (xi hi hde hie ahs (show swapperK n ie 22=3 by
  have a1:(n==0)=false:=by rw[beq_eq_false_iff_ne];omega
  have a2:(n==1)=false:=by rw[beq_eq_false_iff_ne];omega
  simp only[swapperK,a1,a2,hp,hby];rfl) abB)
 exact pg hsl λv Fs' L' ⟨q1,q2,q3⟩=>⟨q1,_,q2.2,q3⟩
theorem aJ.rowN (h:aJ 258 1 v ps.length (ps.flatMap nE) B) (h0:0<ps.length):∃g cap tl,v= .slice (some ⟨g,0,none⟩) ps.length cap/\B=[dq nE tl 258 g ps.toArray]/\
  ∀qs:List Nat,qs.length=ps.length->aJ 258 1 v qs.length (qs.flatMap nE) [dq nE tl 258 g qs.toArray]:=by
 have fl:∀l:List Nat,(l.flatMap nE).length=l.length:=λl=>by rw[kJ (k:=1) λ_ _=>rfl];omega
 obtain⟨g,cap,cur,rfl,rfl,h1,h2,h3,h4⟩:=aJ.one h h0;have hc:cur.toList=ps.flatMap nE++cur.toList.drop (ps.length*1):=by rw[<-h4,gf]
 refine⟨g,cap,cur.toList.drop (ps.length*1),O,?_,λqs hq=>?_⟩
 ·have:cur=(ps.toArray.toList.flatMap nE++cur.toList.drop (ps.length*1)).toArray:=by apply xc;simpa using hc
  rw[dq,<-this]
 ·have hql:=fl qs;refine⟨aa,.inr ⟨g,cap,_,by rw[hq],rfl,aa,h2,?_,?_⟩⟩
  ·have e1:(qs.toArray.toList.flatMap nE).length=qs.length:=hql;simp only[ox,aW,jx,vO,e1];omega
  ·have e1:(qs.toArray.toList.flatMap nE).length=qs.length:=hql;rw[vJ aa,eQ aa]
end Go.Proofs
namespace Go.V
section
variable {P:Program} {c:bC} {n:Nat} {ops:Array Oper} {Fs:List an} {L:List ae} {f:Fm} {Q:bG} {rest:List Oper}
variable {d:Nat} {ty:TypeId} {ps:String} {aft:Array Edge} {x y:Operand}
theorem uR {a b:Int} {i m:Nat} (hx:ap f x= .b (.int .i64 a)) (hy:ap f y= .b (.int .i64 b)) (ha:a=i) (hb:b=m) (h0:0<m) (hd:Nat.blt d n=true) {T:TypeId} {T2:TypeId}
  (k:ak P c n ops Fs L (aT f d (.int .i64 ((i%m:Nat):Int))) rest Q):
  ak P c n ops Fs L f (⟨some d,.binOp .rem T x y T2,ty,ps,aft,none⟩::rest) Q:=by
 subst ha;subst hb;refine Na hx hy aa aa hd ?_;rw[<-Int.natCast_emod];exact k
end
end Go.V
namespace Go.Proofs
open Tryz
open Go.V Go.Edges
variable {d:DS} {v dr:Nat} {p:Pt}
theorem ai7 {D:DS} {ei ej t:Nat} (h:(D.E ej).tw=some t):((D.modE ei λe=>e.pv_ (some t)).modE t λe=>e.nx_ (some ei))=xO D ei ej:=by
 have h1:((D.modE ei λe=>{e with pv:=(D.E ej).tw}).E ej).tw=some t:=by
  simp only[DS.modE];split
  ·rename_i h';subst h';exact h
  ·exact h
 unfold xO;dsimp only;rw[h1,h];rfl
theorem Rt {l:List Nat} {seen:List Nat} (h:eO l.length seen) (ha:∀i,i<l.length->i∈seen):(seen.map λi=>l.getD i 0).Perm l:=by
 have h1:seen.Perm (List.range l.length):=(zS h.nd PF).2 λi=>⟨λhi=>nL.2 (h.lt i hi),λhi=>ha i (nL.1 hi)⟩;have h2:(List.range l.length).map (λi=>l.getD i 0)=l:=by
  apply List.ext_getElem
  ·simp
  ·intro i h3 h4;simp[j7,h4]
 have h3:=h1.map λi=>l.getD i 0;rw[h2] at h3;exact h3
theorem ai6 (hv:(p,v)∈d.vs) (hk:A5 d (d.M v)) (htw:∀e∈d.M v,∃t k,(d.E e).tw=some t/\(k,t)∈d.hs) (hb:(d.M v).length<=4294967295):
  ai prog 212 [aF dr,aF v].toArray [bN d] d.LL (λw Fs' L'=>(w= .tuple #[]/\Fs'=[])/\∃d',JO d v d'/\L'=d'.LL):=by
 obtain⟨im,him⟩:∃im,im=(d.V v).im:=⟨_,rfl⟩;have hml:(gO (d.M v)).length=(d.M v).length:=by simp
 refine am func212 λ_=>(bJ)<|(Fy) ?_;refine az ab O O O (ct (bj (mT (jQ hv)) O O) (v':= .map (some im)) (by rw[him])) O ?_;refine Ng ab O O O (eo (kvs:=gO (d.M v)) (him▸(mT (Ht hv)))) (by rw[hml];omega) O ?_;refine pk (e:=258) (size:=1) ab O O O O O O (zl:=[.pointer none]) nA O (l:=0) (cp:=(gO (d.M v)).length) O O (bf _) O (by show(gO (d.M v)).length*8<=_;omega) O λv0 B0 hs0=>?_;obtain⟨p0,c0,rfl⟩:=hs0.shape;refine(nH) ?_;intro r4;refine(gn)<|(AU)<|(Fy) ?_;refine az ab O O O (ct (bj (mT (jQ hv)) O O) (v':= .map (some im)) (by rw[him])) O ?_;refine uS ab O O O (eo (kvs:=gO (d.M v)) (him▸(mT (Ht hv)))) O λri=>(dF)<|aU [(5,5),(21,28)] (λ(x:List Nat×(Option Addr×Nat)×List ae×List Nat)=>eO (gO (d.M v)).length x.1/\x.2.2.2=x.1.map (λi=>(d.M v).getD i 0)/\aJ 258 1 (.slice x.2.1.1 x.2.2.2.length x.2.1.2) x.2.2.2.length (x.2.2.2.flatMap nE) x.2.2.1) (λ_=>[]) (λ_=>[]) (λx=>(ri,jH im (gO (d.M v)).length x.1)::bL r4 271 [.slice x.2.1.1 x.2.2.2.length x.2.1.2]::x.2.2.1) (λx=>(gO (d.M v)).length-x.1.length) (([],(p0,c0),B0,[])) (⟨eO.nil,O,hs0⟩) λ⟨seen,⟨p1,c1⟩,B1,ps⟩ fr ⟨h5,h6,h7⟩=>?_;dsimp only at h5 h6 h7;have hle:=h5.le;have hpl:ps.length=seen.length:=by rw[h6,cP]
 refine(ba) ?_;refine uU (m:=im) (kvs:=gO (d.M v)) (seen:=seen) O (eo (him▸(mT (Ht hv)))) mA (λ_=>uA) O O λo ho=>?_;refine sC O (uM o) O<|(cn)<|ao ?_ ?_
 ·intro hc22;obtain⟨⟨i,q⟩,rfl⟩:=uE.1 hc22;obtain⟨hq,hns,hil⟩:=ho.one i q rfl;have hlt:=h5.lt_of hns hil;obtain⟨e,he,rfl⟩:=sd (F:=λe:Nat=>(aF e,Value.agg #[])) rfl hq;refine(uf) ?_;refine uV (m:=im) (kvs:=gO (d.M v)) (seen:=seen) (i:=i) O (eo (him▸(mT (Ht hv)))) mA hq O<|(kR)<|(bt)<|(cJ)<|(gG)<|(aB)<|(eD) ?_;intro b27;refine di (e:=258) (size:=1) (news:=[e].flatMap nE) ab O O O O O O O (B:=B1) tA h7 O (bD mA) O O dp (by show(ps.length+1)*8<=_;omega) O λv' B' hs'=>?_;rw[<-ft] at hs';have hs2:aJ 258 1 v' (ps++[e]).length ((ps++[e]).flatMap nE) B':=by rw[aW];exact hs'
  obtain⟨p2,c2,rfl⟩:=hs2.shape;refine(gn)<|(aN)<|(ir) ?_;exact⟨(seen++[i],(p2,c2),B',ps++[e]),by dsimp only;rw[aW];simp only[dZ];omega,⟨h5.snoc hns hil,by{dsimp only;rw[h6,dX];simp[j7,he]},hs2⟩,lA,kA,fA,hA⟩
 ·intro hc22;have hall:=ho.all (by simpa using hc22);have hperm:ps.Perm (d.M v):=by{rw[h6];exact Rt (l:=d.M v) (hml▸h5) (λi hi=>hall i aa)}
  have hpn:ps.length=(d.M v).length:=hperm.length_eq;obtain rfl:o=none:=by simpa using hc22
  refine(y9)<|(gG)<|(dH)<|(C5)<|(iC)<|(Ja)<|jl (bL r4 271 [.slice p1 ps.length c1]::(B1++d.LL)) [(34,37)] (λ(z:List Nat×List ae)=>z.1.Perm ps/\aJ 258 1 (.slice p1 ps.length c1) z.1.length (z.1.flatMap nE) z.2) (λ_=>[]) (λ_=>[]) (λz=>bL r4 271 [.slice p1 ps.length c1]::(z.2++d.LL)) ?_ ?_
  ·refine ao ?_ ?_
   ·intro hc33;have h2:2<ps.length:=by{have h9:(2:Int)<ps.length:=(by simpa using hc33);omega}
    obtain⟨g,cap,tl,e1,e2,hall2⟩:=aJ.rowN h7 aa;cases e1;subst e2;refine(cJ)<|(gG)<|(rE)<|(iW)<|aS eA call228 (aci (g:=g) (tl:=tl) (ps:=ps) (cap:=c1) (r:=r4) aa aa (T8 hk hperm) O) λv2 Fs2 L2 ⟨e3,qs,hqs,e4⟩=>?_;subst e3;subst e4;refine(aN) ?_;exact⟨(qs,[dq nE tl 258 g qs.toArray]),⟨hqs,hall2 qs hqs.length_eq⟩,lA,kA,fA,hA⟩
   ·intro hc33;refine(bX) ?_;exact⟨(ps,B1),⟨.refl _,h7⟩,lA,kA,fA,hA⟩
  ·intro⟨qs,B2⟩ fj ⟨g1,g2⟩;dsimp only at g1 g2;have hql:qs.length=ps.length:=g1.length_eq;have hqm:=g1.trans hperm;refine(ba)<|(gG)<|(gW)<|aU [(7,9),(40,69)] (λ(i:Nat)=>i<=qs.length) (λi=>[(40,iv i)]) (λ_=>[]) (λi=>(mZ d qs i).LL) (λi=>qs.length-i) (0) (bf _) ?_;intro i fr2 h8;refine(cM)<|ao ?_ ?_
   ·intro hc41;have hlt:i<qs.length:=by have:=of_decide_eq_true hc41;omega
    have hsame:=Aw d qs i;obtain⟨D,hD⟩:∃D,D=mZ d qs i:=⟨_,rfl⟩;rw[<-hD] at hsame ⊢;obtain⟨ei,hei⟩:∃x,qs[i]? =some x:=⟨_,aG hlt⟩;have hmod:(i+1)%qs.length<qs.length:=nI _ aa;obtain⟨ej,hej⟩:∃x,qs[(i+1)%qs.length]? =some x:=⟨_,aG hmod⟩;obtain⟨ki,hki⟩:=hk.hs ei (hqm.mem_iff.1 (bn hei));obtain⟨kj,hkj⟩:=hk.hs ej (hqm.mem_iff.1 (bn hej));obtain⟨t,kt,ht,hkt⟩:=htw ej (hqm.mem_iff.1 (bn hej));rw[<-hsame.hs] at hki hkj hkt;rw[<-(hsame.E ej).tw] at ht;obtain⟨g,cap,tl,e1,e2,hall2⟩:=aJ.rowN g2 aa;have e1:p1=some ⟨g,0,none⟩:=by{injection e1}
    subst e1;subst e2;refine(FC) ?_;intro hnd;have n0:(ids D.LL).Nodup:=BO hnd;obtain⟨D1,eD1,uD1,nD1,kD1⟩:=mU hki n0 (λe=>e.pv_ (some t));have hkt1:(kt,t)∈D1.hs:=kD1.hs▸hkt;have hkj1:(kj,ej)∈D1.hs:=kD1.hs▸hkj;obtain⟨D2,eD2,uD2,nD2,kD2⟩:=mU hkt1 nD1 (λe=>e.nx_ (some ei));have hD2:D2=mZ d qs (i+1):=by{rw[eD2,eD1,ai7 ht,hD];simp only[mZ,j7,hei,hej,mM]}
    have ht1:(D1.E ej).tw=some t:=by{rw[eD1,kl];split;(rename_i hh;rw[<-hh];exact ht);exact ht}
    refine(rK)<|(fo)<|(gG)<|(aB) ?_;refine bp (s:=1) (i:=i) ab O O O O O aa aa O ?_;refine az ab O O O (jo (F:=nE) (k:=1) (i:=0) (xs:=qs) (io mA) (λ_ _=>O) hei O aa) O<|(bR)<|(C6)<|(qD)<|(bh)<|(wN)<|(qD)<|(zp) ?_;refine ac O (uR (i:=i+1) (m:=qs.length) O O aa aa aa O) ?_;refine ac O (bp (s:=1) (i:=(i+1)%qs.length) ab O O O O O aa aa O) ?_;refine ac O (az ab O O O (jo (F:=nE) (k:=1) (i:=0) (xs:=qs) (io mA) (λ_ _=>O) hej O aa) O)<|(jY)<|(iz)<|(Fy) ?_;refine az ab O O O (ct (bj (mT (cK hkj)) O O) (v':=aF t) (by rw[ht];rfl)) O<|(Fy) ?_;refine cS ab O (cs:=(D.E ei).enc) (cs':=((D.E ei).pv_ (some t)).enc) O O O O O O O (uT (uD1))<|(aN)<|(aY)<|(Fy) ?_;refine az ab O O O (ct (bj (mT (cK hkj1)) O O) (v':=aF t) (by rw[ht1];rfl)) O<|(aB)<|(Fy) ?_;refine cS ab O (cs:=(D1.E t).enc) (cs':=((D1.E t).nx_ (some ei)).enc) O O O O O O O (uT (uD2)) ?_;subst hD2;refine(rM) ?_;exact⟨i+1,oA,aa,lA,kA,fA,hA⟩
   ·intro hc41;have hge:i=qs.length:=by have:=of_decide_eq_false hc41;omega
    subst hge;refine(nF)<|ed [] ((mZ d qs qs.length).LL) ?_;exact⟨⟨O,O⟩,_,⟨qs,hqm,O⟩,O⟩
end Go.Proofs
namespace Go.Proofs
open Tryz
open Go.V Go.Edges
variable {d:DS} {dr:Nat}
structure IK (d:DS):Prop where
 inc:∀p v,(p,v)∈d.vs->A5 d (d.M v)
 tw:∀p v,(p,v)∈d.vs->∀e∈d.M v,∃t k,(d.E e).tw=some t/\(k,t)∈d.hs
 len:∀p v,(p,v)∈d.vs->(d.M v).length<=4294967295
theorem VR {d d':DS} (h:qx d d') (e:Nat):xQ d' e=xQ d e:=by unfold xQ;rw[(h.E e).sq]
theorem Yc {d d':DS} (h:qx d d') (k:IK d):IK d':=by
 have hE:=h.E;refine⟨λp v hv=>?_,λp v hv e he=>?_,λp v hv=>?_⟩
 ·rw[h.vs] at hv;rw[h.M];have:=k.inc p v hv;exact⟨λe he=>by rw[h.hs];exact this.hs e he,λe he=>by rw[(hE e).sq];exact this.two e he,λe he f hf=>by rw[VR h,VR h];exact this.rad e he f hf⟩
 ·rw[h.vs] at hv;rw[h.M] at he;rw[(hE e).tw,h.hs];exact k.tw p v hv e he
 ·rw[h.vs] at hv;rw[h.M];exact k.len p v hv
theorem ajp {d d':DS} (h:qx d d') {hp:PH} (k:(bN d).p hp):(bN d').p hp:=Ih k h.hs λj=>(h.E j).sq
theorem ai5 (hk:IK d) (hdr:d.dr=dr) (hb:d.vs.length<=4294967295):
  ai prog 157 [aF dr].toArray [bN d] d.LL (λw Fs' L'=>∃d' l,uu d l d'/\l.Perm (d.vs.map (·.2))/\w= .tuple #[]/\Fs'=[bN d']/\L'=d'.LL):=by
 subst hdr;have hml:(eL d.vs).length=d.vs.length:=by simp
 refine am func157 λ_=>(bJ)<|(Fy) ?_;refine az ab O O O (bj (mT ((Bh _:d.dB∈d.LL))) O O) O ?_;refine uS ab O O O (eo (kvs:=eL d.vs) (mT ((.tail _ (.tail _ (.head _)):(d.vm,bW (eL d.vs))∈d.LL)))) O λri=>(dF)<|aU [(3,3),(9,15)] (λ(x:List Nat×DS)=>eO (eL d.vs).length x.1/\uu d (x.1.map λi=>(d.vs.map (·.2)).getD i 0) x.2) (λ_=>[]) (λx=>[bN x.2]) (λx=>(ri,jH d.vm (eL d.vs).length x.1)::x.2.LL) (λx=>(eL d.vs).length-x.1.length) (([],d)) (⟨eO.nil,.nil⟩) λ⟨seen,D⟩ fr ⟨h5,h6⟩=>?_;dsimp only at h5 h6;have hle:=h5.le;have hsame:=h6.same;obtain⟨vm,hvm⟩:∃m,m=D.vm:=⟨_,rfl⟩;have hvd:d.vm=vm:=by rw[hvm,hsame.vm]
 obtain⟨vs,hvs⟩:∃m,m=D.vs:=⟨_,rfl⟩;have hvsd:d.vs=vs:=by rw[hvs,hsame.vs]
 rw[hvd,hvsd];have hmap:(vm,bW (eL vs))∈D.LL:=by{rw[hvm,hvs];exact .tail _ (.tail _ (.head _))}
 refine(ba) ?_;refine uU (m:=vm) (kvs:=eL vs) (seen:=seen) O (eo (mT (hmap))) mA (λ_=>uA) O O λo ho=>?_;refine sC O (uM o) O<|(cn)<|ao ?_ ?_
 ·intro hc10;obtain⟨⟨i,q⟩,rfl⟩:=uE.1 hc10;obtain⟨hq,hns,hil⟩:=ho.one i q rfl;rw[hvsd] at h5;have hlt:=h5.lt_of hns hil;obtain⟨⟨p,v⟩,he,rfl⟩:=sd (F:=λe:Pt×Nat=>(pv e.1,aF e.2)) rfl hq;have hpv:(p,v)∈D.vs:=hvs▸bn he;have hk':=Yc hsame hk;refine(uf) ?_;refine uV (m:=vm) (kvs:=eL vs) (seen:=seen) (i:=i) O (eo (mT (hmap))) mA hq O<|(kR)<|(bt)<|(cO)<|aS eA call212 (ai6 (d:=D) (dr:=d.dr) hpv (hk'.inc p v hpv) (hk'.tw p v hpv) (hk'.len p v hpv)) λv' Fs' L' ⟨⟨e1,e2⟩,D2,hF,e3⟩=>?_;subst e1;subst e2;subst e3;refine cL (bN D2) (λhp al=>by{obtain⟨l,_,rfl⟩:=hF;exact ajp (Aw _ _ _) (al (bN D) mA)}) ?_;rw[<-hvd,<-hvsd];rw[<-hvsd] at h5 he hil hlt;refine(aN)<|(ir) ?_;exact⟨(seen++[i],D2),by dsimp only;rw[aW];simp only[dZ];omega,⟨h5.snoc hns hil,by{dsimp only;rw[dX];refine h6.snoc ?_;have e0:(d.vs.map (·.2)).getD i 0=v:=(by simp[j7,he]);show JO D ((d.vs.map (·.2)).getD i 0) D2;rw[e0];exact hF}⟩,lA,kA,fA,hA⟩
 ·intro hc10;have hall:=ho.all (by simpa using hc10);obtain rfl:o=none:=by simpa using hc10
  rw[hvsd] at h5;refine(nF)<|ed [bN D] D.LL ?_;exact⟨D,_,h6,by{have h7:=Rt (l:=vs.map (·.2)) (seen:=seen) (by simpa using h5) (λi hi=>hall i (by simpa using hi));rw[hvsd];exact h7},O,O,O⟩
end Go.Proofs
namespace Go.Proofs
open Tryz
open Go.V
theorem ahY {c:bC} {n:Nat} {ops:Array Oper} {Fs:List an} {L:List ae} {f:Fm} {Q:bG} {rest:List Oper} {d:Nat} {ty:TypeId} {ps:String} {aft:Array Edge} {x y:Operand} {T T' te:TypeId} {size:Nat}
  (hp:prog.underlying T=some (.pointer te)) (hte:(prog.info? te).map (·.size)=some size) (hsz:size≠0) {a b:Nat} {ca cb:Array Value} {ta tb:TypeId} (hx:ap f x= .b (aF a)) (hy:ap f y= .b (aF b))
  (ha:(a,Obj.cells ca ta (0,0))∈L) (hb:(b,Obj.cells cb tb (0,0))∈L) (hd:Nat.blt d n=true) (k:ak prog c n ops Fs L (aT f d (.bool (decide (a=b)))) rest Q):
  ak prog c n ops Fs L f (⟨some d,.binOp .eql T x y T',ty,ps,aft,none⟩::rest) Q:=
 qj hx hy M5 (λh w sa _=>by
  obtain⟨j,hj,hs⟩:=iE.1 hte;have e:(Op.equal T (aF a) (aF b)).run prog w= .ok (decide (a=b)) w:=Vx hp hj aa (sa.own _ ha) (sa.own _ hb) 9999;simp[Go.binOp,e]) hd k
theorem ahq:prog.underlying 258=some (.pointer 281):=by kernel_rfl
theorem ahr:(prog.info? 281).map (·.size)=some 14:=by kernel_rfl
def ib (f:Nat->Nat):Nat->Nat->Nat
 |0,e=>e
 |k+1,e=>f (ib f k e)
theorem MQ (f:Nat->Nat):∀(i j e:Nat),ib f (i+j) e=ib f i (ib f j e)
 |0,j,e=>by rw[gX];rfl
 |i+1,j,e=>by
  have:i+1+j=(i+j)+1:=by omega
  rw[this];show f (ib f (i+j) e)=f (ib f i (ib f j e));rw[MQ f i j e]
theorem Ss:∀(l H:List Nat),l.Nodup->(∀x∈l,x∈H)->l.length<=H.length
 |[],H,_,_=>bf _
 |a::l,H,hn,hs=>by
  have hn':=la.1 hn;have hm:=hs a (.head _);have:=Ss l (H.erase a) hn'.2 λx hx=>(List.mem_erase_of_ne (a:=x) (b:=a) (λe=>hn'.1 (e▸hx))).2 (hs x (.tail _ hx));rw[PL hm] at this;have:=List.length_pos_of_mem hm;simp only[cE];omega
structure zF (H:List Nat) (nxt:Nat->Nat):Prop where
 inn:∀e∈H,nxt e∈H
 inj:∀a∈H,∀b∈H,nxt a=nxt b->a=b
variable {H:List Nat} {nxt:Nat->Nat} {e:Nat}
theorem zF.mem (c:zF H nxt) (he:e∈H):∀k,ib nxt k e∈H
 |0=>he
 |k+1=>c.inn _ (c.mem he k)
theorem zF.cancel (c:zF H nxt) {a b:Nat} (ha:a∈H) (hb:b∈H):∀k,ib nxt k a=ib nxt k b->a=b
 |0,h=>h
 |k+1,h=>c.cancel ha hb k (c.inj _ (c.mem ha k) _ (c.mem hb k) h)
theorem zF.back (c:zF H nxt) (he:e∈H):∃m,0<m/\m<=H.length/\ib nxt m e=e:=by
 apply Kn;intro hc;have hne:∀m,0<m->m<=H.length->ib nxt m e≠e:=λm h1 h2 h3=>hc ⟨m,h1,h2,h3⟩;have:=Ss ((List.range (H.length+1)).map λi=>ib nxt i e) H (by
  rw[List.Nodup,List.pairwise_iff_getElem];intro i j hi hj hij;simp only[cP,Dw] at hi hj;simp only[List.getElem_map,List.getElem_range];intro h;have e1:j=i+(j-i):=by omega
  rw[e1,MQ] at h;exact hne (j-i) aa aa (c.cancel he (c.mem he _) i h).symm) (λx hx=>by
  obtain⟨i,_,rfl⟩:=aM.1 hx;exact c.mem he i)
 simp at this;omega
inductive yf {α:Type} (R:α->Nat->α->Prop) (nxt:Nat->Nat) (e:Nat):α->Nat->α->Prop where
 |nil {s}:yf R nxt e s 0 s
 |snoc {s m t s'}:yf R nxt e s m t->R t (ib nxt m e) s'->yf R nxt e s (m+1) s'
variable {α:Type} {St:α->Prop} {LL:α->List ae} {R:α->Nat->α->Prop} {G:List an} {fn:Nat} {fv cv:List Value} {s:α}
theorem VY (hc:∀(args:Array Value) (w:World),(callFunc fn args).run prog w= .ok (.enter fn args) w) (hC:zF H nxt) (E:α->Nat->cq)
  (hE:∀s,St s->∀e∈H,(e,Obj.cells (E s e).enc.toArray 281 (0,0))∈LL s/\(E s e).nx=some (nxt e))
  (hcb:∀s e,St s->e∈H->ai prog fn (fv++([aF e]++cv)).toArray G (LL s) (λv Fs' L'=>∃s',(R s e s'/\St s')/\v= .tuple #[]/\Fs'=[]/\L'=LL s'))
  (hs:St s) (he:e∈H):
  ai prog 213 [aF e,gE fn fv cv].toArray G (LL s) (λv Fs' L'=>∃m s',(0<m/\ib nxt m e=e/\yf R nxt e s m s'/\St s')/\v= .tuple #[]/\Fs'=[]/\L'=LL s'):=by
 obtain⟨M,hM0,hM1,hM2⟩:=hC.back he;refine am func213 λ_=>(bJ)<|(nz)<|aU [(4,4),(6,15)] (λ(x:Nat×α)=>x.1<M/\yf R nxt e s x.1 x.2/\St x.2) (λx=>[(4,aF (ib nxt x.1 e))]) (λ_=>[]) (λx=>LL x.2) (λx=>M-x.1) ((0,s)) (⟨hM0,.nil,hs⟩) λ⟨i,t⟩ fr ⟨h5,h6,h7⟩=>?_;dsimp only at h5 h6 h7;have hmi:=hC.mem he i;refine(gU)<|(fb) ?_;refine dj O eA hc (NF.refl _) (hcb t (ib nxt i e) h7 hmi) λv' Fs' L' ⟨t',⟨hR,hs'⟩,e4,e5,e6⟩=>?_;subst e4;subst e5;subst e6;obtain⟨hm1,hm2⟩:=hE t' hs' _ hmi;refine(qC)<|(Fy) ?_;refine az ab O O O (ct (bj (mT (hm1)) O O) (v':=aF (nxt (ib nxt i e))) (by rw[hm2];rfl)) O<|(iz) ?_;refine ahY ahq ahr bz O O (mT ((hE t' hs' _ (hC.mem he (i+1))).1)) (mT ((hE t' hs' e he).1)) O<|(aN)<|ao ?_ ?_
 ·intro hc15;have hend:ib nxt (i+1) e=e:=of_decide_eq_true hc15;refine(AT)<|(Xy)<|(wy)<|(Fp)<|ed [] (LL t') ?_;exact⟨i+1,t',⟨Nat.succ_pos _,hend,.snoc h6 hR,hs'⟩,O,O,O⟩
 ·intro hc15;have hend:¬ib nxt (i+1) e=e:=of_decide_eq_false hc15;have hlt:i+1<M:=by{rcases dL (i+1) M with h|h;exact h;exact absurd ((show i+1=M by omega)▸hM2) hend}
  refine(OB) ?_;exact⟨(i+1,t'),oA,⟨hlt,.snoc h6 hR,hs'⟩,lA,kA,fA,hA⟩
end Go.Proofs
namespace Go.Proofs
open Tryz
open Go.V Go.Edges
abbrev kF (l:List Nat):List (Value×Value):=l.map λe=>(aF e,.bool true)
theorem af8 (l:List Nat) (e:Nat):jS (kF l) (aF e) (.bool true)=kF (kH l e):=by
 have hin:∀a b:Nat,aF a=aF b->a=b:=λa b h=>by simpa using h
 have gen:∀l:List Nat,(e∈l->jS (kF l) (aF e) (.bool true)=kF l)/\(e∉l->jS (kF l) (aF e) (.bool true)=kF (l++[e])):=by
  intro l
  induction l with
  |nil=>exact⟨λh=>(nomatch h),λ_=>rfl⟩
  |cons a l ih=>
   by_cases ha:e=a
   ·subst ha;exact⟨λ_=>by simp[kF,jS],λh=>absurd (.head _) h⟩
   ·have hne:¬aF e=aF a:=λx=>ha (hin _ _ x);refine⟨λh=>?_,λh=>?_⟩
    ·have hm:e∈l:=by rcases bm.1 h with h|h;exact absurd h ha;exact h
     have:=ih.1 hm;simp only[kF,dV,jS] at this ⊢;simp only[hne,if_false,this]
    ·have:=ih.2 λh'=>h (.tail _ h');simp only[kF,dV,jS,pY] at this ⊢;simp only[hne,if_false,this]
 unfold kH;split
 ·rename_i h;exact(gen l).1 h
 ·rename_i h;exact(gen l).2 h
theorem Tr (l:List Nat) (e:Nat):fe (kF l) (aF e)=if e∈l then some (.bool true) else none:=by
 have hin:∀a b:Nat,aF a=aF b->a=b:=λa b h=>by simpa using h
 induction l with
 |nil=>rfl
 |cons a l ih=>
  by_cases ha:e=a
  ·subst ha;simp[kF,fe]
  ·have hne:¬aF e=aF a:=λx=>ha (hin _ _ x);simp only[kF,dV,fe] at ih ⊢;simp only[hne,if_false,ih,bm,ha,false_or]
theorem ME {d:DS} {Fs:List an} {L:List ae} {e:Nat} {l:List Nat} (h:∀x∈e::l,∃k,(k,x)∈d.hs) (hs:∀b∈d.LL,b∈L):sZ EG Fs L (aF e::(kF l).map (·.1)):=by
 have:=MH (Fs:=Fs) (L:=L) h hs;rw[w8] at this ⊢;exact this
variable {d:DS} {sm r:Nat} {s:List Nat} {e:Nat}
theorem acM (hs:∀x∈s,∃k,(k,x)∈d.hs) (he:∃k,(k,e)∈d.hs):
  ai prog 214 [aF e,be r].toArray [aO r 0 [.map (some sm)]] ((sm,bW (kF s))::d.LL) (λv Fs' L'=>(v= .tuple #[]/\Fs'=[])/\L'=(sm,bW (kF (kH s e)))::d.LL):=by
 refine am func214 λ_=>(cJ)<|(qz) ?_;refine qZ ab O O EH O (u:=aF e) (v:= .bool true) O O (kvs:=kF s) (kvs':=kF (kH s e)) (af8 _ _) uA (ME (d:=d) (λx hx=>by{rcases bm.1 hx with rfl|hx;exact he;exact hs x hx}) (λb hb=>(mT (hb))))<|(lJ)<|ed [] ((sm,bW (kF (kH s e)))::d.LL) ?_;exact gk
theorem E7 {fn:Nat} {fv cv:List Value} {G:List an} {L0 L1 L2:List ae} (hc:∀(args:Array Value) (w:World),(callFunc fn args).run prog w= .ok (.enter fn args) w)
  (h0:ai prog fn (fv++([iv 0]++cv)).toArray G L0 (λv Fs' L'=>(v= .tuple #[]/\Fs'=[])/\L'=L1)) (h1:ai prog fn (fv++([iv 1]++cv)).toArray G L1 (λv Fs' L'=>(v= .tuple #[]/\Fs'=[])/\L'=L2)):
  ai prog 216 [gE fn fv cv].toArray G L0 (λv Fs' L'=>(v= .tuple #[]/\Fs'=[])/\L'=L2):=by
 refine am func216 λ_=>(bJ) ?_;refine dj O eA hc (NF.refl _) (h0) λv' Fs' L' ⟨⟨e4,e5⟩,e6⟩=>?_;subst e4;subst e5;subst e6;refine(aN)<|(aY) ?_;refine dj O eA hc (NF.refl _) (h1) λv' Fs' L' ⟨⟨e4,e5⟩,e6⟩=>?_;subst e4;subst e5;subst e6;refine(lJ) ?_;exact .norm (.nil) gy bA ⟨⟨O,O⟩,O⟩
theorem QY {r2 r8:Nat} {v:Value} {k:PP} {o:Int} (ho:o=0\/o=1) (he:(k,e)∈d.hs):
  ai prog 217 [iv o,be r2,be r8].toArray [aO r2 0 [aF e],aO r8 0 [v]] d.LL (λv Fs' L'=>(v= .tuple #[]/\Fs'=[])/\L'=d.LL):=by
 rcases ho with rfl|rfl
 ·refine am func217 λ_=>(ba)<|(qz)<|(Fy)<|(Jz) ?_;refine az ab O O O (bj (mT (cK he)) O O) O<|(aN)<|(gL)<|(A0)<|ed [] d.LL ?_;exact gk
 ·refine am func217 λ_=>(ba)<|(qz)<|(Fy)<|(Jw) ?_;refine az ab O O O (bj (mT (cK he)) O O) O<|(aN)<|(gL)<|(A0)<|ed [] d.LL ?_;exact gk
def cq.inc_ (e:cq) (x:Option Nat):cq:={e with inc:=x}
theorem ahe {r8 rf:Nat} {k:PP} (he:(k,e)∈d.hs):
  ai prog 215 [aF e,be r8].toArray [aO r8 0 [aF rf]] d.LL (λv Fs' L'=>(v= .tuple #[]/\Fs'=[])/\L'=(d.modE e λx=>x.inc_ (some rf)).LL):=by
 refine am func215 λ_=>(ba)<|(qF) ?_;intro r2;refine(cn) ?_;refine dl (r:=r2) tA<|(FC) ?_;intro hnd;obtain⟨D1,eD1,uD1,nD1,kD1⟩:=mU he hnd (λx=>x.inc_ (some rf));refine(cJ)<|(iW)<|aS eA call216 (E7 (fn:=217) (fv:=[]) (cv:=[be r2,be r8]) (G:=[aO r2 0 [aF e],aO r8 0 [aF rf]]) (L0:=d.LL) (L1:=d.LL) (L2:=d.LL) call217 (QY (.inl O) he) (QY (.inr O) he)) λv' Fs' L' ⟨⟨e4,e5⟩,e6⟩=>?_;subst e4;subst e5;subst e6;refine(aN)<|(cJ)<|(fM)<|(fM)<|(Fy) ?_;refine cS ab O (cs:=(d.E e).enc) (cs':=((d.E e).inc_ (some rf)).enc) O O O O O O O (uT (uD1))<|(lJ)<|ed [] D1.LL ?_;exact⟨⟨O,O⟩,by rw[eD1]⟩
end Go.Proofs
namespace Go.Proofs
open Tryz
open Go.V Go.Edges
abbrev mQ (p:Option Addr) (l:List Nat) (cp:Nat):Value:= .slice p l.length cp
abbrev wh (p:Option Addr) (l:List Nat) (cp:Nat):an:=bF 1 (mQ p l cp) l.length (l.flatMap nE)
abbrev ni (v:Value):List Value:=[v,.bool false,.bool false,.bool false]
def gR (fs:List Nat):an where
 p h:=∀f∈fs,∃v,(aO f 0 (ni v)).p h
 mono:=λhle k f hf=>by
  obtain⟨v,hv⟩:=k f hf;exact⟨v,an.mono _ hle hv⟩
theorem Ut {P:Program} {c:bC} {n:Nat} {ops:Array Oper} {Fs:List an} {L:List ae} {f:Fm} {Q:bG} {rest:List Oper} {fs:List Nat} {x:Nat} (hm:gR fs∈Fs) (hx:x∈fs)
  (k:∀v,ak P c n ops (aO x 0 (ni v)::Fs) L f rest Q):ak P c n ops Fs L f rest Q:=
 qX (α:=Value) (φ:=λ_=>True) (G:=λv=>[aO x 0 (ni v)]) (λhp al=>by
  obtain⟨v,hv⟩:=al _ hm x hx;exact⟨v,trivial,.cons hv λ_ hh=>nomatch hh⟩) λv _=>k v
variable {d:DS} {p:Option Addr} {fs:List Nat} {cp r1:Nat}
theorem Ie {o:Int} (ho:o=0\/o=1) (hfc:d.fc=mQ p fs cp) (hb:fs.length<=1099511627776):
  ai prog 218 [iv o,be r1].toArray [aO r1 0 [aF d.dr],wh p fs cp,gR fs] d.LL (λv Fs' L'=>(v= .tuple #[]/\Fs'=[])/\L'=d.LL):=by
 refine am func218 λ_=>(ba)<|(qF) ?_;intro r2;refine(eZ)<|(AZ) ?_;intro rm;refine(nH) ?_;intro r3;refine(gn)<|(eZ)<|(nH) ?_;intro r4;refine(eZ)<|(iW)<|(gn)<|(eZ)<|(fM)<|(Fy) ?_;refine az ab O O O (ct (bj (mT ((Bh _:d.dB∈d.LL))) O O) hfc) O<|(gW)<|aU [(6,6),(14,27)] (λ(i:Nat)=>i<=fs.length) (λi=>[(14,iv i)]) (λ_=>[]) (λ_=>[]) (λi=>fs.length-i) (0) (bf _) ?_;intro i fr h5;refine(cM)<|ao ?_ ?_
 ·intro hc15;have hlt:i<fs.length:=by have:=of_decide_eq_true hc15;omega
  obtain⟨x,hx⟩:∃x,fs[i]? =some x:=⟨_,aG hlt⟩;refine(ix) ?_;refine cU (size:=1) (i:=i) ab O O O O O aa mA aa (flat_take (F:=nE) (λ_ _=>O) hx) O λ_ _=>(fM) ?_;refine Ut (fs:=fs) (x:=x) mA (bn hx) λvx=>(bR) ?_;rcases ho with rfl|rfl
  ·refine(CY)<|(bh)<|(qD)<|(fa)<|(wT) ?_;refine ac O (az ab O O O (cY (r:=x) (o:=0) (j:=1) (aR (xs:=ni vx) mA) O) O)<|(jY)<|(gH)<|(lO) ?_;exact⟨i+1,oA,aa,lA,kA,fA,hA⟩
  ·refine(CY)<|(bh)<|(qD)<|(fa)<|(Jv) ?_;refine ac O (az ab O O O (cY (r:=x) (o:=0) (j:=2) (aR (xs:=ni vx) mA) O) O)<|(jY)<|(gH)<|(lO) ?_;exact⟨i+1,oA,aa,lA,kA,fA,hA⟩
 ·intro hc15;refine(nF)<|ed [] d.LL ?_;exact gk
end Go.Proofs
namespace Go.Proofs
open Go.V Go.Edges
structure AL (e e':cq):Prop where
 org:e'.org=e.org
 tw:e'.tw=e.tw
 nx:e'.nx=e.nx
 pv:e'.pv=e.pv
 sq:e'.sq=e.sq
 a:e'.a=e.a
 s:e'.s=e.s
 x:e'.x=e.x
structure oJ (d d':DS):Prop where
 hs:d'.hs=d.hs
 vs:d'.vs=d.vs
 V:d'.V=d.V
 M:d'.M=d.M
 dr:d'.dr=d.dr
 hm:d'.hm=d.hm
 vm:d'.vm=d.vm
 E:∀j,AL (d.E j) (d'.E j)
theorem AL.refl (e:cq):AL e e:=⟨rfl,rfl,rfl,rfl,rfl,rfl,rfl,rfl⟩
theorem AL.trans {a b c:cq} (h:AL a b) (k:AL b c):AL a c:=⟨k.org.trans h.org,k.tw.trans h.tw,k.nx.trans h.nx,k.pv.trans h.pv,k.sq.trans h.sq,k.a.trans h.a,k.s.trans h.s,k.x.trans h.x⟩
theorem oJ.refl (d:DS):oJ d d:=⟨rfl,rfl,rfl,rfl,rfl,rfl,rfl,λj=> .refl _⟩
theorem oJ.trans {a b c:DS} (h:oJ a b) (k:oJ b c):oJ a c:=⟨k.hs.trans h.hs,k.vs.trans h.vs,k.V.trans h.V,k.M.trans h.M,k.dr.trans h.dr,k.hm.trans h.hm,k.vm.trans h.vm,λj=>(h.E j).trans (k.E j)⟩
theorem Ry (d:DS) (r:Nat) (x:Option Nat):oJ d (d.modE r λe=>e.inc_ x):=⟨rfl,rfl,rfl,rfl,rfl,rfl,rfl,λj=>by
 rw[kl];split
 ·rename_i h;subst h;exact⟨rfl,rfl,rfl,rfl,rfl,rfl,rfl,rfl⟩
 ·exact .refl _⟩
def DS.withFc (d:DS) (v:Value):DS:={d with fc:=v}
theorem DR (d:DS) (v:Value):oJ d (d.withFc v):=⟨rfl,rfl,rfl,rfl,rfl,rfl,rfl,λj=> .refl _⟩
theorem Vt {d d':DS} (h:oJ d d') {hp:PH} (k:(bN d).p hp):(bN d').p hp:=Ih k h.hs λj=>(h.E j).sq
theorem Vm (d:DS) (v:Value):cf d.LL d.dr (.cells #[d.fc,.map (some d.hm),.map (some d.vm)] 249 (0,0)) (.cells #[v,.map (some d.hm),.map (some d.vm)] 249 (0,0)) (d.withFc v).LL:= .here
def rZ (d:DS) (e:Nat):Nat:=((d.E e).nx).getD 0
theorem NP {d:DS} (h:vb d):zF (d.hs.map (·.2)) (rZ d) where
 inn e he:=by
  obtain⟨⟨k,x⟩,hx,rfl⟩:=aM.1 he;obtain⟨y,k',t,h1,h2,_⟩:=h.nx k x hx;simp only[rZ,h1,mM];exact aM.2 ⟨_,h2,O⟩
 inj a ha b hb hab:=by
  obtain⟨⟨k,x⟩,hx,rfl⟩:=aM.1 ha;obtain⟨⟨k',y⟩,hy,rfl⟩:=aM.1 hb;obtain⟨x',_,_,h1,_⟩:=h.nx k x hx;obtain⟨y',_,_,h2,_⟩:=h.nx k' y hy;refine h.inj k x k' y hx hy ?_;simp only[rZ,h1,h2,mM] at hab;rw[h1,h2,hab]
theorem Sl {d:DS} (h:vb d) {k:PP} {e:Nat} (he:(k,e)∈d.hs):(d.E e).nx=some (rZ d e):=by
 obtain⟨x',_,_,h1,_⟩:=h.nx k e he;simp[rZ,h1]
theorem xD {d:DS} {e:Nat}:e∈d.hs.map (·.2)↔∃k,(k,e)∈d.hs:=
 ⟨λh=>by obtain⟨⟨k,x⟩,hx,rfl⟩:=aM.1 h;exact⟨k,hx⟩,λ⟨k,h⟩=>aM.2 ⟨_,h,rfl⟩⟩
theorem acI {nxt:Nat->Nat} {e:Nat} {s s':List Nat} {m:Nat} (h:yf (λ(s:List Nat) e s'=>s'=kH s e) nxt e s m s'):∀x,x∈s'↔x∈s\/∃k,k<m/\ib nxt k e=x:=by
 induction h with
 |nil=>intro x;exact⟨.inl,λh=>h.elim id λ⟨k,hk,_⟩=>absurd hk (iZ _)⟩
 |@snoc m t s' _ h2 ih=>
  intro x;subst h2;rw[xC,ih];constructor
  ·rintro((h|⟨k,hk,hx⟩)|h)
   ·exact .inl h
   ·exact .inr ⟨k,aa,hx⟩
   ·exact .inr ⟨m,aa,h.symm⟩
  ·rintro(h|⟨k,hk,hx⟩)
   ·exact .inl (.inl h)
   ·by_cases e1:k=m
    ·subst e1;exact .inr hx.symm
    ·exact .inl (.inr ⟨k,aa,hx⟩)
theorem ahb {nxt:Nat->Nat} {e rf:Nat} {d d':DS} {m:Nat} (h:yf (λ(d:DS) e d'=>d'=d.modE e λx=>x.inc_ (some rf)) nxt e d m d'):
  oJ d d'/\d'.fc=d.fc/\(∀x,(d'.E x).inc=(d.E x).inc\/(d'.E x).inc=some rf)/\∀k,k<m->(d'.E (ib nxt k e)).inc=some rf:=by
 induction h with
 |nil=>exact⟨.refl _,rfl,λx=> .inl rfl,λk hk=>absurd hk (iZ _)⟩
 |@snoc m t s' _ h2 ih=>
  obtain⟨h1,h3,h4,h5⟩:=ih;subst h2;refine⟨h1.trans (Ry _ _ _),h3,λx=>?_,λk hk=>?_⟩
  ·rw[kl];split
   ·exact .inr O
   ·exact h4 x
  ·rw[kl];split
   ·rfl
   ·rename_i hne;exact h5 k (by rcases dL k m with h|h;exact h;exact absurd (show ib nxt k e=ib nxt m e by rw[show k=m by omega]) hne)
theorem ago {nxt:Nat->Nat} {e m:Nat} (hm:0<m) (h:ib nxt m e=e) (k:Nat):∃j,j<m/\ib nxt k e=ib nxt j e:=by
 induction k using Nat.strongRecOn with
 |_ k ih=>
  rcases dL k m with hk|hk
  ·exact⟨k,hk,O⟩
  ·obtain⟨j,hj,e1⟩:=ih (k-m) aa;exact⟨j,hj,by
    rw[<-e1];have:k=(k-m)+m:=by omega
    rw[this,MQ,h];congr 1;omega⟩
end Go.Proofs
namespace Go.Proofs
open Tryz
open Go.V Go.Edges
variable {d:DS} {dr:Nat}
structure JP (d:DS) (p:Option Addr) (fs:List Nat) (cp:Nat):Prop where
 fc:d.fc=mQ p fs cp
 inc:∀k e,(k,e)∈d.hs->∃f∈fs,(d.E e).inc=some f
 len:fs.length<=1099511627776
theorem Vo {fs:List Nat} {f:Nat} {v:Value} {hp:PH} (h:(gR fs).p hp) (hf:(aO f 0 (ni v)).p hp):(gR (fs++[f])).p hp:=λx hx=>by
 rcases bB.1 hx with hx|hx
 ·exact h x hx
 ·simp at hx;subst hx;exact⟨v,hf⟩
structure FM (d:DS) (reps:List Nat) (i:Nat) (D:DS) (p:Option Addr) (c:Nat) (fs:List Nat):Prop where
 same:oJ d D
 fc:D.fc=mQ p fs c
 len:fs.length=i
 inc:∀e,(∃k,(k,e)∈d.hs)->(∃j rep k,j<i/\reps[j]? =some rep/\ib (rZ d) k rep=e)->∃f∈fs,(D.E e).inc=some f
structure AI (d:DS) (seen sn reps:List Nat):Prop where
 s1:∀x∈sn,∃k,(k,x)∈d.hs
 all:∀i∈seen,∀x,d.hs[i]? =some x->x.2∈sn
 s2:∀x∈reps,∃k,(k,x)∈d.hs
 orb:∀x∈sn,∃rep∈reps,∃k,ib (rZ d) k rep=x
 len:reps.length<=seen.length
theorem AI.snoc {seen sn reps sn':List Nat} {i e m:Nat} {k0:PP} (h:AI d seen sn reps) (hi:d.hs[i]? =some (k0,e)) (hT:vb d) (hm:0<m) (hst:yf (λ(s:List Nat) e s'=>s'=kH s e) (rZ d) e sn m sn'):
  AI d (seen++[i]) sn' (reps++[e]):=by
 have hs:=acI hst;have he:∃k,(k,e)∈d.hs:=⟨_,bn hi⟩;refine⟨λx hx=>?_,λj hj x hx=>?_,λx hx=>?_,λx hx=>?_,by have:=h.len;simp;omega⟩
 ·rcases(hs x).1 hx with hx|⟨k,_,rfl⟩
  ·exact h.s1 x hx
  ·exact xD.1 ((NP hT).mem (xD.2 he) k)
 ·rcases bB.1 hj with hj|hj
  ·exact(hs _).2 (.inl (h.all j hj x hx))
  ·simp at hj;subst hj;rw[hi] at hx;cases hx;exact(hs _).2 (.inr ⟨0,hm,O⟩)
 ·rcases bB.1 hx with hx|hx
  ·exact h.s2 x hx
  ·simp at hx;subst hx;exact he
 ·rcases(hs x).1 hx with hx|⟨k,_,hk⟩
  ·obtain⟨rep,hr,k,hk⟩:=h.orb x hx;exact⟨rep,bq _ hr,k,hk⟩
  ·exact⟨e,bI _ (.head _),k,hk⟩
theorem AI.skip {seen sn reps:List Nat} {i e:Nat} {k0:PP} (h:AI d seen sn reps) (hi:d.hs[i]? =some (k0,e)) (he:e∈sn):AI d (seen++[i]) sn reps:=
 ⟨h.s1,λj hj x hx=>by
  rcases bB.1 hj with hj|hj
  ·exact h.all j hj x hx
  ·simp at hj;subst hj;rw[hi] at hx;cases hx;exact he,h.s2,h.orb,by have:=h.len;simp;omega⟩
theorem FM.step {reps fs:List Nat} {i rep rf m:Nat} {D D':DS} {p p':Option Addr} {c c':Nat} {v':Value} (h:FM d reps i D p c fs) (hr:reps[i]? =some rep) (hm:0<m) (hret:ib (rZ d) m rep=rep) (hv:v'=mQ p' (fs++[rf]) c')
  (hst:yf (λ(d:DS) e d'=>d'=d.modE e λx=>x.inc_ (some rf)) (rZ d) rep (D.withFc v') m D'):FM d reps (i+1) D' p' c' (fs++[rf]):=by
 obtain⟨k1,k2,k3,k4⟩:=ahb hst;refine⟨h.same.trans ((DR D v').trans k1),by rw[k2,<-hv];rfl,by simp[h.len],λe he hx=>?_⟩;obtain⟨j,rp,k,hj,hrp,hk⟩:=hx;by_cases e1:j=i
 ·subst e1;rw[hr] at hrp;cases hrp;obtain⟨q,hq,hqk⟩:=ago hm hret k;rw[hk] at hqk;exact⟨rf,bI _ (.head _),by rw[hqk];exact k4 q hq⟩
 ·obtain⟨f,hf,hi⟩:=h.inc e he ⟨j,rp,k,aa,hrp,hk⟩;rcases k3 e with h'|h'
  ·exact⟨f,bq _ hf,by rw[h'];exact hi⟩
  ·exact⟨rf,bI _ (.head _),h'⟩
theorem Iu {D:DS} (h:oJ d D):(d.dr,Obj.cells #[D.fc,.map (some D.hm),.map (some D.vm)] 249 (0,0))∈D.LL:=by rw[<-h.dr];exact .head _
theorem Vl {D:DS} (h:oJ d D) (v:Value):cf D.LL d.dr (.cells #[D.fc,.map (some D.hm),.map (some D.vm)] 249 (0,0)) (.cells #[v,.map (some D.hm),.map (some D.vm)] 249 (0,0)) (D.withFc v).LL:=by rw[<-h.dr];exact Vm D v
theorem ala (hT:vb d) (hdr:d.dr=dr) (hb:d.hs.length<=1099511627775):
  ai prog 158 [aF dr].toArray [bN d] d.LL (λw Fs' L'=>∃d' p fs cp,oJ d d'/\JP d' p fs cp/\w= .tuple #[]/\Fs'=[bN d',wh p fs cp,gR fs]/\L'=d'.LL):=by
 subst hdr;have hml:(fB d.hs).length=d.hs.length:=by simp
 refine am func158 λ_=>(ba)<|(qF) ?_;intro r1;refine(eZ)<|(fo)<|(AZ) ?_;intro sm;refine(nH) ?_;intro r3;refine(gn)<|(cn)<|(ce) ?_;refine dl (r:=r1) tA ?_;refine dl (r:=r3) tA<|(cJ)<|(fM)<|(Fy) ?_;refine az ab O O O (bj (mT ((Bh _:d.dB∈d.LL))) O O) O ?_;refine uS ab O O O (eo (kvs:=fB d.hs) (mT ((.tail _ (.head _):(d.hm,bW (fB d.hs))∈d.LL)))) O λri=>(dF)<|aU [(2,2),(5,5),(15,28)] (λ(x:List Nat×List Nat×(Option Addr×Nat)×List ae×List Nat)=>eO (fB d.hs).length x.1/\AI d x.1 x.2.1 x.2.2.2.2/\aJ 258 1 (mQ x.2.2.1.1 x.2.2.2.2 x.2.2.1.2) x.2.2.2.2.length (x.2.2.2.2.flatMap nE) x.2.2.2.1) (λx=>[(2,mQ x.2.2.1.1 x.2.2.2.2 x.2.2.1.2)]) (λ_=>[]) (λx=>(ri,jH d.hm (fB d.hs).length x.1)::(sm,bW (kF x.2.1))::x.2.2.2.1) (λx=>(fB d.hs).length-x.1.length) (([],[],(none,0),[],[])) (⟨eO.nil,⟨λ_ h=>(nomatch h),λ_ h=>(nomatch h),λ_ h=>(nomatch h),λ_ h=>(nomatch h),bg _⟩,aJ.nil _ _⟩) λ⟨seen,sn,⟨p1,c1⟩,B1,reps⟩ fr ⟨h5,h6,h7⟩=>?_;dsimp only at h5 h6 h7;have hle:=h5.le;have hrl:=h6.len;refine(ba) ?_;refine uU (m:=d.hm) (kvs:=fB d.hs) (seen:=seen) O (eo (mT ((.tail _ (.head _):(d.hm,bW (fB d.hs))∈d.LL)))) mA (λ_=>uA) O O λo ho=>?_;refine sC O (uM o) O<|(cn)<|ao ?_ ?_
 ·intro hc16;obtain⟨⟨i,q⟩,rfl⟩:=uE.1 hc16;obtain⟨hq,hns,hil⟩:=ho.one i q rfl;have hlt:=h5.lt_of hns hil;obtain⟨⟨k0,e⟩,he,rfl⟩:=sd (F:=λe:PP×Nat=>(lr e.1,aF e.2)) rfl hq;have hme:∃k,(k,e)∈d.hs:=⟨_,bn he⟩;refine(uf) ?_;refine uV (m:=d.hm) (kvs:=fB d.hs) (seen:=seen) (i:=i) O (eo (mT ((.tail _ (.head _):(d.hm,bW (fB d.hs))∈d.LL)))) mA hq O<|(kR)<|(ub) ?_;rcases F4 (e∈sn) with hin|hout
  ·refine(cJ)<|(qz) ?_;refine HR ab O O O O EH O (u:=aF e) O (eo (kvs:=kF sn) mA) (ME (d:=d) (λx hx=>by{rcases bm.1 hx with rfl|hx;exact hme;exact h6.s1 x hx}) (λb hb=>(mT (hb)))) (o:=some (.bool true)) (by rw[Tr,if_pos hin]) O<|(vE)<|(zi)<|(ir) ?_;exact⟨(seen++[i],sn,(p1,c1),B1,reps),by dsimp only;rw[aW];simp only[dZ];omega,⟨h5.snoc hns hil,h6.skip he hin,h7⟩,lA,kA,fA,hA⟩
  ·refine(cJ)<|(qz) ?_;refine HR ab O O O O EH O (u:=aF e) O (eo (kvs:=kF sn) mA) (ME (d:=d) (λx hx=>by{rcases bm.1 hx with rfl|hx;exact hme;exact h6.s1 x hx}) (λb hb=>(mT (hb)))) (o:=none) (by rw[Tr,if_neg hout]) O<|(gH)<|(bJ)<|(iW)<|aS eA call213 (VY (H:=d.hs.map (·.2)) (nxt:=rZ d) (α:=List Nat) (St:=λs=>∀x∈s,∃k,(k,x)∈d.hs) (LL:=λs=>(sm,bW (kF s))::d.LL) (R:=λs e s'=>s'=kH s e) (G:=[aO r3 0 [.map (some sm)]]) (fn:=214) (fv:=[]) (cv:=[be r3]) (s:=sn) (e:=e) call214 (NP hT) (λ_=>d.E) (λs hs e he=>by{obtain⟨k,hk⟩:=xD.1 he;exact⟨.tail _ (cK hk),Sl hT hk⟩}) (λs e hs he=>pg (acM hs (xD.1 he)) (λv Fs' L' ⟨⟨q1,q2⟩,q3⟩=>⟨kH s e,⟨O,λx hx=>by{rcases xC.1 hx with hx|rfl;exact hs x hx;exact xD.1 he}⟩,q1,q2,q3⟩)) h6.s1 (xD.2 hme)) λv' Fs' L' ⟨m,sn',⟨hm0,hm1,hst,hs'⟩,e4,e5,e6⟩=>?_;subst e4;subst e5;subst e6;refine(aN)<|(cO)<|(eD) ?_;intro b27;refine di (e:=258) (size:=1) (news:=[e].flatMap nE) ab O O O O O O O (B:=B1) tA h7 O (bD mA) O O dp (by show(reps.length+1)*8<=_;omega) O λv' B' hs'=>?_;rw[<-ft] at hs';have hs2:aJ 258 1 v' (reps++[e]).length ((reps++[e]).flatMap nE) B':=by rw[aW];exact hs'
   obtain⟨p2,c2,rfl⟩:=hs2.shape;refine(iR) ?_;exact⟨(seen++[i],sn',(p2,c2),B',reps++[e]),by dsimp only;rw[aW];simp only[dZ];omega,⟨h5.snoc hns hil,h6.snoc he hT hm0 hst,hs2⟩,lA,kA,fA,hA⟩
 ·intro hc16;have hall:=ho.all (by simpa using hc16);obtain rfl:o=none:=by simpa using hc16
  have hrep:∀e,(∃k,(k,e)∈d.hs)->∃j rep k,reps[j]? =some rep/\ib (rZ d) k rep=e:=by{rintro e ⟨k,hk⟩;obtain⟨i,hi⟩:=lg hk;obtain⟨rep,hr,k,hk⟩:=h6.orb e (h6.all i (hall i (by{have:=da hi;omega})) _ hi);obtain⟨j,hj⟩:=lg hr;exact⟨j,rep,k,hj,hk⟩}
  refine eN h7 tA<|(y9)<|(fM)<|(Fy) ?_;refine cS ab O (cs:=[d.fc,.map (some d.hm),.map (some d.vm)]) (cs':=[.slice none 0 0,.map (some d.hm),.map (some d.vm)]) O O O O O O O (uT (Vm d (.slice none 0 0))) ?_;obtain⟨D0,hD0⟩:∃D,D=d.withFc (.slice none 0 0):=⟨_,rfl⟩;rw[<-hD0];have hF0:FM d reps 0 D0 none 0 []:=⟨hD0▸DR _ _,by(rw[hD0];rfl),rfl,λe _ ⟨j,_,_,hj,_⟩=>absurd hj (iZ _)⟩;refine cL (gR []) (λhp al=>λx hx=>nomatch hx) ?_;refine(AU)<|(gW)<|aU [(7,8),(34,54)] (λ(x:Nat×DS×(Option Addr×Nat)×List ae×List Nat)=>(x.1<=reps.length/\(x.1=0->x.2.2.1=(none,0)/\x.2.2.2.1=[]))/\FM d reps x.1 x.2.1 x.2.2.1.1 x.2.2.1.2 x.2.2.2.2/\aJ 276 1 (mQ x.2.2.1.1 x.2.2.2.2 x.2.2.1.2) x.2.2.2.2.length (x.2.2.2.2.flatMap nE) x.2.2.2.1) (λx=>[(34,iv x.1)]) (λx=>[gR x.2.2.2.2]) (λx=>x.2.2.2.1++x.2.1.LL) (λx=>reps.length-x.1) ((0,D0,(none,0),[],[])) (⟨⟨bf _,λ_=>⟨O,O⟩⟩,hF0,aJ.nil _ _⟩) λ⟨i,D,⟨p2,c2⟩,B2,fs⟩ fr2 ⟨⟨h8,h80⟩,h9,h10⟩=>?_;dsimp only at h8 h80 h9 h10;have hfl:=h9.len;have hDs:=h9.same;have hDfc:=h9.fc;refine(cM)<|ao ?_ ?_
  ·intro hc35;have hlt:i<reps.length:=by have:=of_decide_eq_true hc35;dsimp only at this;omega
   obtain⟨rep,hrep1⟩:∃x,reps[i]? =some x:=⟨_,aG hlt⟩;have hmr:=h6.s2 rep (bn hrep1);refine(ix) ?_;refine cU (size:=1) (i:=i) ab O O O O O aa mA aa (flat_take (F:=nE) (λ_ _=>O) hrep1) O λ_ _=>(fM)<|(cF)<|(cN)<|(cg) ?_;intro rf;refine(nH) ?_;intro r8;refine(gn)<|(cn) ?_;refine dl (r:=rf) tA ?_;refine dl (r:=r8) tA ?_;refine cz cw 8 [6,7] [7]<|(wu)<|(wu)<|(fa) ?_;refine ac O (az ab O O O (ct (bj (mT (Iu hDs)) O O) hDfc) O)<|(nG)<|(dT)<|(eD) ?_;intro b47;refine(dU) ?_;refine di (e:=276) (size:=1) (news:=[rf].flatMap nE) ab O O O O O O O (B:=B2) tA h10 O (bD mA) O O dp (by show(fs.length+1)*8<=_;omega) O λv' B' hs'=>?_;rw[<-ft] at hs';have hs2:aJ 276 1 v' (fs++[rf]).length ((fs++[rf]).flatMap nE) B':=by rw[aW];exact hs'
   obtain⟨p3,c3,rfl⟩:=hs2.shape;refine(rJ)<|(Fy) ?_;refine cS ab O (cs:=[D.fc,.map (some D.hm),.map (some D.vm)]) (cs':=[mQ p3 (fs++[rf]) c3,.map (some D.hm),.map (some D.vm)]) O O O O O O O (cf.left (.there (cf.left (Vl hDs (mQ p3 (fs++[rf]) c3)))))<|(aN)<|(aY)<|(iW)<|aS eA call213 (VY (H:=d.hs.map (·.2)) (nxt:=rZ d) (α:=DS) (St:=λD=>oJ d D) (LL:=λD=>D.LL) (R:=λD e D'=>D'=D.modE e λx=>x.inc_ (some rf)) (G:=[aO r8 0 [aF rf]]) (fn:=215) (fv:=[]) (cv:=[be r8]) (s:=D.withFc (mQ p3 (fs++[rf]) c3)) (e:=rep) call215 (NP hT) (λD=>D.E) (λs hs e he=>by{obtain⟨k,hk⟩:=xD.1 he;exact⟨cK (hs.hs▸hk),by(rw[(hs.E e).nx];exact Sl hT hk)⟩}) (λs e hs he=>by{obtain⟨k,hk⟩:=xD.1 he;exact pg (ahe (d:=s) (hs.hs▸hk)) (λv Fs' L' ⟨⟨q1,q2⟩,q3⟩=>⟨_,⟨O,hs.trans (Ry _ _ _)⟩,q1,q2,q3⟩)}) (hDs.trans (DR _ _)) (xD.2 hmr)) λv' Fs' L' ⟨m,D2,⟨hm0,hm1,hst,hs'⟩,e4,e5,e6⟩=>?_;subst e4;subst e5;subst e6;refine cL (gR (fs++[rf])) (λhp al=>Vo (al (gR fs) mA) (al (aO rf 0 (ni (aF rep))) mA)) ?_;have hF2:=h9.step hrep1 hm0 hm1 rfl hst;refine(rM) ?_;exact⟨(i+1,D2,(p3,c3),B',fs++[rf]),oA,⟨⟨by dsimp only;omega,λh=>absurd h (Nat.succ_ne_zero _)⟩,hF2,hs2⟩,lA,kA,fA,hA⟩
  ·intro hc35;have hge:i=reps.length:=by have:=of_decide_eq_false hc35;dsimp only at this;omega
   refine cI (bN D) (λhp al=>Vt hDs (al (bN d) mA)) ?_;have hinc:∀k e,(k,e)∈d.hs->∃f∈fs,(D.E e).inc=some f:=λk e he=>by{obtain⟨j,rp,k',hj,hk⟩:=hrep e ⟨k,he⟩;exact h9.inc e ⟨k,he⟩ ⟨j,rp,k',by(have:=da hj;omega),hj,hk⟩}
   refine(jh) ?_;rcases xe i with hz|hpos
   ·subst hz;obtain⟨e8,e9⟩:=h80 rfl;cases e8;subst e9;obtain rfl:fs=[]:=Bn.1 hfl;refine eN h10 tA<|(cJ)<|(iW)<|aS eA call216 (E7 (fn:=218) (fv:=[]) (cv:=[be r1]) (G:=[aO r1 0 [aF d.dr],wh none [] 0,gR []]) (L0:=D.LL) (L1:=D.LL) (L2:=D.LL) call218 (by{have h:=Ie (r1:=r1) (o:=0) (.inl O) hDfc dK;rw[hDs.dr] at h;exact h}) (by{have h:=Ie (r1:=r1) (o:=1) (.inr O) hDfc dK;rw[hDs.dr] at h;exact h})) λv' Fs' L' ⟨⟨e4,e5⟩,e6⟩=>?_;subst e4;subst e5;subst e6;refine(eZ)<|(fM)<|(Fy) ?_;refine az ab O O O (ct (bj (mT (Iu hDs)) O O) hDfc) O<|(sO)<|(aN) ?_;refine gz O (λhc62=>?_) (λhc62=>absurd hc62 (dK));refine cz cw 10 [7,8,9] [9]<|(wu)<|(wu)<|(fa) ?_;refine ac O (az ab O O O (ct (bj (mT (Iu hDs)) O O) hDfc) O) ?_;refine cC O (HX ab O O O pA Ba nA O O)<|(ny)<|(dT)<|(cg) ?_;intro rf;refine(dU)<|(eD) ?_;intro b71;refine(dU) ?_;refine di (e:=276) (size:=1) (news:=[rf].flatMap nE) ab O O O O O O O (B:=[]) tA h10 O (bD mA) O O bz bz O λv' B' hs'=>?_;have hs2:aJ 276 1 v' [rf].length ([rf].flatMap nE) B':=hs';obtain⟨p3,c3,rfl⟩:=hs2.shape;refine(rJ)<|(Fy) ?_;refine cS ab O (cs:=[D.fc,.map (some D.hm),.map (some D.vm)]) (cs':=[mQ p3 [rf] c3,.map (some D.hm),.map (some D.vm)]) O O O O O O O (cf.left (.there (.there (cf.right (Vl hDs (mQ p3 [rf] c3)))))) ?_;refine xK (r:=rf) tA ?_;refine xJ hs2 tA ?_;refine cL (bN (D.withFc (mQ p3 [rf] c3))) (λhp al=>Vt (DR D _) (al (bN D) mA)) ?_;refine cL (gR [rf]) (λhp al=>Vo (fs:=[]) (λx hx=>nomatch hx) (al (aO rf 0 (ni (.pointer none))) mA)) ?_;refine(lJ)<|ed [bN (D.withFc (mQ p3 [rf] c3)),wh p3 [rf] c3,gR [rf]] ((D.withFc (mQ p3 [rf] c3)).LL) ?_;exact⟨_,p3,[rf],c3,hDs.trans (DR _ _),⟨O,λk e he=>by{obtain⟨f,hf,_⟩:=hinc k e (hDs.hs▸he);cases hf},by simp⟩,O,O,O⟩
   ·refine eN h10 tA<|(cJ)<|(iW)<|aS eA call216 (E7 (fn:=218) (fv:=[]) (cv:=[be r1]) (G:=[aO r1 0 [aF d.dr],wh p2 fs c2,gR fs]) (L0:=D.LL) (L1:=D.LL) (L2:=D.LL) call218 (by{have h:=Ie (r1:=r1) (o:=0) (.inl O) hDfc aa;rw[hDs.dr] at h;exact h}) (by{have h:=Ie (r1:=r1) (o:=1) (.inr O) hDfc aa;rw[hDs.dr] at h;exact h})) λv' Fs' L' ⟨⟨e4,e5⟩,e6⟩=>?_;subst e4;subst e5;subst e6;refine(eZ)<|(fM)<|(Fy) ?_;refine az ab O O O (ct (bj (mT (Iu hDs)) O O) hDfc) O<|(sO)<|(aN) ?_;refine gz O (λhc62=>absurd hc62 ((by simp only[decide_eq_true_eq];omega))) (λhc62=>(A0)<|ed [bN D,wh p2 fs c2,gR fs] D.LL ?_);exact⟨D,p2,fs,c2,hDs,⟨hDfc,λk e he=>hinc k e (hDs.hs▸he),aa⟩,O,O,O⟩
end Go.Proofs
