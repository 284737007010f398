/- Part 8 of the proof that FnMapBorders returns true for every input that its row lets in. No further condition. -/
import Derived.Test.YtpddkliglnoaaaaGreatDoorA07
set_option linter.all false
set_option autoImplicit true
set_option relaxedAutoImplicit true
namespace Go.Proofs
open Tryz
open Go.V
variable {w u:Nat} {aZ NodeOk:Pt->Prop}
structure W2 (w:Nat) (aZ NodeOk:Pt->Prop) (g1 g2:GM) (ls:List (List Pt)) (h1 h2:GM) (ms:List (List Pt)) where
 P:List Pt
 a1:GM
 a2:GM
 bs:List (List Pt)
 z1:Nat
 V:bH->List Int
 hV:∀q,(V q).length<=2*(GM.gc [a1,a2,.mls bs]).lns.length
 m0:NM
 hm:∀e∈m0,NodeOk e.2
 m1:qy NodeOk
 m2:qy NodeOk
 m3:qy NodeOk
 latP:∀x∈P,aZ x
 lenP:P.length<=61
 z1P:z1<=2*P.length
 lat0:sX w aZ m0
 ra1:jq (lI P z1) () g1 a1 ()
 ra2:jq (lI P z1) () g2 a2 ()
 ras:oK (lI P z1) () ls bs ()
 rb1:jq (qG w NodeOk (GM.gc [a1,a2,.mls bs]).lns V) ⟨m0,hm⟩ a1 h1 m1
 rb2:jq (qG w NodeOk (GM.gc [a1,a2,.mls bs]).lns V) m1 a2 h2 m2
 rbs:oK (qG w NodeOk (GM.gc [a1,a2,.mls bs]).lns V) m2 bs ms m3
def Ak (aZ:Pt->Prop) (ln:Ln):Prop:=aZ ln.1/\aZ ln.2
def C7 (aZ:Pt->Prop) (l:List Pt):Prop:=(∀x∈l,aZ x)/\l.length<=1000
theorem Ml {l:List Pt} {C:Nat} (hC:C<=2000) (h:C7 aZ l):x9 (Ak aZ) C l:=by
 refine⟨λs hs=>⟨h.1 _ (vR hs).1,h.1 _ (vR hs).2.1⟩,by have:=h.2;omega,?_⟩;have:=uD h.2 (show C+1<=2001 by omega);omega
theorem H2 {Q:List Pt->Prop} {okl:Ln->Prop} {C:Nat} (hq:∀l,Q l->x9 okl C l):∀{g:GM},mL Q g->A7 okl C g:=by
 intro g h
 induction h with
 |ls h=>exact .ls (hq _ h)
 |mls h=>exact .mls λl hl=>hq l (h l hl)
 |gc _ ih=>exact .gc ih
theorem H3 {Q:List Pt->Prop} (hq:∀l,Q l->(∀x∈l,aZ x)/\l.length<=1048576):∀{g:GM},mL Q g->wV aZ g:=by
 intro g h
 induction h with
 |ls h=>exact .ls (hq _ h).1 (hq _ h).2
 |mls h=>exact .mls λl hl=>hq l (h l hl)
 |gc _ ih=>exact .gc ih
theorem UK {Q Q':List Pt->Prop} (hq:∀l,Q l->Q' l):∀{g:GM},mL Q g->mL Q' g:=by
 intro g h
 induction h with
 |ls h=>exact .ls (hq _ h)
 |mls h=>exact .mls λl hl=>hq l (h l hl)
 |gc _ ih=>exact .gc ih
theorem UL {Pr:Pt->Prop} {Q:List Pt->Prop}:∀{g:GM},s6 Pr g->mL Q g->mL (λl=>(∀x∈l,Pr x)/\Q l) g:=by
 intro g h
 induction h with
 |ls h=>intro k;cases k with|ls k=>exact .ls ⟨h,k⟩
 |mls h=>intro k;cases k with|mls k=>exact .mls λl hl=>⟨h l hl,k l hl⟩
 |gc _ ih=>intro k;cases k with|gc k=>exact .gc λg hg=>ih g hg (k g hg)
def alL (aZ:Pt->Prop) (l:List Pt):Prop:=(∀x∈l,aZ x)/\l.length<=4000
theorem afm {l:List Pt} {C:Nat} {lns:List Ln} (N:wr w aZ NodeOk) (hlns:∀o∈lns,aZ o.1/\aZ o.2/\aV o.1 o.2=false) (hC:C<=1048576) (h:alL aZ l):x9 (xq NodeOk lns) C l:=by
 refine⟨λs hs=>?_,by have:=h.2;omega,?_⟩
 ·obtain⟨h1,h2,h3⟩:=vR hs;exact⟨N.lat _ (h.1 _ h1),λo ho=>N.ll s o (h.1 _ h1) (h.1 _ h2) (hlns o ho).1 (hlns o ho).2.1 h3 (hlns o ho).2.2⟩
 ·have:=uD h.2 (show C+1<=1048577 by omega);omega
theorem Lw (N:wr w aZ NodeOk) {P:List Pt} {z:Nat} (hP:∀x∈P,aZ x):Df (lI P z) (Ak aZ) z:=by
 intro s ln cs s' hok h;exact⟨h.1,λx hx=>N.d2 _ _ (N.lat _ hok.1) (N.lat _ (hP x (h.2 x hx).1))⟩
theorem NR {α:Type} {LL:α->List ae} {R:α->Ln->List Pt->α->Prop} {G:List an} {fn:Nat} {fv cv:List Value} {okl okl':Ln->Prop} (h:zG LL R G fn fv cv okl) (k:∀ln,okl' ln->okl ln):zG LL R G fn fv cv okl':=
 λs ln v0 B0 hok h0=>h s ln v0 B0 (k ln hok) h0
variable {g1 g2:GM} {u1 u2:Value} {p:Option Addr} {ls:List (List Pt)} {cp:Nat} {a:Addr}
theorem ahA {Pr:Pt->Prop} {a1 a2:GM} {bs:List (List Pt)} (h1:s6 Pr a1) (h2:s6 Pr a2) (h3:∀l∈bs,∀x∈l,Pr x):s6 Pr (GM.gc [a1,a2,.mls bs]):= .gc λg hg=>by
 rcases bm.1 hg with rfl|hg
 ·exact h1
 ·rcases bm.1 hg with rfl|hg
  ·exact h2
  ·rcases bm.1 hg with rfl|hg
   ·exact .mls h3
   ·cases hg
theorem afP {n1 n2 n3:{m:NM//sX w aZ m}} {h:sX w aZ []} (hpts:(GM.gc [g1,g2,.mls ls]).pts.length<=1000) (hs1:kx (y4 w aZ) ⟨[],h⟩ g1 n1) (hs2:kx (y4 w aZ) n1 g2 n2) (hs3:jT (y4 w aZ) n2 ls.flatten n3):n3.1.length<=1000:=by
 have l1:=LR hs1.pts;have l2:=LR hs2.pts;have l3:=LR hs3;simp only[GM.pts,fH,aW,jz] at hpts;simp only[kC] at l1;omega
theorem aeH {u w:Nat} {k:Int} (h:jm u 4647714815446351872=some w):ai prog 180 [aw u,iv k].toArray [] []
  (λv Fs' L'=>∃rm,v=xu w rm/\Fs'=[]/\L'=[hG rm []]):=by
 refine am func180 λ_=>(wL) ?_;intro r4;refine(qC) ?_;refine fh O O (h) O<|(iz)<|(zt) ?_;intro rm;refine(iw)<|aH [] [hG rm []] ?_;exact⟨rm,O,O,O⟩
theorem RM (N:wr w aZ NodeOk) (h1:mL (C7 aZ) g1) (h2:mL (C7 aZ) g2) (h3:∀l∈ls,C7 aZ l) (hpts:(GM.gc [g1,g2,.mls ls]).pts.length<=1000)
  (hu:∀s',kx IL (0,0) (.gc [g1,g2,.mls ls]) s'->s'.2=u) (hw:jm u 4647714815446351872=some w)
  (hmid:∀P z a1 a2 bs,(∀x∈P,aZ x)->P.length<=61->z<=2*P.length->jq (lI P z) () g1 a1 ()->jq (lI P z) () g2 a2 ()->oK (lI P z) () ls bs ()->
   (GM.gc [a1,a2,.mls bs]).pts.length<=262144/\mL (λl=>l.length<=4000) a1/\mL (λl=>l.length<=4000) a2/\∀l∈bs,l.length<=4000):
  ai prog 151 [gv g1 u1,gv g2 u2,jb p ls cp].toArray [aE g1 u1,aE g2 u2,bQ p ls cp,aO 1 0 [iH a]] []
   (λv Fs' L'=>∃(k1 k2:GM) (w1 w2:Value) (p3:Option Addr) (ms:List (List Pt)) (cp3:Nat),Nonempty (W2 w aZ NodeOk g1 g2 ls k1 k2 ms)/\v= .tuple #[gv k1 w1,gv k2 w2,jb p3 ms cp3]/\Fs'=[aE k1 w1,aE k2 w2,bQ p3 ms cp3]/\L'=[]):=by
 refine uL (φ:=u1.oneCell'=true/\u2.oneCell'=true) (λhp al=>⟨dE (al (aE g1 u1) (.head _)),dE (al (aE g2 u2) (.tail _ (.head _)))⟩) λ⟨o1,o2⟩=>?_;have q1:∀l,C7 aZ l->(∀x∈l,aZ x)/\l.length<=1048576:=λl h=>⟨h.1,by have:=h.2;omega⟩;have hall:wV aZ (GM.gc [g1,g2,.mls ls]):= .gc λg hg=>by
  rcases bm.1 hg with rfl|hg
  ·exact H3 q1 h1
  ·rcases bm.1 hg with rfl|hg
   ·exact H3 q1 h2
   ·rcases bm.1 hg with rfl|hg
    ·exact .mls λl hl=>q1 l (h3 l hl)
    ·cases hg
 refine am func151 λ_=>(au) ?_;intro r3;refine(cg) ?_;intro r4;refine(cg) ?_;intro r5;refine(aq) ?_;intro r6;refine(aq) ?_;intro r7;refine(aq) ?_;intro r8;refine(eZ)<|(nH) ?_;intro r9;refine(eZ)<|(nH) ?_;intro r10;refine(eZ)<|(iW)<|(cF) ?_;refine dj O eA call174 nA (WR (r3:=r3) (r4:=r4) (r5:=r5) (p:=p) (lss:=ls) (cp:=cp) (g1:=g1) (g2:=g2) o1 o2) λv0 Fs0 L0 ⟨u3,e1,e2,e3⟩=>?_;subst e1;subst e2;subst e3;refine(iW)<|aS eA call175 (Qa (LL:=IM r10 r9) (R:=IL) (G:=[]) (fv:=[]) (cv:=[be r10,be r9]) (ok:=aZ) (res:=λ_=> .tuple #[]) call176 (λs p hp=>YD s p (N.ulp p hp)) (SizeOf.sizeOf (GM.gc [g1,g2,.mls ls])) (GM.gc [g1,g2,.mls ls]) u3 (0,0) (bg _) hall) λv1 Fs1 L1 ⟨⟨c0,u0⟩,hst,e4,e5⟩=>?_;subst e4;subst e5;have hu0:u0=u:=hu _ hst;subst hu0;refine(Jd)<|(gG)<|aS eA call180 (aeH (k:=c0) hw) λv2 Fs2 L2 ⟨rm,e6,e7,e8⟩=>?_;subst e6;subst e7;subst e8;refine(aq) ?_;intro r12;refine(dS) ?_;refine dl (r:=r12) tA ?_;refine dl (r:=r9) tA<|(mH) ?_;refine aK ab O O O (aR (xs:=[aw w,.map (some rm)]) mA) O O<|(iW)<|aS eA call181 (Nu (LL:=Ho w aZ rm) (R:=y4 w aZ) (G:=[]) (fv:=[xu w rm]) (cv:=[]) (ok:=aZ) call182 (LV N) (SizeOf.sizeOf g1) g1 u1 ⟨[],af1⟩ (bg _) (H3 q1 h1)) λv3 Fs3 L3 ⟨n1,w1,hs1,e9,e10,e11⟩=>?_;subst e9;subst e10;subst e11;refine dP (φ:=w1.oneCell'=true) (λhp al=>dE (al (aE g1 w1) (.head _))) λhw1=>(wO) ?_;refine aK ab O O O (aR (xs:=[aw w,.map (some rm)]) mA) O O<|(iW)<|aS eA call181 (Nu (LL:=Ho w aZ rm) (R:=y4 w aZ) (G:=[]) (fv:=[xu w rm]) (cv:=[]) (ok:=aZ) call182 (LV N) (SizeOf.sizeOf g2) g2 u2 n1 (bg _) (H3 q1 h2)) λv3 Fs3 L3 ⟨n2,w2,hs2,e9,e10,e11⟩=>?_;subst e9;subst e10;subst e11;refine dP (φ:=w2.oneCell'=true) (λhp al=>dE (al (aE g2 w2) (.head _))) λhw2=>(wO) ?_;refine aK ab O O O (aR (xs:=[aw w,.map (some rm)]) mA) O O<|(iW)<|aS eA call183 (SO (LL:=Ho w aZ rm) (R:=y4 w aZ) (G:=[]) (fv:=[xu w rm]) (cv:=[]) (ok:=aZ) (p:=p) (lss:=ls) (cp:=cp) (s:=n2) call182 (LV N) (λl hl=>q1 l (h3 l hl))) λv3 Fs3 L3 ⟨n3,p3,cp3,hs3,e9,e10,e11⟩=>?_;subst e9;subst e10;subst e11;have hn3:=afP hpts hs1 hs2 hs3;refine(ug) ?_;refine aK ab O O O (aR (xs:=[aw w,.map (some rm)]) mA) O O ?_;refine aS eA call185 (afy (w:=w) (rm:=rm) (m:=n3.1) aa) λv4 Fs4 L4 ⟨⟨p4,P,cp4,e9,e10,hPl,hPm⟩,e11⟩=>?_;subst e9;subst e10;subst e11;have hPL:P.length<=61:=by have:=af2 N n3.2;omega
 have hPlat:∀x∈P,aZ x:=λx hx=>by{obtain⟨e,he,hx⟩:=hPm x hx;rw[<-hx];exact(n3.2.1 e he).1}
 refine aI eA call184 (agm (p:=p4) (cp:=cp4) (pts:=P) aa) λv5 Fs5 ⟨rt,V1,z1,e12,e13,hz1⟩=>?_;subst e12;subst e13;refine(aq) ?_;intro r13;refine(dS) ?_;refine dl (r:=r13) tA<|(cJ)<|(iW)<|(rL)<|(aB)<|aS eA call192 (DY (α:=Unit) (LL:=λ_=>[]) (R:=lI P z1) (G:=Ed r13 r9 p4 P cp4 rt u0 V1 z1 a) (fv:=[]) (cv:=[be r13,be r9]) (okl:=Ak aZ) (C:=z1) call186 (NR (Lx hw aa) (λ_ _=>trivial)) (Lw N hPlat) aa (SizeOf.sizeOf g1) g1 w1 () (bg _) (H2 (λl h=>Ml aa h) h1)) λv6 Fs6 L6 ⟨⟨⟩,a1,w3,ra1,e14,e15,e16⟩=>?_;subst e14;subst e15;subst e16;refine dP (φ:=w3.oneCell'=true) (λhp al=>dE (al (aE a1 w3) (.head _))) λhw3=>(wO)<|(aB)<|aS eA call192 (DY (α:=Unit) (LL:=λ_=>[]) (R:=lI P z1) (G:=Ed r13 r9 p4 P cp4 rt u0 V1 z1 a) (fv:=[]) (cv:=[be r13,be r9]) (okl:=Ak aZ) (C:=z1) call186 (NR (Lx hw aa) (λ_ _=>trivial)) (Lw N hPlat) aa (SizeOf.sizeOf g2) g2 w2 () (bg _) (H2 (λl h=>Ml aa h) h2)) λv6 Fs6 L6 ⟨⟨⟩,a2,w4,ra2,e14,e15,e16⟩=>?_;subst e14;subst e15;subst e16;refine dP (φ:=w4.oneCell'=true) (λhp al=>dE (al (aE a2 w4) (.head _))) λhw4=>(wO)<|(aB)<|aS eA call193 (Lm (α:=Unit) (LL:=λ_=>[]) (R:=lI P z1) (G:=Ed r13 r9 p4 P cp4 rt u0 V1 z1 a) (fv:=[]) (cv:=[be r13,be r9]) (okl:=Ak aZ) (C:=z1) (p:=p3) (lss:=ls) (cp:=cp3) (s:=()) call186 (NR (Lx hw aa) (λ_ _=>trivial)) (Lw N hPlat) aa (λl hl=>Ml aa (h3 l hl))) λv6 Fs6 L6 ⟨⟨⟩,p5,bs,cp5,ras,e14,e15,e16⟩=>?_;subst e14;subst e15;subst e16;obtain⟨m1,m2,m3,m4⟩:=hmid P z1 a1 a2 bs hPlat hPL hz1 ra1 ra2 ras;have hR1:∀(s:Unit) (ln:Ln) (cs:List Pt) (s':Unit),Ak aZ ln->lI P z1 s ln cs s'->∀x∈cs,aZ x:=λ_ _ _ _ _ h x hx=>hPlat x (h.2 x hx).1;have gl:∀l,C7 aZ l->(∀x∈l,aZ x)/\∀ln∈bK l,Ak aZ ln:=λl h=>⟨h.1,λs hs=>⟨h.1 _ (vR hs).1,h.1 _ (vR hs).2.1⟩⟩;have ga1:=RT hR1 ra1 (UK gl h1);have ga2:=RT hR1 ra2 (UK gl h2);have gbs:=Lo hR1 ras (λl hl=>gl l (h3 l hl));have gall3:=ahA ga1 ga2 gbs;obtain⟨lns,hlns⟩:∃lns,lns=(GM.gc [a1,a2,.mls bs]).lns:=⟨_,rfl⟩;have hlE:∀o∈lns,aZ o.1/\aZ o.2/\aV o.1 o.2=false:=by rw[hlns];exact UN gall3
 have hlL:lns.length<=262144:=by rw[hlns];exact tc (S4 _) m1
 refine(cu)<|(bJ) ?_;refine dj O eA call174 nA (WR (r3:=r3) (r4:=r4) (r5:=r5) (p:=p5) (lss:=bs) (cp:=cp5) (g1:=a1) (g2:=a2) hw3 hw4) λv0 Fs0 L0 ⟨u6,e1,e2,e3⟩=>?_;subst e1;subst e2;subst e3;refine aS eA call195 (WP (SizeOf.sizeOf (GM.gc [a1,a2,.mls bs])) (GM.gc [a1,a2,.mls bs]) u6 (.slice none 0 0) [] [] (bg _) (aJ.nil 223 4) (by simp only[kC];omega)) λv7 Fs7 L7 ⟨hB7,e1⟩=>?_;subst e1;rw[j6,<-hlns] at hB7;obtain⟨p7,cp7,e17⟩:=hB7.shape;subst e17;refine xJ hB7 tA ?_;refine aI eA call194 (agn (p:=p7) (cp:=cp7) (lns:=lns) aa) λv8 Fs8 ⟨rt2,V2,z2,e12,e13,hz2⟩=>?_;subst e12;subst e13;refine(aq) ?_;intro r15;refine(dS) ?_;refine dl (r:=r15) tA ?_;refine UG (φ:=∀q,(V2 q).length<=z2) (λhp al=>λq=>Lg (al (lE (vH lns) rt2 V2 z2) mA) q) λhVz=>?_;have hN0:∀e∈n3.1,NodeOk e.2:=λe he=>N.lat _ (n3.2.1 e he).1;have k2:∀l,((∀x∈l,aZ x)/\l.length<=4000)->x9 (xq NodeOk lns) (2*z2) l:=λl h=>afm N hlE aa h;have j1:mL (λl=>(∀x∈l,aZ x)/\l.length<=4000) a1:=UL ga1 m2;have j2:mL (λl=>(∀x∈l,aZ x)/\l.length<=4000) a2:=UL ga2 m3;refine(cJ)<|(iW)<|(rL)<|(aB)<|aS eA call192 (DY (α:=qy NodeOk) (LL:=λm=>[hG rm m.1]) (R:=qG w NodeOk lns V2) (G:=BU r15 r12 p7 lns cp7 rt2 w rm V2 z2 a) (fv:=[]) (cv:=[be r15,be r12]) (okl:=xq NodeOk lns) (C:=2*z2) call196 (Mp N aa) (Mo N hVz) aa (SizeOf.sizeOf a1) a1 w3 ⟨n3.1,hN0⟩ (bg _) (H2 k2 j1)) λv9 Fs9 L9 ⟨s1,k1,w5,rb1,e14,e15,e16⟩=>?_;subst e14;subst e15;subst e16;refine dP (φ:=w5.oneCell'=true) (λhp al=>dE (al (aE k1 w5) (.head _))) λhw5=>(wO)<|(aB)<|aS eA call192 (DY (α:=qy NodeOk) (LL:=λm=>[hG rm m.1]) (R:=qG w NodeOk lns V2) (G:=BU r15 r12 p7 lns cp7 rt2 w rm V2 z2 a) (fv:=[]) (cv:=[be r15,be r12]) (okl:=xq NodeOk lns) (C:=2*z2) call196 (Mp N aa) (Mo N hVz) aa (SizeOf.sizeOf a2) a2 w4 s1 (bg _) (H2 k2 j2)) λv9 Fs9 L9 ⟨s2,k3,w6,rb2,e14,e15,e16⟩=>?_;subst e14;subst e15;subst e16;refine dP (φ:=w6.oneCell'=true) (λhp al=>dE (al (aE k3 w6) (.head _))) λhw6=>(wO)<|(aB)<|aS eA call193 (Lm (α:=qy NodeOk) (LL:=λm=>[hG rm m.1]) (R:=qG w NodeOk lns V2) (G:=BU r15 r12 p7 lns cp7 rt2 w rm V2 z2 a) (fv:=[]) (cv:=[be r15,be r12]) (okl:=xq NodeOk lns) (C:=2*z2) (p:=p5) (lss:=bs) (cp:=cp5) (s:=s2) call196 (Mp N aa) (Mo N hVz) aa (λl hl=>k2 l ⟨gbs l hl,m4 l hl⟩)) λv9 Fs9 L9 ⟨s3,p9,ms,cp9,rbs,e14,e15,e16⟩=>?_;subst e14;subst e15;subst e16;refine(dS) ?_;refine dl (r:=r3) tA ?_;refine dl (r:=r4) tA ?_;refine dl (r:=r5) tA ?_;subst hlns;refine cz cw 6 [3,4,5] [3,4,5] ?_;refine cC O (aK ab O O O (aR (xs:=[.int .i64 k1.tag,w5]) mA) O O) ?_;refine cC O (aK ab O O O (aR (xs:=[.int .i64 k3.tag,w6]) mA) O O) ?_;refine cC O (aK ab O O O (aR (xs:=[.slice p9 ms.length cp9,.int .u8 0]) mA) O O)<|(dT)<|(de) ?_;refine mj (.norm ⟨⟨undef,O⟩,(sN)<|(de) ?_⟩);refine mj (.norm ⟨⟨undef,O⟩,(sN)<|(de) ?_⟩);refine mj (.norm ⟨⟨undef,O⟩,(um)<|(aN)<|(xY)<|aH [aE k1 w5,aE k3 w6,bQ p9 ms cp9] [] ?_⟩);exact⟨k1,k3,w5,w6,p9,ms,cp9,⟨⟨P,a1,a2,bs,z1,V2,(λq=>by have:=hVz q;omega),n3.1,hN0,s1,s2,s3,hPlat,hPL,hz1,n3.2,ra1,ra2,ras,rb1,rb2,rbs⟩⟩,O,O,O⟩
end Go.Proofs
namespace Go.Proofs
open Go.V Go.Edges
def keyOf (l:List Pt):PP:=(l.getD 0 (0,0),l.getD 1 (0,0))
def vQ (q:Sq):cq:=⟨none,none,none,none,none,q,false,false,false⟩
def DS.newE (d:DS) (q:Sq) (r:Nat):DS:={d with hs:=d.hs++[(keyOf q.l,r)],E:=λj=>if j=r then vQ q else d.E j}
def dt (d:DS) (q:Sq) (r:Nat):Nat×DS:=match qU d.hs (keyOf q.l) with
 |some e=>(e,d)
 |none=>(r,d.newE q r)
structure FN where
 d:DS
 sv:Nat
 ev:Nat
 fw:Nat
 rv:Nat
def dd (d:DS) (q q':Sq) (r1 r2 sv ev:Nat):FN:=
 let f:=dt d q r1
 let g:=dt f.2 q' r2
 let d3:=(g.2.modM sv f.1).modM ev g.1
 let d4:=((((d3.modE f.1 λe=>{e with org:=some sv}).modE g.1 λe=>{e with org:=some ev}).modE f.1 λe=>{e with tw:=some g.1}).modE g.1 λe=>{e with tw:=some f.1})
 let d5:=((((d4.modE f.1 λe=>{e with nx:=some g.1}).modE f.1 λe=>{e with pv:=some g.1}).modE g.1 λe=>{e with nx:=some f.1}).modE g.1 λe=>{e with pv:=some f.1})
 ⟨d5,sv,ev,f.1,g.1⟩
def ph (li lb:Bool) (v:dw):dw:={v with li:=li,lb:=lb}
def oF (x:FN):DS:=(((x.d.modV x.sv λv=>{v with a:=true}).modV x.ev λv=>{v with a:=true}).modE x.fw λe=>{e with a:=true}).modE x.rv λe=>{e with a:=true}
inductive wW:Bool->DS->List Pt->DS->Prop where
 |ghost {d:DS} {q q':Sq} {r1 r2 sv ev:Nat}:q'.l=q.l.reverse->r1∉d.hs.map (·.2)->r2∉(dt d q r1).2.hs.map (·.2)->lW d.vs (keyOf q.l).1=some sv->lW d.vs (keyOf q'.l).1=some ev->
   wW false d q.l (dd d q q' r1 r2 sv ev).d
 |src {d:DS} {q q':Sq} {r1 r2 sv ev:Nat} (a b c e:Bool):q'.l=q.l.reverse->r1∉d.hs.map (·.2)->r2∉(dt d q r1).2.hs.map (·.2)->lW d.vs (keyOf q.l).1=some sv->lW d.vs (keyOf q'.l).1=some ev->
   wW true d q.l (((oF (dd d q q' r1 r2 sv ev)).modV sv (ph a b)).modV ev (ph c e))
structure Inv (S:List (List Pt×Bool)) (d:DS):Prop where
 nd:(d.hs.map (·.2)).Nodup
 kn:(d.hs.map (·.1)).Nodup
 key:∀k r,(k,r)∈d.hs->keyOf (d.E r).sq.l=k
 src:∀k r,(k,r)∈d.hs->∃s b,(s,b)∈S/\((d.E r).sq.l=s\/(d.E r).sq.l=s.reverse)
 tw:∀k r,(k,r)∈d.hs->∃k' r',(k',r')∈d.hs/\(d.E r).tw=some r'/\(d.E r').tw=some r/\(d.E r').sq.l=(d.E r).sq.l.reverse/\(d.E r').a=(d.E r).a
 org:∀k r,(k,r)∈d.hs->∃v,lW d.vs k.1=some v/\(d.E r).org=some v/\r∈d.M v
 inc:∀p v,(p,v)∈d.vs->∀r∈d.M v,∃k,(k,r)∈d.hs/\(d.E r).org=some v
 mn:∀p v,(p,v)∈d.vs->(d.M v).Nodup
 all:∀s b,(s,b)∈S->∃r,(keyOf s,r)∈d.hs/\(b=true->(d.E r).a=true)
 a2:∀k r,(k,r)∈d.hs->(d.E r).a=true->∃s,(s,true)∈S/\((d.E r).sq.l=s\/(d.E r).sq.l=s.reverse)
 va:∀p v,(p,v)∈d.vs->(d.V v).a=true->∃r∈d.M v,(d.E r).a=true
 ef:∀k r,(k,r)∈d.hs->(d.E r).s=false/\(d.E r).x=false
 vf:∀p v,(p,v)∈d.vs->(d.V v).s=false/\(d.V v).x=false/\(d.V v).co=p
end Go.Proofs
namespace Go.Proofs
open Go.V Go.Edges
variable {lines:List (List Pt)} {X:Pt->Prop}
theorem RA {s:List Pt} (h:dR lines X s):∃a b t,s=a::b::t:=by
 obtain⟨a,t,rfl,_,ht⟩:=h.from_;cases t with
 |nil=>exact ht.elim
 |cons b t=>exact⟨a,b,t,rfl⟩
theorem Tx (ok:kP lines X) {s t:List Pt} (hs:dR lines X s) (ht:dR lines X t) (h:keyOf s=keyOf t):s=t:=by
 refine hs.uniq ok ht ?_ ?_
 all_goals
  obtain⟨a,b,u,rfl⟩:=RA hs;obtain⟨c,e,v,rfl⟩:=RA ht;simp only[keyOf,jy,j8,yg] at h;simp[h.1,h.2]
structure GA (d d1:DS) (q:Sq) (f:Nat):Prop where
 here:(keyOf q.l,f)∈d1.hs
 sq:(d1.E f).sq.l=q.l
 nd:(d1.hs.map (·.2)).Nodup
 kn:(d1.hs.map (·.1)).Nodup
 key:∀k r,(k,r)∈d1.hs->keyOf (d1.E r).sq.l=k
 old:∀k r,(k,r)∈d.hs->(k,r)∈d1.hs/\d1.E r=d.E r
 new:∀k r,(k,r)∈d1.hs->(k,r)∈d.hs\/(k=keyOf q.l/\r=f/\d1.E f=vQ q)
 M:d1.M=d.M
 V:d1.V=d.V
 vs:d1.vs=d.vs
theorem HL {hs:List (PP×Nat)} (h:(hs.map (·.2)).Nodup) {k k':PP} {r:Nat} (h1:(k,r)∈hs) (h2:(k',r)∈hs):k=k':=by
 induction hs with
 |nil=>cases h1
 |cons e hs ih=>
  have h':=la.1 h;rcases bm.1 h1 with e1|m1<;>rcases bm.1 h2 with e2|m2
  ·rw[<-e1] at e2;exact(PK.1 e2).1.symm
  ·subst e1;exact absurd (aM.2 ⟨_,m2,rfl⟩) h'.1
  ·subst e2;exact absurd (aM.2 ⟨_,m1,rfl⟩) h'.1
  ·exact ih h'.2 m1 m2
theorem HF {hs:List (PP×Nat)} (h:(hs.map (·.1)).Nodup) {k:PP} {r r':Nat} (h1:(k,r)∈hs) (h2:(k,r')∈hs):r=r':=by
 induction hs with
 |nil=>cases h1
 |cons e hs ih=>
  have h':=la.1 h;rcases bm.1 h1 with e1|m1<;>rcases bm.1 h2 with e2|m2
  ·rw[<-e1] at e2;exact(PK.1 e2).2.symm
  ·subst e1;exact absurd (aM.2 ⟨_,m2,rfl⟩) h'.1
  ·subst e2;exact absurd (aM.2 ⟨_,m1,rfl⟩) h'.1
  ·exact ih h'.2 m1 m2
theorem ahx {hs:List (PP×Nat)} {k:PP} (h:qU hs k=none):k∉hs.map (·.1):=by
 intro hm;obtain⟨e,he,rfl⟩:=aM.1 hm;simp only[qU,PQ,zQ,decide_eq_true_eq] at h;exact h e he O
theorem UV (ok:kP lines X) {d:DS} {q:Sq} {r:Nat} (hq:dR lines X q.l) (hr:r∉d.hs.map (·.2)) (nd:(d.hs.map (·.2)).Nodup) (kn:(d.hs.map (·.1)).Nodup) (key:∀k r,(k,r)∈d.hs->keyOf (d.E r).sq.l=k)
  (runs:∀k r,(k,r)∈d.hs->dR lines X (d.E r).sq.l):GA d (dt d q r).2 q (dt d q r).1:=by
 unfold dt;cases h:qU d.hs (keyOf q.l) with
 |some e=>
  have hm:=Ue h;exact⟨hm,Tx ok (runs _ _ hm) hq (key _ _ hm),nd,kn,key,λk r h=>⟨h,O⟩,λk r h=> .inl h,O,O,O⟩
 |none=>
  have hn:=ahx h;have hE:∀k r',(k,r')∈d.hs->r'≠r:=λk r' h e=>by subst e;exact hr (aM.2 ⟨_,h,rfl⟩)
  refine⟨bI _ (.head _),by simp[DS.newE,vQ],?_,?_,λk r' h=>?_,λk r' h=>⟨bq _ h,?_⟩,λk r' h=>?_,rfl,rfl,rfl⟩
  ·show((d.hs++[(keyOf q.l,r)]).map (·.2)).Nodup;rw[dX];exact uF.2 ⟨nd,by simp,λa ha b hb e=>by simp at hb;subst hb;subst e;exact hr ha⟩
  ·show((d.hs++[(keyOf q.l,r)]).map (·.1)).Nodup;rw[dX];exact uF.2 ⟨kn,by simp,λa ha b hb e=>by simp at hb;subst hb;subst e;exact hn ha⟩
  ·rcases bB.1 h with h|h
   ·simp only[DS.newE,if_neg (hE _ _ h)];exact key _ _ h
   ·simp at h;obtain⟨rfl,rfl⟩:=h;simp[DS.newE,vQ]
  ·simp only[DS.newE,if_neg (hE _ _ h)]
  ·rcases bB.1 h with h|h
   ·exact .inl h
   ·simp at h;obtain⟨rfl,rfl⟩:=h;exact .inr ⟨rfl,rfl,by simp[DS.newE]⟩
theorem xC {l:List Nat} {e x:Nat}:x∈kH l e↔x∈l\/x=e:=by
 unfold kH;split
 ·rename_i h;constructor
  ·exact .inl
  ·rintro(h'|rfl)
   ·exact h'
   ·exact h
 ·simp
theorem LQ {l:List Nat} {e:Nat} (h:l.Nodup):(kH l e).Nodup:=by
 unfold kH;split
 ·exact h
 ·rename_i hn;exact uF.2 ⟨h,by simp,λa ha b hb e'=>by simp at hb;subst hb;subst e';exact hn ha⟩
theorem kl (d:DS) (r:Nat) (g:cq->cq) (j:Nat):(d.modE r g).E j=if j=r then g (d.E r) else d.E j:=rfl
theorem ajJ (d:DS) {f g:Nat} (hfg:f≠g) (sv ev:Nat) (j:Nat):
  ((((((((((d.modE f λe=>{e with org:=some sv}).modE g λe=>{e with org:=some ev}).modE f λe=>{e with tw:=some g}).modE g λe=>{e with tw:=some f})).modE f λe=>{e with nx:=some g}).modE f λe=>{e with pv:=some g}).modE g λe=>{e with nx:=some f}).modE g λe=>{e with pv:=some f}).E j)=
  if j=f then{d.E f with org:=some sv,tw:=some g,nx:=some g,pv:=some g} else if j=g then{d.E g with org:=some ev,tw:=some f,nx:=some f,pv:=some f} else d.E j:=by
 have hgf:g≠f:=λe=>hfg e.symm;by_cases e1:j=f
 ·subst e1;simp only[kl,hfg,hgf,if_true,if_false]
 ·by_cases e2:j=g
  ·subst e2;simp only[kl,hfg,hgf,if_true,if_false]
  ·simp only[kl,e1,e2,if_false]
theorem SM (d:DS) (r:Nat) (g:cq->cq):(d.modE r g).hs=d.hs:=rfl
theorem SL (d:DS) (r:Nat) (g:cq->cq):(d.modE r g).vs=d.vs:=rfl
theorem SN (d:DS) (r:Nat) (g:cq->cq):(d.modE r g).V=d.V:=rfl
theorem Mc (d:DS) (r:Nat) (g:cq->cq):(d.modE r g).M=d.M:=rfl
theorem SJ (d:DS) (v e:Nat):(d.modM v e).hs=d.hs:=rfl
theorem SG (d:DS) (v e:Nat):(d.modM v e).vs=d.vs:=rfl
theorem aeU (d:DS) (v e:Nat):(d.modM v e).V=d.V:=rfl
theorem SK (d:DS) (v e:Nat):(d.modM v e).E=d.E:=rfl
theorem SE (d:DS) (r:Nat) (g:dw->dw):(d.modV r g).E=d.E:=rfl
theorem Ew (d:DS) (r:Nat) (g:dw->dw) (j:Nat):(d.modV r g).V j=if j=r then g (d.V r) else d.V j:=rfl
theorem Hq (d:DS) (v e j:Nat):(d.modM v e).M j=if j=v then kH (d.M v) e else d.M j:=rfl
theorem aly {d:DS} {q q':Sq} {r1 r2 sv ev f g:Nat} {d1 d2:DS} (h1:dt d q r1=(f,d1)) (h2:dt d1 q' r2=(g,d2)) (hfg:f≠g):
  (dd d q q' r1 r2 sv ev).fw=f/\(dd d q q' r1 r2 sv ev).rv=g/\(dd d q q' r1 r2 sv ev).sv=sv/\(dd d q q' r1 r2 sv ev).ev=ev/\
  (dd d q q' r1 r2 sv ev).d.hs=d2.hs/\(dd d q q' r1 r2 sv ev).d.vs=d2.vs/\(dd d q q' r1 r2 sv ev).d.V=d2.V/\
  (∀j,(dd d q q' r1 r2 sv ev).d.E j=if j=f then{d2.E f with org:=some sv,tw:=some g,nx:=some g,pv:=some g} else if j=g then{d2.E g with org:=some ev,tw:=some f,nx:=some f,pv:=some f} else d2.E j)/\
  (∀j x,x∈(dd d q q' r1 r2 sv ev).d.M j↔x∈d2.M j\/(j=sv/\x=f)\/(j=ev/\x=g))/\((∀j,(d2.M j).Nodup->((dd d q q' r1 r2 sv ev).d.M j).Nodup)):=by
 unfold dd;simp only[h1,h2];refine⟨trivial,trivial,trivial,trivial,by simp only[SM,SJ],by simp only[SL,SG],by simp only[SN,aeU],λj=>(ajJ _ hfg sv ev j).trans (by simp only[SK]),λj x=>?_,λj hj=>?_⟩
 ·simp only[Mc,Hq];by_cases e1:j=ev
  ·subst e1;rw[if_pos rfl,xC];by_cases e2:j=sv
   ·subst e2;rw[if_pos rfl,xC];simp;exact or_assoc
   ·rw[if_neg e2];simp[e2]
  ·rw[if_neg e1];by_cases e2:j=sv
   ·subst e2;rw[if_pos rfl,xC];simp[e1]
   ·rw[if_neg e2];simp[e1,e2]
 ·simp only[Mc,Hq];by_cases e1:j=ev
  ·subst e1;rw[if_pos rfl];refine LQ ?_;by_cases e2:j=sv
   ·subst e2;rw[if_pos rfl];exact LQ hj
   ·rw[if_neg e2];exact hj
  ·rw[if_neg e1];by_cases e2:j=sv
   ·subst e2;rw[if_pos rfl];exact LQ hj
   ·rw[if_neg e2];exact hj
variable {S:List (List Pt×Bool)}
structure XK (S:List (List Pt×Bool)) (l:List Pt) (x:FN):Prop where
 inv:Inv (S++[(l,false)]) x.d
 fw:(keyOf l,x.fw)∈x.d.hs
 rv:(keyOf l.reverse,x.rv)∈x.d.hs
 sf:(x.d.E x.fw).sq.l=l
 sr:(x.d.E x.rv).sq.l=l.reverse
 tf:(x.d.E x.fw).tw=some x.rv
 tr:(x.d.E x.rv).tw=some x.fw
 ne:x.fw≠x.rv
 mf:x.fw∈x.d.M x.sv
 mr:x.rv∈x.d.M x.ev
theorem TQ (ok:kP lines X) {d:DS} {q q':Sq} {r1 r2 sv ev:Nat} (hi:Inv S d) (hS:∀s b,(s,b)∈S->dR lines X s) (hq:dR lines X q.l) (hq':q'.l=q.l.reverse)
  (hr1:r1∉d.hs.map (·.2)) (hr2:r2∉(dt d q r1).2.hs.map (·.2)) (hsv:lW d.vs (keyOf q.l).1=some sv) (hev:lW d.vs (keyOf q'.l).1=some ev):XK S q.l (dd d q q' r1 r2 sv ev):=by
 have runs:∀k r,(k,r)∈d.hs->dR lines X (d.E r).sq.l:=λk r h=>by
  obtain⟨s,b,hs,e|e⟩:=hi.src k r h
  ·rw[e];exact hS s b hs
  ·rw[e];exact(hS s b hs).rev
 have hqr:dR lines X q'.l:=by rw[hq'];exact hq.rev
 have g1:=UV ok hq hr1 hi.nd hi.kn hi.key runs;cases h1:dt d q r1 with
 |mk f d1=>
 rw[h1] at g1 hr2;dsimp only at g1 hr2;have runs1:∀k r,(k,r)∈d1.hs->dR lines X (d1.E r).sq.l:=λk r h=>by
  rcases g1.new k r h with h|⟨_,rfl,_⟩
  ·rw[(g1.old k r h).2];exact runs k r h
  ·rw[g1.sq];exact hq
 have g2:=UV ok hqr hr2 g1.nd g1.kn g1.key runs1;cases h2:dt d1 q' r2 with
 |mk g d2=>
 rw[h2] at g2;dsimp only at g2;obtain⟨f1,f2⟩:=g2.old _ _ g1.here;have sf:(d2.E f).sq.l=q.l:=by rw[f2];exact g1.sq
 have hfg:f≠g:=by
  intro e;subst e;have:=g2.sq;rw[sf,hq'] at this;exact hq.no_pal ok this
 have hgf:g≠f:=λe=>hfg e.symm;obtain⟨a1,a2,a3,a4,a5,a6,a7,a8,a9,a10⟩:=aly (sv:=sv) (ev:=ev) h1 h2 hfg;have vs2:d2.vs=d.vs:=g2.vs.trans g1.vs;have M2:d2.M=d.M:=g2.M.trans g1.M;have V2:d2.V=d.V:=g2.V.trans g1.V;have new:∀k r,(k,r)∈d2.hs->((k,r)∈d.hs/\d2.E r=d.E r)\/(k=keyOf q.l/\r=f/\d2.E f=vQ q/\∀k',(k',f)∉d.hs)\/(k=keyOf q'.l/\r=g/\d2.E g=vQ q'/\∀k',(k',g)∉d1.hs):=by
  intro k r h;rcases g2.new k r h with h|⟨rfl,rfl,h⟩
  ·have e2:=(g2.old k r h).2;rcases g1.new k r h with h'|⟨rfl,rfl,h'⟩
   ·exact .inl ⟨h',by rw[e2,(g1.old k r h').2]⟩
   ·by_cases ho:∃k',(k',r)∈d.hs
    ·obtain⟨k',ho⟩:=ho;have:=HL g1.nd (g1.old _ _ ho).1 h;subst this;exact .inl ⟨ho,by rw[e2,(g1.old _ _ ho).2]⟩
    ·exact .inr (.inl ⟨O,O,by rw[e2,h'],λk' hh=>ho ⟨k',hh⟩⟩)
  ·by_cases ho:∃k',(k',r)∈d1.hs
   ·obtain⟨k',ho⟩:=ho;have:=HL g2.nd (g2.old _ _ ho).1 g2.here;subst this;have e2:=(g2.old _ _ ho).2;rcases g1.new _ r ho with h'|⟨_,e,_⟩
    ·exact .inl ⟨h',by rw[e2,(g1.old _ r h').2]⟩
    ·exact absurd e hgf
   ·exact .inr (.inr ⟨O,O,h,λk' hh=>ho ⟨k',hh⟩⟩)
 have old:∀k r,(k,r)∈d.hs->(k,r)∈d2.hs/\d2.E r=d.E r:=λk r h=>⟨(g2.old _ _ (g1.old k r h).1).1,by rw[(g2.old _ _ (g1.old k r h).1).2,(g1.old k r h).2]⟩;have kf:∀k,(k,f)∈d2.hs->k=keyOf q.l:=λk h=>HL g2.nd h f1;have kg:∀k,(k,g)∈d2.hs->k=keyOf q'.l:=λk h=>HL g2.nd h g2.here;have Ef:(dd d q q' r1 r2 sv ev).d.E f={d2.E f with org:=some sv,tw:=some g,nx:=some g,pv:=some g}:=by rw[a8,if_pos rfl]
 have Eg:(dd d q q' r1 r2 sv ev).d.E g={d2.E g with org:=some ev,tw:=some f,nx:=some f,pv:=some f}:=by rw[a8,if_neg hgf,if_pos rfl]
 have Eo:∀r,r≠f->r≠g->(dd d q q' r1 r2 sv ev).d.E r=d2.E r:=λr h h'=>by rw[a8,if_neg h,if_neg h']
 have Esq:∀r,((dd d q q' r1 r2 sv ev).d.E r).sq=(d2.E r).sq:=λr=>by
  by_cases e1:r=f
  ·subst e1;rw[Ef]
  ·by_cases e2:r=g
   ·subst e2;rw[Eg]
   ·rw[Eo r e1 e2]
 have Ea:∀r,((dd d q q' r1 r2 sv ev).d.E r).a=(d2.E r).a:=λr=>by
  by_cases e1:r=f
  ·subst e1;rw[Ef]
  ·by_cases e2:r=g
   ·subst e2;rw[Eg]
   ·rw[Eo r e1 e2]
 have Efl:∀r,((dd d q q' r1 r2 sv ev).d.E r).s=(d2.E r).s/\((dd d q q' r1 r2 sv ev).d.E r).x=(d2.E r).x:=λr=>by
  by_cases e1:r=f
  ·subst e1;rw[Ef];exact⟨rfl,rfl⟩
  ·by_cases e2:r=g
   ·subst e2;rw[Eg];exact⟨rfl,rfl⟩
   ·rw[Eo r e1 e2];exact⟨rfl,rfl⟩
 have flagfg:(d2.E g).a=(d2.E f).a:=by
  have hgm:=g2.here;rcases new _ _ f1 with⟨of,ef⟩|⟨_,_,zf,nf⟩|⟨_,e,_⟩
  ·obtain⟨k',r',m',t1,t2,s1,fl⟩:=hi.tw _ _ of;have e1:keyOf (d.E r').sq.l=k':=hi.key _ _ m';have e2:(d.E f).sq.l=q.l:=by rw[<-ef];exact sf
   have e3:k'=keyOf q'.l:=by rw[<-e1,s1,e2,hq']
   subst e3;have:=HF g2.kn (old _ _ m').1 hgm;subst this;rw[(old _ _ m').2,ef];exact fl
  ·rcases new _ _ hgm with⟨og,eg⟩|⟨_,e,_⟩|⟨_,_,zg,ng⟩
   ·obtain⟨k',r',m',t1,t2,s1,fl⟩:=hi.tw _ _ og;have e1:keyOf (d.E r').sq.l=k':=hi.key _ _ m';have e2:(d.E g).sq.l=q.l.reverse:=by rw[<-eg,g2.sq,hq']
    have e3:k'=keyOf q.l:=by rw[<-e1,s1,e2,zP]
    subst e3;have:=HF g2.kn (old _ _ m').1 f1;subst this;exact absurd m' (nf _)
   ·exact absurd e hgf
   ·rw[zf,zg];rfl
  ·exact absurd e hfg
 have key2:∀k r,(k,r)∈d2.hs->keyOf (d2.E r).sq.l=k:=g2.key;have inv:Inv (S++[(q.l,false)]) (dd d q q' r1 r2 sv ev).d:=by
  refine⟨?_,?_,λk r h=>?_,λk r h=>?_,λk r h=>?_,λk r h=>?_,λp v h r hr=>?_,λp v h=>?_,λs b h=>?_,λk r h ha=>?_,λp v h ha=>?_,λk r h=>?_,λp v h=>?_⟩
  ·rw[a5];exact g2.nd
  ·rw[a5];exact g2.kn
  ·rw[a5] at h;rw[Esq];exact g2.key k r h
  ·rw[a5] at h;rw[Esq];rcases new k r h with⟨o,e⟩|⟨_,rfl,_,_⟩|⟨_,rfl,_,_⟩
   ·obtain⟨s,b,hs,hh⟩:=hi.src k r o;exact⟨s,b,bq _ hs,by rw[e];exact hh⟩
   ·exact⟨q.l,false,bI _ (.head _),.inl sf⟩
   ·exact⟨q.l,false,bI _ (.head _),.inr (by rw[g2.sq,hq'])⟩
  ·rw[a5] at h ⊢;by_cases e1:r=f
   ·subst e1;exact⟨_,g,g2.here,by rw[Ef],by rw[Eg],by rw[Esq,Esq,g2.sq,sf,hq'],by rw[Ea,Ea];exact flagfg⟩
   ·by_cases e2:r=g
    ·subst e2;exact⟨_,f,f1,by rw[Eg],by rw[Ef],by rw[Esq,Esq,g2.sq,sf,hq',zP],by rw[Ea,Ea];exact flagfg.symm⟩
    ·rcases new k r h with⟨o,e⟩|⟨_,e',_⟩|⟨_,e',_⟩
     ·obtain⟨k',r',m',t1,t2,s1,fl⟩:=hi.tw k r o;have m2:=old _ _ m';have n1:r'≠f:=by
       intro e';subst e';have h3:(d.E r).sq.l=q.l.reverse:=by
        have h4:(d.E r').sq.l=q.l:=by rw[<-m2.2];exact sf
        rw[h4] at s1;rw[s1,zP]
       have h5:k=keyOf q'.l:=by rw[<-hi.key k r o,h3,hq']
       subst h5;exact e2 (HF g2.kn h g2.here)
      have n2:r'≠g:=by
       intro e';subst e';have h3:(d.E r).sq.l=q.l:=by
        have h4:(d.E r').sq.l=q.l.reverse:=by rw[<-m2.2,g2.sq,hq']
        rw[h4] at s1;have:=congrArg List.reverse s1;simpa using this.symm
       have h5:k=keyOf q.l:=by rw[<-hi.key k r o,h3]
       subst h5;exact e1 (HF g2.kn h f1)
      refine⟨k',r',m2.1,?_,?_,?_,?_⟩
      ·rw[Eo r e1 e2,e];exact t1
      ·rw[Eo r' n1 n2,m2.2];exact t2
      ·rw[Esq,Esq,e,m2.2];exact s1
      ·rw[Ea,Ea,e,m2.2];exact fl
     ·exact absurd e' e1
     ·exact absurd e' e2
  ·rw[a5] at h;rw[a6,vs2];by_cases e1:r=f
   ·subst e1;rw[kf k h];exact⟨sv,hsv,by rw[Ef],(a9 sv r).2 (.inr (.inl ⟨rfl,rfl⟩))⟩
   ·by_cases e2:r=g
    ·subst e2;rw[kg k h];exact⟨ev,hev,by rw[Eg],(a9 ev r).2 (.inr (.inr ⟨rfl,rfl⟩))⟩
    ·rcases new k r h with⟨o,e⟩|⟨_,e',_⟩|⟨_,e',_⟩
     ·obtain⟨v,v1,v2,v3⟩:=hi.org k r o;exact⟨v,v1,by rw[Eo r e1 e2,e];exact v2,(a9 v r).2 (.inl (by rw[M2];exact v3))⟩
     ·exact absurd e' e1
     ·exact absurd e' e2
  ·rw[a6,vs2] at h;rw[a5];rcases(a9 v r).1 hr with hr|⟨rfl,rfl⟩|⟨rfl,rfl⟩
   ·rw[M2] at hr;obtain⟨k,o,ho⟩:=hi.inc p v h r hr;refine⟨k,(old _ _ o).1,?_⟩;obtain⟨v',v1,v2,v3⟩:=hi.org k r o;have hvv:v'=v:=by rw[v2] at ho;exact iD ho
    subst hvv;by_cases e1:r=f
    ·subst e1;have:=kf k (old _ _ o).1;subst this;rw[hsv] at v1;rw[Ef];exact v1
    ·by_cases e2:r=g
     ·subst e2;have:=kg k (old _ _ o).1;subst this;rw[hev] at v1;rw[Eg];exact v1
     ·rw[Eo r e1 e2,(old _ _ o).2];exact ho
   ·exact⟨_,f1,by rw[Ef]⟩
   ·exact⟨_,g2.here,by rw[Eg]⟩
  ·rw[a6,vs2] at h;exact a10 v (by rw[M2];exact hi.mn p v h)
  ·rw[a5];rcases bB.1 h with h|h
   ·obtain⟨r,hr,hb⟩:=hi.all s b h;exact⟨r,(old _ _ hr).1,λe=>by rw[Ea,(old _ _ hr).2];exact hb e⟩
   ·simp at h;obtain⟨rfl,rfl⟩:=h;exact⟨f,f1,λe=>nomatch e⟩
  ·rw[a5] at h;rw[Ea] at ha;rw[Esq];rcases new k r h with⟨o,e⟩|⟨_,rfl,z,_⟩|⟨_,rfl,z,_⟩
   ·rw[e] at ha ⊢;obtain⟨s,hs,hh⟩:=hi.a2 k r o ha;exact⟨s,bq _ hs,hh⟩
   ·rw[z] at ha;cases ha
   ·rw[z] at ha;cases ha
  ·rw[a6,vs2] at h;rw[a7,V2] at ha;obtain⟨r,hr,hra⟩:=hi.va p v h ha;obtain⟨k,o,_⟩:=hi.inc p v h r hr;exact⟨r,(a9 v r).2 (.inl (by rw[M2];exact hr)),by rw[Ea,(old _ _ o).2];exact hra⟩
  ·rw[a5] at h;rw[(Efl r).1,(Efl r).2];rcases new k r h with⟨o,e⟩|⟨_,rfl,z,_⟩|⟨_,rfl,z,_⟩
   ·rw[e];exact hi.ef k r o
   ·rw[z];exact⟨rfl,rfl⟩
   ·rw[z];exact⟨rfl,rfl⟩
  ·rw[a6,vs2] at h;rw[a7,V2];exact hi.vf p v h
 refine⟨inv,?_,?_,?_,?_,?_,?_,?_,?_,?_⟩
 ·rw[a1,a5];exact f1
 ·rw[a2,a5,<-hq'];exact g2.here
 ·rw[a1,Esq];exact sf
 ·rw[a2,Esq,g2.sq,hq']
 ·rw[a1,a2,Ef]
 ·rw[a1,a2,Eg]
 ·rw[a1,a2];exact hfg
 ·rw[a1,a3];exact(a9 _ _).2 (.inr (.inl ⟨rfl,rfl⟩))
 ·rw[a2,a4];exact(a9 _ _).2 (.inr (.inr ⟨rfl,rfl⟩))
theorem agG {l:List Pt} {x:FN} (h:XK S l x):Inv (S++[(l,true)]) (oF x):=by
 obtain⟨hi,fw,rv,sf,sr,tf,tr,ne,mf,mr⟩:=h;have hE:∀j,(oF x).E j=if j=x.fw\/j=x.rv then{x.d.E j with a:=true} else x.d.E j:=λj=>by
  simp only[oF,kl,SE];by_cases e1:j=x.rv
  ·subst e1;by_cases e2:x.rv=x.fw
   ·exact absurd e2.symm ne
   ·simp[e2]
  ·by_cases e2:j=x.fw
   ·subst e2;simp[e1]
   ·simp[e1,e2]
 have hV:∀j,(oF x).V j=if j=x.sv\/j=x.ev then{x.d.V j with a:=true} else x.d.V j:=λj=>by
  simp only[oF,SN,Ew];by_cases e1:j=x.ev
  ·subst e1;by_cases e2:x.ev=x.sv
   ·simp[e2]
   ·simp[e2]
  ·by_cases e2:j=x.sv
   ·subst e2;simp[e1]
   ·simp[e1,e2]
 have hhs:(oF x).hs=x.d.hs:=rfl;have hvs:(oF x).vs=x.d.vs:=rfl;have hM:(oF x).M=x.d.M:=rfl;have sq:∀j,((oF x).E j).sq=(x.d.E j).sq:=λj=>by rw[hE];split<;>rfl
 have tw:∀j,((oF x).E j).tw=(x.d.E j).tw:=λj=>by rw[hE];split<;>rfl
 have og:∀j,((oF x).E j).org=(x.d.E j).org:=λj=>by rw[hE];split<;>rfl
 have ha:∀j,((oF x).E j).a=true↔((j=x.fw\/j=x.rv)\/(x.d.E j).a=true):=λj=>by
  rw[hE];split
  ·rename_i hh;simp[hh]
  ·rename_i hh;simp[hh]
 refine⟨by rw[hhs];exact hi.nd,by rw[hhs];exact hi.kn,λk r h=>?_,λk r h=>?_,λk r h=>?_,λk r h=>?_,λp v h r hr=>?_,λp v h=>?_,λs b h=>?_,λk r h h1=>?_,λp v h h1=>?_,λk r h=>?_,λp v h=>?_⟩
 ·rw[hhs] at h;rw[sq];exact hi.key k r h
 ·rw[hhs] at h;rw[sq];obtain⟨s,b,hs,hh⟩:=hi.src k r h;rcases bB.1 hs with hs|hs
  ·exact⟨s,b,bq _ hs,hh⟩
  ·simp at hs;obtain⟨rfl,rfl⟩:=hs;exact⟨s,true,bI _ (.head _),hh⟩
 ·rw[hhs] at h ⊢;obtain⟨k',r',m',t1,t2,s1,fl⟩:=hi.tw k r h;refine⟨k',r',m',by rw[tw];exact t1,by rw[tw];exact t2,by rw[sq,sq];exact s1,?_⟩;have hb:(r'=x.fw\/r'=x.rv)↔(r=x.fw\/r=x.rv):=by
   constructor
   ·rintro(rfl|rfl)
    ·rw[tf] at t2;exact .inr (iD t2).symm
    ·rw[tr] at t2;exact .inl (iD t2).symm
   ·rintro(rfl|rfl)
    ·rw[tf] at t1;exact .inr (iD t1).symm
    ·rw[tr] at t1;exact .inl (iD t1).symm
  rw[hE,hE];by_cases hh:r=x.fw\/r=x.rv
  ·rw[if_pos hh,if_pos (hb.2 hh)]
  ·rw[if_neg hh,if_neg (λy=>hh (hb.1 y))];exact fl
 ·rw[hhs] at h;rw[hvs,hM];obtain⟨v,v1,v2,v3⟩:=hi.org k r h;exact⟨v,v1,by rw[og];exact v2,v3⟩
 ·rw[hvs] at h;rw[hM] at hr;rw[hhs];obtain⟨k,o,ho⟩:=hi.inc p v h r hr;exact⟨k,o,by rw[og];exact ho⟩
 ·rw[hvs] at h;rw[hM];exact hi.mn p v h
 ·rw[hhs];rcases bB.1 h with h|h
  ·obtain⟨r,hr,hb⟩:=hi.all s b (bq _ h);exact⟨r,hr,λe=>(ha r).2 (.inr (hb e))⟩
  ·simp at h;obtain⟨rfl,rfl⟩:=h;exact⟨x.fw,fw,λ_=>(ha _).2 (.inl (.inl O))⟩
 ·rw[hhs] at h;rw[sq];rcases(ha r).1 h1 with(rfl|rfl)|h1
  ·exact⟨l,bI _ (.head _),.inl sf⟩
  ·exact⟨l,bI _ (.head _),.inr sr⟩
  ·obtain⟨s,hs,hh⟩:=hi.a2 k r h h1;rcases bB.1 hs with hs|hs
   ·exact⟨s,bq _ hs,hh⟩
   ·simp at hs
 ·rw[hvs] at h;rw[hM];by_cases e1:v=x.sv
  ·subst e1;exact⟨x.fw,mf,(ha _).2 (.inl (.inl rfl))⟩
  ·by_cases e2:v=x.ev
   ·subst e2;exact⟨x.rv,mr,(ha _).2 (.inl (.inr rfl))⟩
   ·rw[hV,if_neg (λy=>y.elim e1 e2)] at h1;obtain⟨r,hr,hra⟩:=hi.va p v h h1;exact⟨r,hr,(ha r).2 (.inr hra)⟩
 ·rw[hhs] at h;rw[hE];split<;>exact hi.ef k r h
 ·rw[hvs] at h;rw[hV];split<;>exact hi.vf p v h
theorem TP {d:DS} {v:Nat} {a b:Bool} (hi:Inv S d):Inv S (d.modV v (ph a b)):=by
 have hV:∀j,((d.modV v (ph a b)).V j).a=(d.V j).a/\((d.modV v (ph a b)).V j).s=(d.V j).s/\((d.modV v (ph a b)).V j).x=(d.V j).x/\((d.modV v (ph a b)).V j).co=(d.V j).co:=λj=>by
  simp only[DS.modV];split
  ·rename_i h;subst h;exact⟨rfl,rfl,rfl,rfl⟩
  ·exact⟨O,O,O,O⟩
 exact⟨hi.nd,hi.kn,hi.key,hi.src,hi.tw,hi.org,hi.inc,hi.mn,hi.all,hi.a2,λp w h ha=>hi.va p w h (by rw[<-(hV w).1];exact ha),hi.ef,λp w h=>by rw[(hV w).2.1,(hV w).2.2.1,(hV w).2.2.2];exact hi.vf p w h⟩
theorem agH (ok:kP lines X) {d d':DS} {l:List Pt} {b:Bool} (hi:Inv S d) (hS:∀s b,(s,b)∈S->dR lines X s) (hl:dR lines X l) (h:wW b d l d'):Inv (S++[(l,b)]) d':=by
 cases h with
 |ghost h1 h2 h3 h4 h5=>exact(TQ ok hi hS hl h1 h2 h3 h4 h5).inv
 |src a b c e h1 h2 h3 h4 h5=>exact TP (TP (agG (TQ ok hi hS hl h1 h2 h3 h4 h5)))
end Go.Proofs
namespace Go.Proofs
open Go.V Go.Edges
def xO (d:DS) (ei ej:Nat):DS:=
 let d1:=d.modE ei λe=>{e with pv:=(d.E ej).tw}
 match (d1.E ej).tw with
 |some t=>d1.modE t λe=>{e with nx:=some ei}
 |none=>d1
def mZ (d:DS) (l:List Nat):Nat->DS
 |0=>d
 |i+1=>xO (mZ d l i) (l.getD i 0) (l.getD ((i+1)%l.length) 0)
structure yY (e e':cq):Prop where
 org:e'.org=e.org
 tw:e'.tw=e.tw
 inc:e'.inc=e.inc
 sq:e'.sq=e.sq
 a:e'.a=e.a
 s:e'.s=e.s
 x:e'.x=e.x
structure qx (d d':DS):Prop where
 hs:d'.hs=d.hs
 vs:d'.vs=d.vs
 V:d'.V=d.V
 M:d'.M=d.M
 fc:d'.fc=d.fc
 dr:d'.dr=d.dr
 hm:d'.hm=d.hm
 vm:d'.vm=d.vm
 E:∀j,yY (d.E j) (d'.E j)
theorem yY.refl (e:cq):yY e e:=⟨rfl,rfl,rfl,rfl,rfl,rfl,rfl⟩
theorem yY.trans {a b c:cq} (h:yY a b) (k:yY b c):yY a c:=⟨k.org.trans h.org,k.tw.trans h.tw,k.inc.trans h.inc,k.sq.trans h.sq,k.a.trans h.a,k.s.trans h.s,k.x.trans h.x⟩
theorem qx.refl (d:DS):qx d d:=⟨rfl,rfl,rfl,rfl,rfl,rfl,rfl,rfl,λj=> .refl _⟩
theorem qx.trans {a b c:DS} (h:qx a b) (k:qx b c):qx a c:=⟨k.hs.trans h.hs,k.vs.trans h.vs,k.V.trans h.V,k.M.trans h.M,k.fc.trans h.fc,k.dr.trans h.dr,k.hm.trans h.hm,k.vm.trans h.vm,λj=>(h.E j).trans (k.E j)⟩
theorem Rv {d:DS} {r:Nat} {g:cq->cq} (hg:yY (d.E r) (g (d.E r))):qx d (d.modE r g):=⟨rfl,rfl,rfl,rfl,rfl,rfl,rfl,rfl,λj=>by
 simp only[DS.modE];split
 ·rename_i h;subst h;exact hg
 ·exact .refl _⟩
theorem ai8 (d:DS) (ei ej:Nat):qx d (xO d ei ej):=by
 unfold xO;dsimp only;have h1:qx d (d.modE ei λe=>{e with pv:=(d.E ej).tw}):=Rv ⟨rfl,rfl,rfl,rfl,rfl,rfl,rfl⟩;split
 ·exact h1.trans (Rv ⟨O,O,O,O,O,O,O⟩)
 ·exact h1
theorem Aw (d:DS) (l:List Nat):∀i,qx d (mZ d l i)
 |0=> .refl _
 |i+1=>(Aw d l i).trans (ai8 _ _ _)
theorem ai9 {d:DS} {ei ej t:Nat} (ht:(d.E ej).tw=some t):
  (∀j,((xO d ei ej).E j).pv=if j=ei then some t else(d.E j).pv)/\(∀j,((xO d ei ej).E j).nx=if j=t then some ei else(d.E j).nx):=by
 have h1:((d.modE ei λe=>{e with pv:=(d.E ej).tw}).E ej).tw=some t:=by
  simp only[DS.modE];split
  ·rename_i h;subst h;exact ht
  ·exact ht
 unfold xO;dsimp only;rw[h1];constructor
 ·intro j;simp only[DS.modE];by_cases e1:j=t
  ·subst e1;rw[if_pos rfl];by_cases e2:j=ei
   ·simp[e2,ht]
   ·simp[e2]
  ·rw[if_neg e1];by_cases e2:j=ei
   ·simp[e2,ht]
   ·simp[e2]
 ·intro j;simp only[DS.modE];by_cases e1:j=t
  ·subst e1;simp
  ·rw[if_neg e1,if_neg e1];by_cases e2:j=ei
   ·subst e2;simp
   ·simp[e2]
structure IT (d:DS) (l:List Nat):Prop where
 pv:∀i,i<l.length->∀t,(d.E (l.getD ((i+1)%l.length) 0)).tw=some t->(d.E (l.getD i 0)).pv=some t
 nx:∀i,i<l.length->∀t,(d.E (l.getD ((i+1)%l.length) 0)).tw=some t->(d.E t).nx=some (l.getD i 0)
theorem abG {n i j:Nat} (hi:i<n) (hj:j<n) (h:(i+1)%n=(j+1)%n):i=j:=by
 by_cases e1:i+1=n
 ·by_cases e2:j+1=n
  ·omega
  ·rw[e1,Nat.mod_self,uC aa] at h;omega
 ·by_cases e2:j+1=n
  ·rw[e2,Nat.mod_self,uC aa] at h;omega
  ·rw[uC aa,uC aa] at h;omega
theorem Nq {l:List Nat} (hn:l.Nodup) {i j:Nat} (hi:i<l.length) (hj:j<l.length) (h:l.getD i 0=l.getD j 0):i=j:=by
 simp only[j7,aG hi,aG hj,mM] at h;exact(List.getElem_inj hn).1 h
theorem yN {l:List Nat} {i:Nat} (hi:i<l.length):l.getD i 0∈l:=by
 simp only[j7,aG hi,mM];exact zK hi
theorem ai4 {d:DS} {l:List Nat} (hn:l.Nodup) (ht:∀e∈l,∃t,(d.E e).tw=some t) (hinj:∀e∈l,∀e'∈l,(d.E e).tw=(d.E e').tw->e=e'):
  IT (mZ d l l.length) l/\(∀j,j∉l->((mZ d l l.length).E j).pv=(d.E j).pv)/\(∀j,(∀e∈l,(d.E e).tw≠some j)->((mZ d l l.length).E j).nx=(d.E j).nx):=by
 have key:∀k,k<=l.length->
   (∀i,i<k->∀t,(d.E (l.getD ((i+1)%l.length) 0)).tw=some t->((mZ d l k).E (l.getD i 0)).pv=some t/\((mZ d l k).E t).nx=some (l.getD i 0))/\
   (∀j,j∉l->((mZ d l k).E j).pv=(d.E j).pv)/\(∀j,(∀e∈l,(d.E e).tw≠some j)->((mZ d l k).E j).nx=(d.E j).nx):=by
  intro k
  induction k with
  |zero=>intro _;exact⟨λi hi=>absurd hi (iZ _),λ_ _=>rfl,λ_ _=>rfl⟩
  |succ k ih=>
   intro hk;obtain⟨h1,h2,h3⟩:=ih aa;have hkm:(k+1)%l.length<l.length:=nI _ aa;obtain⟨t,htt⟩:=ht _ (yN hkm);have htt':((mZ d l k).E (l.getD ((k+1)%l.length) 0)).tw=some t:=by rw[((Aw d l k).E _).tw];exact htt
   obtain⟨f1,f2⟩:=ai9 (ei:=l.getD k 0) htt';have e:mZ d l (k+1)=xO (mZ d l k) (l.getD k 0) (l.getD ((k+1)%l.length) 0):=rfl;rw[e];refine⟨λi hi u hu=>?_,λj hj=>?_,λj hj=>?_⟩
   ·rw[f1,f2];by_cases e1:i=k
    ·subst e1;rw[htt] at hu;have:=iD hu;subst this;exact⟨if_pos O,if_pos O⟩
    ·obtain⟨g1,g2⟩:=h1 i aa u hu;have hne:l.getD i 0≠l.getD k 0:=λh=>e1 (Nq hn aa aa h);have him:(i+1)%l.length<l.length:=nI _ aa;have hnu:u≠t:=by
      intro h;subst h;have:=hinj _ (yN him) _ (yN hkm) (by rw[hu,htt]);exact e1 (abG aa aa (Nq hn him hkm this))
     rw[if_neg hne,if_neg hnu];exact⟨g1,g2⟩
   ·rw[f1,if_neg (λh=>hj (by rw[h];exact yN aa))];exact h2 j hj
   ·rw[f2,if_neg (λh=>hj _ (yN hkm) (by rw[h];exact htt))];exact h3 j hj
 obtain⟨h1,h2,h3⟩:=key l.length (bg _);have hs:=Aw d l l.length;refine⟨⟨λi hi t hh=>?_,λi hi t hh=>?_⟩,h2,h3⟩
 ·rw[(hs.E _).tw] at hh;exact(h1 i hi t hh).1
 ·rw[(hs.E _).tw] at hh;exact(h1 i hi t hh).2
def JO (d:DS) (v:Nat) (d':DS):Prop:=∃l:List Nat,l.Perm (d.M v)/\d'=mZ d l l.length
inductive uu:DS->List Nat->DS->Prop where
 |nil {d}:uu d [] d
 |cons {d m d' v l}:JO d v m->uu m l d'->uu d (v::l) d'
theorem uu.snoc {d m d':DS} {l:List Nat} {v:Nat} (h:uu d l m) (k:JO m v d'):uu d (l++[v]) d':=by
 induction h with
 |nil=>exact .cons k .nil
 |cons a _ ih=>exact .cons a (ih k)
theorem uu.same {d d':DS} {l:List Nat} (h:uu d l d'):qx d d':=by
 induction h with
 |nil=>exact .refl _
 |cons a _ ih=>obtain⟨l,_,rfl⟩:=a;exact(Aw _ _ _).trans ih
structure vb (d:DS):Prop where
 nx:∀k h,(k,h)∈d.hs->∃e k' t,(d.E h).nx=some e/\(k',e)∈d.hs/\(d.E h).tw=some t/\(d.E e).org=(d.E t).org
 inj:∀k h k' h',(k,h)∈d.hs->(k',h')∈d.hs->(d.E h).nx=(d.E h').nx->h=h'
 pv:∀k e,(k,e)∈d.hs->∃h k' t,(d.E e).pv=some h/\(k',h)∈d.hs/\(d.E h).tw=some t/\(d.E t).org=(d.E e).org
def Fh (d:DS) (v:Nat):Prop:=∃l:List Nat,l.Perm (d.M v)/\IT d l
theorem Qt {S:List (List Pt×Bool)} {d:DS} (hi:Inv S d) {k k':PP} {e e':Nat} (h:(k,e)∈d.hs) (h':(k',e')∈d.hs) (ht:(d.E e).tw=(d.E e').tw):e=e':=by
 obtain⟨_,t,_,t1,t2,_⟩:=hi.tw k e h;obtain⟨_,t',_,t1',t2',_⟩:=hi.tw k' e' h';rw[t1,t1'] at ht;have:=iD ht;subst this;rw[t2] at t2';exact iD t2'
theorem MT {S:List (List Pt×Bool)} {d d':DS} (hi:Inv S d) (h:qx d d'):Inv S d':=by
 have hE:=h.E;refine⟨by rw[h.hs];exact hi.nd,by rw[h.hs];exact hi.kn,λk r hh=>?_,λk r hh=>?_,λk r hh=>?_,λk r hh=>?_,λp v hh r hr=>?_,λp v hh=>?_,λs b hh=>?_,λk r hh ha=>?_,λp v hh ha=>?_,λk r hh=>?_,λp v hh=>?_⟩
 ·rw[h.hs] at hh;rw[(hE r).sq];exact hi.key k r hh
 ·rw[h.hs] at hh;rw[(hE r).sq];exact hi.src k r hh
 ·rw[h.hs] at hh ⊢;obtain⟨k',r',m',t1,t2,s1,fl⟩:=hi.tw k r hh;exact⟨k',r',m',by rw[(hE r).tw];exact t1,by rw[(hE r').tw];exact t2,by rw[(hE r').sq,(hE r).sq];exact s1,by rw[(hE r').a,(hE r).a];exact fl⟩
 ·rw[h.hs] at hh;rw[h.vs,h.M,(hE r).org];exact hi.org k r hh
 ·rw[h.vs] at hh;rw[h.M] at hr;rw[h.hs];obtain⟨k,o,ho⟩:=hi.inc p v hh r hr;exact⟨k,o,by rw[(hE r).org];exact ho⟩
 ·rw[h.vs] at hh;rw[h.M];exact hi.mn p v hh
 ·rw[h.hs];obtain⟨r,hr,hb⟩:=hi.all s b hh;exact⟨r,hr,λe=>by rw[(hE r).a];exact hb e⟩
 ·rw[h.hs] at hh;rw[(hE r).a] at ha;rw[(hE r).sq];exact hi.a2 k r hh ha
 ·rw[h.vs] at hh;rw[h.V] at ha;rw[h.M];obtain⟨r,hr,hra⟩:=hi.va p v hh ha;exact⟨r,hr,by rw[(hE r).a];exact hra⟩
 ·rw[h.hs] at hh;rw[(hE r).s,(hE r).x];exact hi.ef k r hh
 ·rw[h.vs] at hh;rw[h.V];exact hi.vf p v hh
theorem ai3 {S:List (List Pt×Bool)} {d d':DS} {l:List Nat} (h:uu d l d') (hi:Inv S d) (hl:∀v∈l,∃p,(p,v)∈d.vs) (hn:l.Nodup):∀(W:List Nat),(∀v∈W,∃p,(p,v)∈d.vs)->(∀v∈W,Fh d v)->(∀v∈W,v∉l)->∀v,v∈W\/v∈l->Fh d' v:=by
 induction h with
 |nil=>
  intro W _ hW _ v hv;exact hv.elim (hW v) (λh=>nomatch h)
 |@cons d m d' v l hv _ ih=>
  intro W hWv hW hWl u hu;have hn':=la.1 hn;obtain⟨p0,hp0⟩:=hl v (.head _);obtain⟨o,ho,rfl⟩:=hv;have hsame:=Aw d o o.length;have hio:=hi.inc p0 v hp0;have hmo:∀e,e∈o->∃k,(k,e)∈d.hs/\(d.E e).org=some v:=λe he=>hio e (ho.mem_iff.1 he);obtain⟨r1,r2,r3⟩:=ai4 (d:=d) (l:=o) (ho.nodup_iff.2 (hi.mn _ _ hp0)) (λe he=>by
    obtain⟨k,hk,_⟩:=hmo e he;obtain⟨_,t,_,t1,_⟩:=hi.tw k e hk;exact⟨t,t1⟩) (λe he e' he' ht=>by
    obtain⟨k,hk,_⟩:=hmo e he;obtain⟨k',hk',_⟩:=hmo e' he';exact Qt hi hk hk' ht)
  have keep:∀w,w≠v->(∃p,(p,w)∈d.vs)->Fh d w->Fh (mZ d o o.length) w:=by
   intro w hwv ⟨pw,hpw⟩ ⟨lw,hlw,hr⟩;have hmw:∀i,i<lw.length->∃k,(k,lw.getD i 0)∈d.hs/\(d.E (lw.getD i 0)).org=some w:=λi hi'=>hi.inc pw w hpw _ (hlw.mem_iff.1 (yN hi'));refine⟨lw,by rw[hsame.M];exact hlw,⟨λi hi' t ht=>?_,λi hi' t ht=>?_⟩⟩
   ·rw[(hsame.E _).tw] at ht;rw[r2 _ (λhin=>?_)]
    ·exact hr.pv i hi' t ht
    ·obtain⟨k,hk,hko⟩:=hmw i hi';obtain⟨k',hk',hko'⟩:=hmo _ hin;rw[hko] at hko';exact hwv (iD hko')
   ·rw[(hsame.E _).tw] at ht;rw[r3 _ (λe he hte=>?_)]
    ·exact hr.nx i hi' t ht
    ·have him:(i+1)%lw.length<lw.length:=nI _ aa;obtain⟨k,hk,hko⟩:=hmw _ him;obtain⟨k',hk',hko'⟩:=hmo e he;have:=Qt hi hk hk' (by rw[ht,hte]);rw[this,hko'] at hko;exact hwv (iD hko).symm
  refine ih (MT hi hsame) (λw hw=>by rw[hsame.vs];exact hl w (.tail _ hw)) hn'.2 (v::W) (λw hw=>?_) (λw hw=>?_) (λw hw=>?_) u ?_
  ·rw[hsame.vs];rcases bm.1 hw with rfl|hw
   ·exact⟨p0,hp0⟩
   ·exact hWv w hw
  ·rcases bm.1 hw with rfl|hw
   ·exact⟨o,by rw[hsame.M];exact ho,r1⟩
   ·exact keep w (λe=>hWl w hw (by rw[e];exact .head _)) (hWv w hw) (hW w hw)
  ·rcases bm.1 hw with rfl|hw
   ·exact hn'.1
   ·exact λh=>hWl w hw (.tail _ h)
  ·rcases hu with hu|hu
   ·exact .inl (.tail _ hu)
   ·rcases bm.1 hu with rfl|hu
    ·exact .inl (.head _)
    ·exact .inr hu
theorem YL {S:List (List Pt×Bool)} {d:DS} (hi:Inv S d) (hr:∀p v,(p,v)∈d.vs->Fh d v):vb d:=by
 have pos:∀k e,(k,e)∈d.hs->∃(v:Nat) (p:Pt) (l:List Nat) (i:Nat),(p,v)∈d.vs/\(d.E e).org=some v/\l.Perm (d.M v)/\IT d l/\i<l.length/\l.getD i 0=e:=by
  intro k e h;obtain⟨v,v1,v2,v3⟩:=hi.org k e h;have hv:=Bv v1;obtain⟨l,hl,hring⟩:=hr _ v hv;obtain⟨i,hi'⟩:=lg (hl.mem_iff.2 v3);have hlt:=da hi';exact⟨v,_,l,i,hv,v2,hl,hring,hlt,by simp[j7,hi']⟩
 have mem:∀(p:Pt) (v:Nat) (l:List Nat) (i:Nat),(p,v)∈d.vs->l.Perm (d.M v)->i<l.length->∃k,(k,l.getD i 0)∈d.hs/\(d.E (l.getD i 0)).org=some v:=λp v l i hp hl hlt=>hi.inc p v hp _ (hl.mem_iff.1 (yN hlt));have prev:∀n i,i<n->∃j,j<n/\(j+1)%n=i:=by
  intro n i h;rcases i with _|i
  ·exact⟨n-1,aa,by rw[Pw aa,Nat.mod_self]⟩
  ·exact⟨i,aa,uC h⟩
 have nxt:∀k h,(k,h)∈d.hs->∃(t v:Nat) (p:Pt) (l:List Nat) (j:Nat),(d.E h).tw=some t/\(d.E t).tw=some h/\(p,v)∈d.vs/\(d.E t).org=some v/\l.Perm (d.M v)/\IT d l/\j<l.length/\l.getD ((j+1)%l.length) 0=t/\(d.E h).nx=some (l.getD j 0):=by
  intro k h hh;obtain⟨k',t,mt,t1,t2,_⟩:=hi.tw k h hh;obtain⟨v,p,l,i,hv,ho,hl,hring,hlt,he⟩:=pos k' t mt;obtain⟨j,hj,hji⟩:=prev _ i hlt;exact⟨t,v,p,l,j,t1,t2,hv,ho,hl,hring,hj,by rw[hji];exact he,hring.nx j hj h (by rw[hji,he];exact t2)⟩
 refine⟨λk h hh=>?_,λk h k' h' hh hh' hnx=>?_,λk e hh=>?_⟩
 ·obtain⟨t,v,p,l,j,t1,t2,hv,ho,hl,hring,hj,he,hn⟩:=nxt k h hh;obtain⟨k',m',o'⟩:=mem p v l j hv hl hj;exact⟨_,k',t,hn,m',t1,by rw[o',ho]⟩
 ·obtain⟨t,v,p,l,j,t1,t2,hv,ho,hl,hring,hj,he,hn⟩:=nxt k h hh;obtain⟨t',v',p',l',j',t1',t2',hv',ho',hl',hring',hj',he',hn'⟩:=nxt k' h' hh';obtain⟨_,m1,o1⟩:=mem p v l j hv hl hj;obtain⟨_,m2,o2⟩:=mem p' v' l' j' hv' hl' hj';rw[hn,hn'] at hnx;have e0:=iD hnx;rw[e0,o2] at o1;have:=iD o1;subst this;have e1:=hring.nx j hj h (by rw[he];exact t2);have hmem:l'.getD ((j'+1)%l'.length) 0∈l:=hl.mem_iff.2 (hl'.mem_iff.1 (yN (nI _ aa)));obtain⟨i,hi'⟩:=lg hmem;have hlt:=da hi';have hie:l.getD i 0=t':=by rw[j7,hi',mM,he']
  obtain⟨jj,hjj,hjji⟩:=prev _ i hlt;have e2:=hring.nx jj hjj h' (by rw[hjji,hie];exact t2');rw[hn',e0.symm] at e2;have e3:=Nq (hl.nodup_iff.2 (hi.mn _ _ hv)) hj hjj (iD e2);subst e3;rw[hjji,hie] at he;subst he;rw[t2] at t2';exact iD t2'
 ·obtain⟨v,p,l,i,hv,ho,hl,hring,hlt,he⟩:=pos k e hh;have him:(i+1)%l.length<l.length:=nI _ aa;obtain⟨k',m',o'⟩:=mem p v l _ hv hl him;obtain⟨k2,t,mt,t1,t2,_⟩:=hi.tw k' _ m';have:=hring.pv i hlt t t1;rw[he] at this;exact⟨t,k2,_,this,mt,t2,by rw[o',ho]⟩
end Go.Proofs
namespace Go.Proofs
open Tryz
open Go.V
variable {q:Sq} {p:Option Addr} {l:List Pt} {cp:Nat} {x:Pt} {lss:List (List Pt)} {gs:List GM} {g:GM} {v:Value}
abbrev Ec (x:Pt):Value:= .agg #[aw x.1,aw x.2,aw 0,aw 0,.int .u8 0,.bool true]
theorem Sw:ai prog 101 [.agg (Wd x).toArray].toArray [] [] (Is (Ec x)):=by
 refine am func101 λ_=>(au) ?_;intro _;refine(aq) ?_;intro _;exact(eZ)<|(I3)<|sM
theorem Lr:ai prog 120 [Ec x].toArray [] [] (Is (.tuple #[pv x,.bool true])):=by
 refine am func120 λ_=>(au) ?_;intro r1;refine(aq) ?_;intro r2;refine(bR) ?_;refine dl (r:=r1) tA<|(JH)<|(zx)<|(zx) ?_;refine cC O (aK ab O O O (jp (k:=0) (m:=2) (aR (xs:=[aw x.1,aw x.2,aw 0,aw 0,.int .u8 0,.bool true]) mA)) O O)<|(zx) ?_;refine cC O (az ab O O O (cY (j:=5) (aR (xs:=[aw x.1,aw x.2,aw 0,aw 0,.int .u8 0,.bool true]) mA) O) O)<|(dT)<|(de) ?_;refine mj (.norm ⟨⟨undef,O⟩,(um)<|cV⟩)
theorem QU (h:l[0]? =some x):ai prog 117 [jF p l cp].toArray [gF p l cp] [] (Is (Ec x)):=by
 have hl:=da h;refine am func117 λ_=>(au) ?_;intro _;refine(aq) ?_;intro _;refine(cn)<|(cR)<|aj eA call115 (EA (q:=⟨p,l,cp⟩))<|(aN) ?_;refine gz O (λhc5=>absurd hc5 (by have:=of_decide_eq_true hc5;simp only at this;omega)) (λhc5=>(bX)<|(ba)<|(eK)<|aj eA call102 (H0 (i:=0) h)<|(aq) ?_);intro _;exact(ug)<|(I3)<|aj eA call101 (Sw)<|rN
theorem ajD (h:l[l.length-1]? =some x):ai prog 118 [jF p l cp].toArray [gF p l cp] [] (Is (Ec x)):=by
 have hl:=da h;refine tu (.head _) (λ_ h=>(uX h).2) λhb=>?_;simp only[maxLen] at hb;refine am func118 λ_=>(au) ?_;intro _;refine(aq) ?_;intro _;refine(cn)<|(cR)<|aj eA call115 (EA (q:=⟨p,l,cp⟩))<|(aN) ?_;refine gz O (λhc6=>absurd hc6 (by have:=of_decide_eq_true hc6;simp only at this;omega)) (λhc6=>(bX)<|(ba)<|(eK)<|(Ji) ?_);refine ew (m:=((l.length-1:Nat):Int)) O O aa iA O<|(fo)<|(eK)<|(aB)<|aj eA call102 (H0 h)<|(aq) ?_;intro _;exact(ug)<|(I3)<|aj eA call101 (Sw)<|rN
end Go.Proofs
namespace Go.Proofs
open Tryz
open Go.V Go.Edges
theorem Vv {a b:Pt} (ha:b6 a) (hb:b6 b) (w:World):(Op.equalIn 10000 79 (pv a) (pv b)).run prog w= .ok (decide (a=b)) w:=by
 have:=qo 9998 w a.1 a.2 b.1 b.2;have e:(decide (a.1=b.1)&&decide (a.2=b.2))=decide (a=b):=by rw[Bool.eq_iff_iff];simp[PK]
 rw[tK ha.1 hb.1,tK ha.2 hb.2,e] at this;exact this
theorem ajz (d:Nat) (w:World) (a b x y a' b' x' y':Nat):(Op.equalIn (d+3) 434 (tq a b x y) (tq a' b' x' y')).run prog w= .ok ((cX a a'&&cX b b')&&(cX x x'&&cX y y')) w:=by
 have a3:=Tryz.isAgg79;have z3:=Tryz.sizeOf79;have hS:prog.underlying 434=some (.struct (prog.fieldsOf 434)):=by kernel_rfl
 have hp:prog.stoodInHeld 434=false:=by kernel_rfl
 have e:=qo d;unfold xy at e;unfold tq;rw[run_equalIn_agg w (d+2) 434 _ _ hS hp];simp only[Program.fieldsOf,Tryz.underlying434];simp[Op.eqFields,part,a3,z3,e,bo,PG];cases cX a a'<;>cases cX b b'<;>cases cX x x'<;>cases cX y y'<;>simp
theorem ahy:prog.eqGuardType prog.depth 434=false:=by kernel_rfl
theorem ajy {a b:PP} (ha:b6 a.1/\b6 a.2) (hb:b6 b.1/\b6 b.2) (w:World):(Op.equalIn 10000 434 (lr a) (lr b)).run prog w= .ok (decide (a=b)) w:=by
 have:=ajz 9997 w a.1.1 a.1.2 a.2.1 a.2.2 b.1.1 b.1.2 b.2.1 b.2.2;rw[tK ha.1.1 hb.1.1,tK ha.1.2 hb.1.2,tK ha.2.1 hb.2.1,tK ha.2.2 hb.2.2] at this;have e:((decide (a.1.1=b.1.1)&&decide (a.1.2=b.1.2))&&(decide (a.2.1=b.2.1)&&decide (a.2.2=b.2.2)))=decide (a=b):=by rw[Bool.eq_iff_iff];simp[PK]
 rw[e] at this;exact this
def db (a b:Pt):PP:=if jc b a=true then(b,a) else(a,b)
theorem Wt (a b:Pt):db a b=(a,b)\/db a b=(b,a):=by
 unfold db;split
 ·exact .inr O
 ·exact .inl O
theorem Ao {κ:Type} [DecidableEq κ] {K:κ->Value} (hK:∀a b,K a=K b->a=b) (c:Value) (l:List κ) (k:κ):jS (l.map λe=>(K e,c)) (K k) c=(fX l k).map λe=>(K e,c):=by
 unfold fX;by_cases h:k∈l
 ·rw[if_pos h];have:∀l:List κ,k∈l->jS (l.map λe=>(K e,c)) (K k) c=l.map λe=>(K e,c):=by
   intro l h
   induction l with
   |nil=>cases h
   |cons a l ih=>
    by_cases ha:k=a
    ·subst ha;simp[jS]
    ·have hm:k∈l:=by rcases bm.1 h with h|h;exact absurd h ha;exact h
     have:=ih hm;simp only[dV,jS] at this ⊢;have hne:¬K k=K a:=λx=>ha (hK _ _ x);simp only[hne,if_false,this]
  exact this l h
 ·rw[if_neg h];have hg:fe (l.map λe=>(K e,c)) (K k)=none:=by
   have:=Ap (K:=K) (V:=λ_:Unit=>c) hK (l.map λe=>(e,())) k;simp only[w8,uG] at this;rw[this];have:(l.map λe=>(e,())).find? (λx=>decide (x.1=k))=none:=by
    simp only[zQ,aM];rintro _ ⟨b,hb,rfl⟩ hd;have:b=k:=by simpa using hd
    subst this;exact h hb
   rw[this];rfl
  rw[EE _ _ _ (MB hg)];simp
abbrev CB (l:List (Pt×PP)):List (Value×Value):=l.map λe=>(pv e.1,lr e.2)
abbrev fV (l:List Pt):List (Value×Value):=l.map λx=>(pv x,.agg #[])
theorem Ob (l:List (Pt×PP)) (k:Pt):fe (CB l) (pv k)=(qk l k).map lr:=by
 rw[Ap yu];simp only[qk,Py,uG]
abbrev nY (ra rx:Nat) (st:IS Pt):List ae:=[(ra,bW (CB st.adj)),(rx,bW (fV st.X))]
structure mK (st:IS Pt):Prop where
 adj:∀e∈st.adj,b6 e.1/\b6 e.2.1/\b6 e.2.2
 X:∀x∈st.X,b6 x
theorem BY {Fs:List an} {L:List ae} {k:Pt} {l:List Pt} (hk:b6 k) (h:∀x∈l,b6 x):sZ MK Fs L (pv k::(fV l).map (·.1)):=λ_ _ _ _ u hu=>by
 rcases bm.1 hu with rfl|hm
 ·exact⟨_,_,O,hk⟩
 ·rw[w8] at hm;obtain⟨e,he,rfl⟩:=aM.1 hm;exact⟨_,_,O,h e he⟩
theorem Es {l:List Pt} {p:Pt} (h:∀x∈l,b6 x) (hp:b6 p):∀x∈fX l p,b6 x:=λx hx=>by
 rcases qd.1 hx with hx|rfl
 ·exact h x hx
 ·exact hp
theorem Wu {a b:Pt} (ha:b6 a) (hb:b6 b):b6 (db a b).1/\b6 (db a b).2:=by
 rcases Wt a b with h|h<;>rw[h]
 ·exact⟨ha,hb⟩
 ·exact⟨hb,ha⟩
theorem TZ {st:IS Pt} {l:List Pt} (h:mK st) (hl:∀x∈l,b6 x):mK (qS st l):=by
 unfold qS;split
 ·rename_i a z ha hz;exact⟨h.adj,Es (Es h.X (hl _ (List.mem_of_mem_head? (by rw[ha];rfl)))) (hl _ (J9 hz))⟩
 ·exact h
theorem agQ {st:IS Pt} {a p b:Pt} (h:mK st) (ha:b6 a) (hp:b6 p) (hb:b6 b):mK (qh db st a p b):=by
 unfold qh;split
 ·exact⟨h.adj,Es h.X hp⟩
 ·split
  ·split
   ·exact h
   ·exact⟨h.adj,Es h.X hp⟩
  ·refine⟨λe he=>?_,h.X⟩;rcases bB.1 he with he|he
   ·exact h.adj e he
   ·simp at he;subst he;exact⟨hp,Wu ha hb⟩
theorem MU {st:IS Pt} {l:List Pt} (h:mK st) (hl:∀x∈l,b6 x):∀k,mK (mW db l st k)
 |0=>h
 |k+1=>by
  have ih:=MU h hl k;unfold mW;split
  ·rename_i a p b ha hp hb;exact agQ ih (hl a (bn ha)) (hl p (bn hp)) (hl b (bn hb))
  ·exact ih
theorem agJ {can:Pt->Pt->PP} {l:List Pt} {st:IS Pt} {k:Nat} {a p b:Pt} (ha:l[k]? =some a) (hp:l[k+1]? =some p) (hb:l[k+2]? =some b):mW can l st (k+1)=qh can (mW can l st k) a p b:=by
 conv=>lhs;unfold mW
 rw[ha,hp,hb]
theorem aiu {β:Type} {l:List (Pt×β)} {k:Pt} {e:β} (h:qk l k=some e):(k,e)∈l:=by
 simp only[qk,iE] at h;obtain⟨x,h1,rfl⟩:=h;have h2:=Km h1;have h3:x.1=k:=by simpa using List.find?_some h1
 rw[<-h3];exact h2
variable {q:Sq} {ra rx:Nat} {st:IS Pt}
theorem TX (h0:q.l≠[]) (hl:∀x∈q.l,b6 x) (hst:mK st):ai prog 294 [q.v,.map (some ra),.map (some rx)].toArray [q.fact] (nY ra rx st)
  (λv Fs' L'=>(v= .tuple #[]/\Fs'=[])/\L'=nY ra rx (xF db st q.l)):=by
 have hpos:0<q.l.length:=DD.2 h0;refine tu (.head _) (λ_ h=>(uX h).2) λhbl=>?_;simp only[maxLen] at hbl;obtain⟨s,hs⟩:∃x,q.l[0]? =some x:=⟨_,aG hpos⟩;obtain⟨z,hz⟩:∃x,q.l[q.l.length-1]? =some x:=⟨_,aG aa⟩;have hsn:=hl s (bn hs);have hzn:=hl z (bn hz);have hends:qS st q.l={st with X:=fX (fX st.X s) z}:=by
  unfold qS;rw[Kf,hs,F5,hz]
 obtain⟨st1,hst1⟩:∃st1,st1=qS st q.l:=⟨_,rfl⟩;have hst1n:mK st1:=by rw[hst1];exact TZ hst hl
 have hm:=MU hst1n hl;refine am func294 λ_=>(au) ?_;intro _;refine(cn)<|(cR)<|aj eA call117 (QU hs)<|aj eA call120 (Lr)<|(x5) ?_;intro _;refine(de)<|(cF)<|(vE)<|(js)<|(cN) ?_;refine qZ ab O O tG O (u:=pv s) (v:= .agg #[]) O O (kvs:=fV st.X) (kvs':=fV (fX st.X s)) (Ao yu _ _ _) uA (BY hsn hst.X)<|(cn)<|(cR)<|aj eA call118 (ajD hz)<|aj eA call120 (Lr)<|(x5) ?_;intro _;refine(de)<|(cF)<|(vE)<|(js)<|(cN) ?_;refine qZ ab O O tG O (u:=pv z) (v:= .agg #[]) O O (kvs:=fV (fX st.X s)) (kvs':=fV (fX (fX st.X s) z)) (Ao yu _ _ _) uA (BY hzn (Es hst.X hsn))<|(gu)<|aj eA call84 (tN (q:=q))<|(aq) ?_;intro r10;refine(wO)<|aj eA call98 (jB (l:=q.l))<|(wG)<|aU [(12,19),(44,103)] (λ(x:Nat×IS Pt)=>x.1<=q.l.length-2/\x.2=mW db q.l st1 x.1) (λx=>[(12,iv ((x.1+1:Nat):Int))]) (λ_=>[]) (λx=>nY ra rx x.2) (λx=>q.l.length-x.1) ((0,{st with X:=fX (fX st.X s) z})) (⟨bf _,by rw[hst1,hends];rfl⟩) λ⟨k,t⟩ fr ⟨h5,h6⟩=>?_;dsimp only at h5 h6;have htn:mK t:=by rw[h6];exact hm k
 refine(eE)<|(qA) ?_;refine aL O O (by simp only[EO];rfl) O<|(aN)<|ao ?_ ?_
 ·intro hc47;have hlt:k+2<q.l.length:=by have:=of_decide_eq_true hc47;omega
  obtain⟨a,ha⟩:∃x,q.l[k]? =some x:=⟨_,aG aa⟩;obtain⟨y,hy⟩:∃x,q.l[k+1]? =some x:=⟨_,aG aa⟩;obtain⟨b,hb⟩:∃x,q.l[k+2]? =some x:=⟨_,aG aa⟩;have han:=hl a (bn ha);have hyn:=hl y (bn hy);have hbn:=hl b (bn hb);have hstep:mW db q.l st1 (k+1)=qh db t a y b:=by rw[h6];exact agJ ha hy hb
  refine(mB) ?_;refine ew (m:=(k:Int)) O O aa iA O ?_;refine aj eA call131 (iO ha)<|(aq) ?_;intro r13;refine(wO)<|(aB)<|aj eA call131 (iO hy)<|(aq) ?_;intro r14;refine(wO)<|(aB) ?_;refine dD (m:=((k+2:Nat):Int)) O O aa iA O ?_;refine aj eA call131 (iO hb)<|(aq) ?_;intro r15;refine(dS)<|(gM) ?_;refine xL O O qV (λw=>Vv han hbn w) O<|(aN)<|ao ?_ ?_
  ·intro hc63;refine(bJ)<|(eH)<|(cN) ?_;refine qZ ab O O tG O (u:=pv y) (v:= .agg #[]) O O (kvs:=fV t.X) (kvs':=fV (fX t.X y)) (Ao yu _ _ _) uA (BY hyn htn.X)<|(aN)<|(zi)<|(zb) ?_;refine dD (m:=((k+1+1:Nat):Int)) O O aa iA O<|(bt) ?_;exact⟨(k+1,{t with X:=fX t.X y}),oA,⟨oA,by dsimp only;rw[hstep];unfold qh;rw[if_pos (of_decide_eq_true hc63)]⟩,lA,kA,fA,hA⟩
  ·intro hc63;have hab:¬a=b:=of_decide_eq_false hc63;refine(bX)<|(gM)<|(cN)<|(aq) ?_;intro r16;refine(dS)<|(ba)<|(cQ)<|(Xv)<|(cQ)<|(Xv)<|aj eA call235 (yG (a:=b) (b:=a))<|(aN)<|jl ([bL r16 434 [aw a.1,aw a.2,aw b.1,aw b.2]]) [(75,80)] (λ(_:Unit)=>True) (λ_=>[]) (λ_=>[]) (λ_=>[bL r16 434 [aw (db a b).1.1,aw (db a b).1.2,aw (db a b).2.1,aw (db a b).2.2]]) ?_ ?_
   ·refine ao ?_ ?_
    ·intro hc74;have hcan:db a b=(b,a):=by unfold db;rw[if_pos hc74]
     rw[hcan];exact(cJ)<|(eK)<|(eK)<|(cQ)<|(de)<|(cQ)<|(cu)<|A1
    ·intro hc74;have hcan:db a b=(a,b):=by unfold db;rw[if_neg (by rw[hc74];decide)]
     rw[hcan];exact(bX)<|A1
   ·intro u16 fj _;refine(cR)<|(aB)<|aj eA call131 (iO hy)<|(aq) ?_;intro r17;refine(dS) ?_;rcases hg:qk t.adj y with _|e
    ·refine(js) ?_;refine yK ab O O O O tG O (u:=pv y) O (eo (kvs:=CB t.adj) mA) (BX (V:=lr) hyn (λe he=>(htn.adj e he).1)) (o:=none) (by rw[Ob,hg];rfl) O<|(x5) ?_;intro r18;refine(de)<|(jL)<|(lP)<|(pJ)<|(bJ)<|(oR)<|(vE)<|(js)<|(gq) ?_;refine qZ ab O O tG O (u:=pv y) (v:=lr (db a b)) O O (kvs:=CB t.adj) (kvs':=CB (t.adj++[(y,db a b)])) (HC (by rw[Ob,hg];rfl)) uA (BX (V:=lr) hyn (λe he=>(htn.adj e he).1))<|(aN)<|(zb) ?_;refine dD (m:=((k+1+1:Nat):Int)) O O aa iA O<|(bt) ?_;exact⟨(k+1,{t with adj:=t.adj++[(y,db a b)]}),oA,⟨oA,by dsimp only;rw[hstep];unfold qh;rw[if_neg hab,hg]⟩,lA,kA,fA,hA⟩
    ·refine(js) ?_;refine yK ab O O O O tG O (u:=pv y) O (eo (kvs:=CB t.adj) mA) (BX (V:=lr) hyn (λe he=>(htn.adj e he).1)) (o:=some (lr e)) (by rw[Ob,hg];rfl) O ?_;have hem:(y,e)∈t.adj:=aiu hg;refine(x5) ?_;intro r18;refine(de)<|(jL)<|(Xu)<|(Xu) ?_;refine ah O O (vY O O ahy (λw=>ajy (htn.adj _ hem).2 (Wu han hbn) w) O<|(fm)<|ao ?_ ?_)
     ·intro hc95;refine(js)<|(cN) ?_;refine qZ ab O O tG O (u:=pv y) (v:= .agg #[]) O O (kvs:=fV t.X) (kvs':=fV (fX t.X y)) (Ao yu _ _ _) uA (BY hyn htn.X)<|(qC)<|(oR)<|(gH)<|(zb) ?_;refine dD (m:=((k+1+1:Nat):Int)) O O aa iA O<|(bt) ?_;exact⟨(k+1,{t with X:=fX t.X y}),oA,⟨oA,by dsimp only;rw[hstep];unfold qh;rw[if_neg hab,hg];simp only;rw[if_neg (by simpa using hc95)]⟩,lA,kA,fA,hA⟩
     ·intro hc95;refine(Fu)<|(oR)<|(gH)<|(zb) ?_;refine dD (m:=((k+1+1:Nat):Int)) O O aa iA O<|(bt) ?_;exact⟨(k+1,t),oA,⟨oA,by dsimp only;rw[hstep];unfold qh;rw[if_neg hab,hg];simp only;rw[if_pos (by simpa using hc95)]⟩,lA,kA,fA,hA⟩
 ·intro hc47;have hge:k=q.l.length-2:=by have:=of_decide_eq_false hc47;omega
  have hfin:t=xF db st q.l:=by rw[h6,hst1,hge];rfl
  subst hfin;refine(nF)<|ed [] (nY ra rx (xF db st q.l)) ?_;exact gk
end Go.Proofs
namespace Go.V
theorem ahT {P:Program} {c:bC} {n:Nat} {ops:Array Oper} {Fs:List an} {L:List ae} {f:Fm} {Q:bG} {rest:List Oper} {d:Nat} {ty:TypeId} {ps:String} {aft:Array Edge} {x:Operand} {T i:Nat} {u v:Value}
  (hx:ap f x= .b u) (hr:∀w,(Instr.field T u i).run P w= .ok v w) (hd:Nat.blt d n=true) (k:ak P c n ops Fs L (aT f d v) rest Q):
  ak P c n ops Fs L f (⟨some d,.field T x i,ty,ps,aft,none⟩::rest) Q:=
 dh rfl (bU hd) v (λh w sa al=>by simp only[execOp,hx,Bx.v_b,bo,hr,bV,bS]) k
end Go.V
namespace Go.Proofs
open Tryz
open Go.V Go.Edges
theorem ahI {P:Program} {c:bC} {n:Nat} {ops:Array Oper} {Fs:List an} {L:List ae} {f:Fm} {Q:bG} {rest:List Oper} {p:Option Addr} {gs:List GM} {cp:Nat} (hm:dA p gs cp∈Fs)
  (K:∀xs:List (GM×Value),xs.map (·.1)=gs->gs.length<=1048576->ak P c n ops (bF 2 (qW p gs.length cp) gs.length (xs.flatMap dz)::(xs.map (λx=>aE x.1 x.2)++Fs)) L f rest Q):ak P c n ops Fs L f rest Q:=⟨λa hp w ag re al=>by
 obtain⟨xs,h1,h2,h3⟩:=al _ hm;exact(K xs h1.1 h1.2).out a hp w ag re (.cons h2 (.append (Cz h3) al))⟩
theorem aiV {α:Type} {ls:List (List α)} (i:Nat):(ls.take i).flatten.length<=ls.flatten.length:=by
 have h:=congrArg List.length (congrArg List.flatten (gf i ls));rw[o0,aW] at h;omega
theorem RZ (gs:List GM) (i:Nat):(fH (gs.take i)).length<=(fH gs).length:=by
 have h:=congrArg List.length (congrArg fH (gf i gs));rw[Eb,aW] at h;omega
variable {q:Sq} {p:Option Addr} {l:List Pt} {cp:Nat} {lss:List (List Pt)} {gs:List GM} {g:GM} {v:Value} {ra rx:Nat} {st:IS Pt}
theorem ajg (w:World):(Instr.field 113 (pn p gs cp) 0).run prog w= .ok (qW p gs.length cp) w:=by kernel_rfl
theorem akl (hb:lss.flatten.length<=1152921504606846976):ai prog 290 [jb p lss cp].toArray [bQ p lss cp] [] (Is (iv lss.flatten.length)):=by
 refine(wK) ?_;intro qs hq hbl;have hql:qs.length=lss.length:=by rw[<-hq];simp
 refine am func290 λ_=>(au) ?_;intro _;refine(fo)<|(pG)<|aU [(3,3),(5,5),(9,18)] (λ(i:Nat)=>i<=lss.length) (λi=>[(9,iv i),(3,iv (lss.take i).flatten.length)]) (λ_=>[]) (λ_=>[]) (λi=>lss.length-i) (0) (bf _) ?_;intro i fr hi;refine(cM)<|ao ?_ ?_
 ·intro hc10;have hlt:i<lss.length:=by have:=of_decide_eq_true hc10;omega
  obtain⟨q,hqi⟩:∃q,qs[i]? =some q:=⟨_,aG aa⟩;have hli:lss[i]? =some q.l:=by rw[<-hq,iY,hqi];rfl
  have hsum:(lss.take (i+1)).flatten.length=(lss.take i).flatten.length+q.l.length:=by rw[dO hli];simp
  have hle:(lss.take (i+1)).flatten.length<=lss.flatten.length:=aiV _;refine(ix) ?_;refine cU (size:=2) (i:=i) ab O O O O O aa mA aa (flat_take (λ_ _=>O) hqi) O λ_ _=>?_;refine aK ab O O O (aR (xs:=q.cells) mA) O O<|(aq) ?_;intro _;refine(y7)<|aj eA call84 (tN (q:=q)) ?_;refine cL q.fact (λhp al=>al _ (by repeat (first|exact bq _ (nJ (qR hqi))|apply bI|apply vI))) ?_;refine aj eA call98 (jB (l:=q.l)) ?_;refine dD (m:=(((lss.take (i+1)).flatten.length:Nat):Int)) O O (by rw[hsum];omega) iA O<|(jr) ?_;exact⟨i+1,oA,aa,lA,kA,fA,hA⟩
 ·intro hc10;have hge:i=lss.length:=by have:=of_decide_eq_false hc10;omega
  subst hge;rw[dg];exact(CU)<|cV
theorem Wb:∀(k:Nat) (g:GM) (v:Value),SizeOf.sizeOf g<=k->g.pts.length<=1152921504606846976->ai prog 200 [gv g v].toArray [aE g v] [] (Is (iv g.pts.length))
 |0,g,v,h,_=>by cases g<;>simp at h
 |k+1,.ls l,v,h,hb=>by
  simp only[GM.pts] at hb ⊢;refine am func200 λ_=>(au) ?_;intro _;refine(fP)<|(dF)<|(pL)<|aI eA call29 (qQ (l:=l)) λv1 Fs1 ⟨q,e1,e2,e3⟩=>?_;subst e2;subst e3;subst e1;refine aj eA call84 (tN (q:=q)) ?_;refine aj eA call98 (jB (l:=q.l))<|mG
 |k+1,.mls lss,v,h,hb=>by
  simp only[GM.pts] at hb ⊢;refine am func200 λ_=>(au) ?_;intro _;refine(fP)<|(ot)<|(pL)<|aI eA call35 (qP (lss:=lss)) λv1 Fs1 ⟨p,cp,e2,e3⟩=>?_;subst e2;subst e3;refine aj eA call290 (akl hb)<|mG
 |k+1,.gc gs,v,h,hb=>by
  simp only[GM.pts] at hb ⊢;have IH:∀g∈gs,∀v:Value,g.pts.length<=1152921504606846976->ai prog 200 [gv g v].toArray [aE g v] [] (Is (iv g.pts.length)):=λg hg v hb=>Wb k g v (by have:=vN hg;simp at h;omega) hb;refine am func200 λ_=>(au) ?_;intro _;refine(fP)<|(dF)<|(dY)<|(pF)<|(ba)<|(bR)<|(cR)<|aI eA call39 (sb (gs:=gs)) λv1 Fs1 ⟨p,cp,e2,e3⟩=>?_;subst e2;subst e3;refine ahI mA ?_;intro xs hq hbl;have hql:xs.length=gs.length:=by rw[<-hq];simp
  refine ahT O ajg O<|(gW)<|aU [(3,3),(5,5),(19,27)] (λ(i:Nat)=>i<=gs.length) (λi=>[(19,iv i),(3,iv (fH (gs.take i)).length)]) (λ_=>[]) (λ_=>[]) (λi=>gs.length-i) (0) (bf _) ?_;intro i fr hi;refine(cM)<|ao ?_ ?_
  ·intro hc20;have hlt:i<gs.length:=by have:=of_decide_eq_true hc20;omega
   obtain⟨x,hxi⟩:∃x,xs[i]? =some x:=⟨_,aG aa⟩;have hgi:gs[i]? =some x.1:=by rw[<-hq,iY,hxi];rfl
   have hsum:(fH (gs.take (i+1))).length=(fH (gs.take i)).length+x.1.pts.length:=by rw[dO hgi,Eb];simp[fH]
   have hle:=RZ gs (i+1);have hfx:∀Fs:List an,True:=λ_=>trivial;refine(ix) ?_;refine cU (size:=2) (i:=i) ab O O O O O (by omega) mA (by omega) (flat_take (F:=dz) (λ_ _=>O) hxi) O λ_ _=>?_;refine aK ab O O O (aR (xs:=[.int .i64 x.1.tag,x.2]) mA) O O ?_;refine cL (aE x.1 x.2) (λhp al=>al _ (by repeat (first|exact bq _ (aM.2 ⟨x,qR hxi,O⟩)|apply bI|apply vI))) ?_;refine dP (φ:=x.2.oneCell'=true) (λhp al=>dE (al (aE x.1 x.2) (.head _))) λhx1=>(aq) ?_;intro _;refine(y7)<|aj eA call200 (IH x.1 (bn hgi) x.2 aa) ?_;refine dD (m:=(((fH (gs.take (i+1))).length:Nat):Int)) O O (by rw[hsum];omega) iA O<|(jr) ?_;exact⟨i+1,oA,aa,lA,kA,fA,hA⟩
  ·intro hc20;have hge:i=gs.length:=by have:=of_decide_eq_false hc20;omega
   subst hge;rw[dg];exact(CU)<|mG
end Go.Proofs
namespace Go.Proofs
open Tryz
open Go.V Go.Edges
mutual
def GM.lines:GM->List (List Pt)
 |.ls l=>[l]
 |.mls l=>l
 |.gc gs=>ck gs
def ck:List GM->List (List Pt)
 |[]=>[]
 |g::gs=>g.lines++ck gs
end
theorem si:∀a b:List GM,ck (a++b)=ck a++ck b
 |[],b=>rfl
 |g::a,b=>by simp only[pY,ck,si a b,cG]
theorem Hx {gs:List GM} {g:GM} (hg:g∈gs) {l:List Pt} (hl:l∈g.lines):l∈ck gs:=by
 induction gs with
 |nil=>cases hg
 |cons a gs ih=>
  simp only[ck];rcases bm.1 hg with rfl|hg
  ·exact bq _ hl
  ·exact bI _ (ih hg)
theorem MX (st:IS Pt) (a b:List (List Pt)):jC db st (a++b)=jC db (jC db st a) b:=by unfold jC;rw[List.foldl_append]
theorem agK (st:IS Pt) (l:List Pt):jC db st [l]=xF db st l:=rfl
def yc (l:List Pt):Prop:=l≠[]/\∀x∈l,b6 x
theorem EK:∀(ls:List (List Pt)) (st:IS Pt),mK st->(∀l∈ls,yc l)->mK (jC db st ls)
 |[],_,h,_=>h
 |l::ls,st,h,hl=>EK ls _ (MU (TZ h (hl l (.head _)).2) (hl l (.head _)).2 _) λl hm=>hl l (.tail _ hm)
variable {q:Sq} {p:Option Addr} {l:List Pt} {cp:Nat} {lss:List (List Pt)} {gs:List GM} {g:GM} {v:Value} {ra rx:Nat} {st:IS Pt}
abbrev FH (ra rx:Nat) (st:IS Pt):cZ:=λv Fs' L'=>(v= .tuple #[]/\Fs'=[])/\L'=nY ra rx st
theorem agI (hl:∀l∈lss,yc l) (hst:mK st):ai prog 295 [jb p lss cp,.map (some ra),.map (some rx)].toArray [bQ p lss cp] (nY ra rx st) (FH ra rx (jC db st lss)):=by
 refine uL (φ:=lss.length<=1048576) (λhp al=>by obtain⟨_,h,_⟩:=al (bQ p lss cp) (.head _);exact h.2) λhlb=>?_;refine am func295 λ_=>(au) ?_;intro _;refine(aN)<|(vD)<|aU [(6,20)] (λ(x:Nat×IS Pt)=>x.1<=lss.length/\x.2=jC db st (lss.take x.1)) (λx=>[(6,iv x.1)]) (λ_=>[]) (λx=>nY ra rx x.2) (λx=>lss.length-x.1) ((0,st)) (⟨bf _,O⟩) λ⟨i,t⟩ fr ⟨h5,h6⟩=>?_;dsimp only at h5 h6;have htn:mK t:=by rw[h6];exact EK _ _ hst (λl hm=>hl l (XN hm))
 refine(eE)<|(eH)<|aj eA call58 (xr (lss:=lss))<|(kU)<|ao ?_ ?_
 ·intro hc11;have hlt:i<lss.length:=by have:=of_decide_eq_true hc11;omega
  obtain⟨l,hli⟩:∃x,lss[i]? =some x:=⟨_,aG hlt⟩;have hl0:=hl l (bn hli);refine(mB)<|aI eA call59 (vW hli) λv2 Fs1 ⟨q1,e1,e2,e3⟩=>?_;subst e1;subst e2;subst e3;refine(aq) ?_;intro r7;refine(cu)<|(mH)<|(dG)<|aS eA call294 (TX (q:=q1) (ra:=ra) (rx:=rx) (st:=t) hl0.1 hl0.2 htn) λv' Fs' L' ⟨⟨e1,e2⟩,e3⟩=>?_;subst e1;subst e2;subst e3;refine(Jb) ?_;exact⟨(i+1,xF db t q1.l),oA,⟨oA,by dsimp only;rw[dO hli,MX,<-h6];rfl⟩,lA,kA,fA,hA⟩
 ·intro hc11;have hge:i=lss.length:=by have:=of_decide_eq_false hc11;omega
  rw[hge,dg] at h6;subst h6;refine(nF)<|ed [] (nY ra rx (jC db st lss)) ?_;exact gk
theorem agN (IH:∀g∈gs,∀(v:Value) (st:IS Pt),mK st->ai prog 201 [gv g v,.map (some ra),.map (some rx)].toArray [aE g v] (nY ra rx st) (FH ra rx (jC db st g.lines))) (hl:∀l∈ck gs,yc l) (hst:mK st):
  ai prog 296 [pn p gs cp,.map (some ra),.map (some rx)].toArray [dA p gs cp] (nY ra rx st) (FH ra rx (jC db st (ck gs))):=by
 refine uL (φ:=gs.length<=1048576) (λhp al=>by obtain⟨_,h,_⟩:=al (dA p gs cp) (.head _);exact h.2) λhlb=>?_;refine am func296 λ_=>(au) ?_;intro _;refine(gu)<|aj eA call95 (Al (gs:=gs))<|(wG)<|aU [(7,8),(11,22)] (λ(x:Nat×IS Pt)=>x.1<=gs.length/\x.2=jC db st (ck (gs.take x.1))) (λx=>[(7,iv x.1)]) (λ_=>[]) (λx=>nY ra rx x.2) (λx=>gs.length-x.1) ((0,st)) (⟨bf _,O⟩) λ⟨i,t⟩ fr ⟨h5,h6⟩=>?_;dsimp only at h5 h6;have htn:mK t:=by{rw[h6];exact EK _ _ hst (λl hm=>hl l (by{have h:=congrArg ck (gf i gs);rw[si] at h;rw[<-h];exact bq _ hm}))}
 refine(lN)<|ao ?_ ?_
 ·intro hc13;have hlt:i<gs.length:=by have:=of_decide_eq_true hc13;omega
  obtain⟨g,hgi⟩:∃x,gs[i]? =some x:=⟨_,aG hlt⟩;refine(mB)<|aI eA call96 (Ci hgi) λv2 Fs1 ⟨u0,e2,e3⟩=>?_;subst e2;subst e3;refine dP (φ:=u0.oneCell'=true) (λhp al=>dE (al (aE g u0) (.head _))) λhu=>(aq) ?_;intro r8;refine(cu)<|(mH)<|(dG)<|aS eA call201 (IH g (bn hgi) u0 t htn) λv' Fs' L' ⟨⟨e1,e2⟩,e3⟩=>?_;subst e1;subst e2;subst e3;refine(Jb) ?_;exact⟨(i+1,jC db t g.lines),oA,⟨oA,by dsimp only;rw[dO hgi,si,MX,<-h6];simp[ck]⟩,lA,kA,fA,hA⟩
 ·intro hc13;have hge:i=gs.length:=by have:=of_decide_eq_false hc13;omega
  rw[hge,dg] at h6;subst h6;refine(nF)<|ed [] (nY ra rx (jC db st (ck gs))) ?_;exact gk
theorem TY:∀(k:Nat) (g:GM) (v:Value) (st:IS Pt),SizeOf.sizeOf g<=k->(∀l∈g.lines,yc l)->mK st->ai prog 201 [gv g v,.map (some ra),.map (some rx)].toArray [aE g v] (nY ra rx st) (FH ra rx (jC db st g.lines))
 |0,g,v,st,h,_,_=>by cases g<;>simp at h
 |k+1,.ls l,v,st,h,hl,hst=>by
  have hl0:yc l:=hl l (by simp[GM.lines]);refine am func201 λ_=>(au) ?_;intro _;refine(gu)<|aj eA call25 (lz (g:= .ls l) (v:=v))<|(dF)<|(Fz)<|(pF)<|(mH)<|aI eA call29 (qQ (l:=l)) λv1 Fs1 ⟨q,e1,e2,e3⟩=>?_;subst e2;subst e3;subst e1;refine(dG)<|aS eA call294 (TX (q:=q) (ra:=ra) (rx:=rx) (st:=st) hl0.1 hl0.2 hst) λv' Fs' L' ⟨⟨e1,e2⟩,e3⟩=>?_;subst e1;subst e2;subst e3;refine(aN)<|ed [] (nY ra rx (xF db st q.l)) ?_;exact⟨⟨O,O⟩,by simp only[GM.lines,agK]⟩
 |k+1,.mls lss,v,st,h,hl,hst=>by
  simp only[GM.lines] at hl ⊢;refine am func201 λ_=>(au) ?_;intro _;refine(gu)<|aj eA call25 (lz (g:= .mls lss) (v:=v))<|(ot)<|(dY)<|(pF)<|(mH)<|aI eA call35 (qP (lss:=lss)) λv1 Fs1 ⟨p,cp,e2,e3⟩=>?_;subst e2;subst e3;refine(dG)<|aS eA call295 (agI (ra:=ra) (rx:=rx) (st:=st) hl hst) λv' Fs' L' ⟨⟨e1,e2⟩,e3⟩=>?_;subst e1;subst e2;subst e3;refine(aN)<|ed [] (nY ra rx (jC db st lss)) ?_;exact gk
 |k+1,.gc gs,v,st,h,hl,hst=>by
  simp only[GM.lines] at hl ⊢;have IH:∀g∈gs,∀(v:Value) (st:IS Pt),mK st->ai prog 201 [gv g v,.map (some ra),.map (some rx)].toArray [aE g v] (nY ra rx st) (FH ra rx (jC db st g.lines)):=λg hg v st hst=>TY k g v st (by have:=vN hg;simp at h;omega) (λl hm=>hl l (Hx hg hm)) hst;refine am func201 λ_=>(au) ?_;intro _;refine(gu)<|aj eA call25 (lz (g:= .gc gs) (v:=v))<|(ud)<|(dY)<|(pF)<|(mH)<|aI eA call39 (sb (gs:=gs)) λv1 Fs1 ⟨p,cp,e2,e3⟩=>?_;subst e2;subst e3;refine(dG)<|aS eA call296 (agN (ra:=ra) (rx:=rx) (st:=st) IH hl hst) λv' Fs' L' ⟨⟨e1,e2⟩,e3⟩=>?_;subst e1;subst e2;subst e3;refine(aN)<|ed [] (nY ra rx (jC db st (ck gs))) ?_;exact gk
end Go.Proofs
namespace Go.V
theorem ahS {P:Program} {c:bC} {n:Nat} {ops:Array Oper} {rest:List Oper} {Fs:List an} {L:List ae} {f:Fm} {Q:bG} {r:Nat} {kvs:List (Value×Value)} {R:List ae} (hT:bv L [(r,bW kvs)] R) (k:ak P c n ops (sD r kvs::Fs) R f rest Q):ak P c n ops Fs L f rest Q:=
 ⟨λa _ w ag re al=>k.out a _ w ag (re.freeze hT) (.cons (by show(bif Nat.beq r r then some (bW kvs) else _)=_;rw[Nat.beq_refl];rfl) (al.mono (EW re hT)))⟩
end Go.V
namespace Go.Proofs
open Tryz
open Go.V Go.Edges
variable {p:Option Addr} {cp:Nat} {gs:List GM}
theorem Hn {α:Type} [DecidableEq α] {l:List α} {x:α} (h:l.Nodup):(fX l x).Nodup:=by
 unfold fX;split
 ·exact h
 ·rename_i hn;exact uF.2 ⟨h,by simp,λa ha b hb e'=>by simp at hb;subst hb;subst e';exact hn ha⟩
theorem TT (l:List Pt):∀(k:Nat) (st:IS Pt),st.X.Nodup->(mW db l st k).X.Nodup
 |0,_,h=>h
 |k+1,st,h=>by
  have ih:=TT l k st h;unfold mW;split
  ·unfold qh;split
   ·exact Hn ih
   ·split
    ·split
     ·exact ih
     ·exact Hn ih
    ·exact ih
  ·exact ih
theorem TU:∀(ls:List (List Pt)) (st:IS Pt),st.X.Nodup->(jC db st ls).X.Nodup
 |[],_,h=>h
 |l::ls,st,h=>by
  refine TU ls _ (TT l _ _ ?_);unfold qS;split
  ·exact Hn (Hn h)
  ·exact h
def qe (gs:List GM):List Pt:=(jC db ⟨[],[]⟩ (ck gs)).X
theorem SV (gs:List GM):(qe gs).Nodup:=TU _ _ Gd
theorem ajb (hl:∀l∈ck gs,yc l) (hb:(fH gs).length<=1152921504606846976):ai prog 152 [qW p gs.length cp].toArray [dA p gs cp] []
  (λv Fs' L'=>∃rx,v= .map (some rx)/\Fs'=[]/\L'=[(rx,bW (fV (qe gs)))]):=by
 have h0:mK ⟨[],[]⟩:=⟨(λ_ h=>nomatch h),(λ_ h=>nomatch h)⟩;refine(CT) ?_;intro xs hq hbl;have hql:xs.length=gs.length:=by rw[<-hq];simp
 refine am func152 λ_=>(y8)<|(nu)<|aU [(3,3),(5,5),(12,20)] (λ(i:Nat)=>i<=gs.length) (λi=>[(12,iv i),(3,iv (fH (gs.take i)).length)]) (λ_=>[]) (λ_=>[]) (λi=>gs.length-i) (0) (bf _) ?_;intro i fr hi;refine(cM)<|ao ?_ ?_
 ·intro hc13;have hlt:i<gs.length:=by have:=of_decide_eq_true hc13;omega
  obtain⟨x,hxi⟩:∃x,xs[i]? =some x:=⟨_,aG aa⟩;have hgi:gs[i]? =some x.1:=by rw[<-hq,iY,hxi];rfl
  have hsum:(fH (gs.take (i+1))).length=(fH (gs.take i)).length+x.1.pts.length:=by rw[dO hgi,Eb];simp[fH]
  have hle:=RZ gs (i+1);refine(ix) ?_;refine cU (size:=2) (i:=i) ab O O O O O (by omega) mA (by omega) (flat_take (F:=dz) (λ_ _=>O) hxi) O λ_ _=>?_;refine aK ab O O O (aR (xs:=[.int .i64 x.1.tag,x.2]) mA) O O ?_;refine cL (aE x.1 x.2) (λhp al=>al _ (by repeat (first|exact bq _ (aM.2 ⟨x,qR hxi,O⟩)|apply bI|apply vI))) ?_;refine dP (φ:=x.2.oneCell'=true) (λhp al=>dE (al (aE x.1 x.2) (.head _))) λhx1=>(aq) ?_;intro _;refine(y7)<|aj eA call200 (Wb (SizeOf.sizeOf x.1) x.1 x.2 (bg _) aa) ?_;refine dD (m:=(((fH (gs.take (i+1))).length:Nat):Int)) O O (by rw[hsum];omega) iA O<|(jr) ?_;exact⟨i+1,oA,aa,lA,kA,fA,hA⟩
 ·intro hc13;refine(CU)<|(zt) ?_;intro rx;refine(cF)<|(zt) ?_;intro ra;refine(nu)<|aU [(9,9),(27,35)] (λ(x:Nat×IS Pt)=>x.1<=gs.length/\x.2=jC db ⟨[],[]⟩ (ck (gs.take x.1))) (λx=>[(27,iv x.1)]) (λ_=>[]) (λx=>nY ra rx x.2) (λx=>gs.length-x.1) ((0,⟨[],[]⟩)) (⟨bf _,O⟩) λ⟨j,t⟩ fr ⟨h5,h6⟩=>?_;dsimp only at h5 h6;have htn:mK t:=by{rw[h6];exact EK _ _ h0 (λl hm=>hl l (by{have h:=congrArg ck (gf j gs);rw[si] at h;rw[<-h];exact bq _ hm}))}
  refine(cM)<|ao ?_ ?_
  ·intro hc28;have hlt2:j<gs.length:=by have:=of_decide_eq_true hc28;omega
   obtain⟨y,hyj⟩:∃x,xs[j]? =some x:=⟨_,aG aa⟩;have hgj:gs[j]? =some y.1:=by rw[<-hq,iY,hyj];rfl
   refine(ix) ?_;refine cU (size:=2) (i:=j) ab O O O O O (by omega) mA (by omega) (flat_take (F:=dz) (λ_ _=>O) hyj) O λ_ _=>?_;refine aK ab O O O (aR (xs:=[.int .i64 y.1.tag,y.2]) mA) O O ?_;refine cL (aE y.1 y.2) (λhp al=>al _ (by repeat (first|exact bq _ (aM.2 ⟨y,qR hyj,O⟩)|apply bI|apply vI))) ?_;refine dP (φ:=y.2.oneCell'=true) (λhp al=>dE (al (aE y.1 y.2) (.head _))) λhy1=>(aq) ?_;intro _;refine(cu)<|(mH)<|(dG)<|aS eA call201 (TY (ra:=ra) (rx:=rx) (SizeOf.sizeOf y.1) y.1 y.2 t (bg _) (λl hm=>hl l (Hx (bn hgj) hm)) htn) λv' Fs' L' ⟨⟨e1,e2⟩,e3⟩=>?_;subst e1;subst e2;subst e3;refine(rM) ?_;exact⟨(j+1,jC db t y.1.lines),oA,⟨oA,by dsimp only;rw[dO hgj,si,MX,<-h6];simp[ck]⟩,lA,kA,fA,hA⟩
  ·intro hc28;have hge:j=gs.length:=by have:=of_decide_eq_false hc28;omega
   rw[hge,dg] at h6;subst h6;refine(CU)<|(bO) ?_;exact .ret (.cons (lZ O) (.nil)) (L':=[(rx,bW (fV (qe gs)))]) gy (by repeat (first|exact gx _|apply pd)) ⟨rx,O,O,O⟩
end Go.Proofs
namespace Go.Proofs
open Tryz
open Go.V Go.Edges
def NI:dw:=⟨(0,0),0,false,false,false,false,false⟩
def NJ:cq:=vQ ⟨none,[],0⟩
theorem aeJ:ai prog 153 [].toArray [] []
  (λv Fs' L'=>∃dr hm vm,v=aF dr/\Fs'=[]/\L'=(DS.mk (.slice none 0 0) dr hm vm [] [] (λ_=>NJ) (λ_=>NI) (λ_=>[])).LL):=by
 refine am func153 λ_=>(y8)<|(AZ) ?_;intro hm;refine(AZ) ?_;intro vm;refine(cN)<|(cg) ?_;intro dr;refine ak.perm ?_ (Bd _ (JS _ _ _));refine(bO) ?_;exact .ret (.cons (lZ O) (.nil)) (L':=(DS.mk (.slice none 0 0) dr hm vm [] [] (λ_=>NJ) (λ_=>NI) (λ_=>[])).LL) gy (gx _) ⟨dr,hm,vm,O,O,O⟩
def DS.addV (d:DS) (x:Pt) (r im:Nat):DS:={d with vs:=d.vs++[(x,r)],V:=λj=>if j=r then⟨x,im,false,false,false,false,false⟩ else d.V j,M:=λj=>if j=r then [] else d.M j}
theorem alp {d:DS} {x:Pt} {r im:Nat} (h:r∉d.vs.map (·.2)):(d.addV x r im).LL=d.dB::(d.hm,bW (fB d.hs))::(d.vm,bW (eL (d.vs++[(x,r)])))::
  ((vB d.V d.vs++[(r,.cells (dw.enc ⟨x,im,false,false,false,false,false⟩).toArray 256 (0,0))])++((iB d.V d.M d.vs++[(im,bW [])])++eB d.E d.hs)):=by
 have hne:∀v∈d.vs,v.2≠r:=λv hv e=>h (aM.2 ⟨v,hv,e⟩);have e1:vB (d.addV x r im).V (d.vs++[(x,r)])=vB d.V d.vs++[(r,.cells (dw.enc ⟨x,im,false,false,false,false,false⟩).toArray 256 (0,0))]:=by
  unfold vB;rw[dX];congr 1
  ·refine(FE) ?_;intro v hv;simp only[DS.addV,if_neg (hne v hv)]
  ·simp[DS.addV]
 have e2:iB (d.addV x r im).V (d.addV x r im).M (d.vs++[(x,r)])=iB d.V d.M d.vs++[(im,bW [])]:=by
  unfold iB;rw[dX];congr 1
  ·refine(FE) ?_;intro v hv;simp only[DS.addV,if_neg (hne v hv)]
  ·simp[DS.addV,gO]
 show d.dB::(d.hm,bW (fB d.hs))::(d.vm,bW (eL (d.vs++[(x,r)])))::(vB (d.addV x r im).V (d.vs++[(x,r)])++(iB (d.addV x r im).V (d.addV x r im).M (d.vs++[(x,r)])++eB d.E d.hs))=_;rw[e1,e2]
structure tV (d:DS) (xs:List Pt):Prop where
 hs:d.hs=[]
 keys:d.vs.map (·.1)=xs
 rec_:∀p v,(p,v)∈d.vs->∃im,d.V v=⟨p,im,false,false,false,false,false⟩/\d.M v=[]
theorem tV.add {d:DS} {xs:List Pt} {x:Pt} {r im:Nat} (h:tV d xs) (hr:r∉d.vs.map (·.2)):tV (d.addV x r im) (xs++[x]):=by
 refine⟨h.hs,by simp[DS.addV,h.keys],λp v hv=>?_⟩;rcases bB.1 hv with hv|hv
 ·obtain⟨im',h1,h2⟩:=h.rec_ p v hv;have hne:v≠r:=λe=>hr (aM.2 ⟨_,hv,e⟩);exact⟨im',by simp only[DS.addV,if_neg hne];exact h1,by simp only[DS.addV,if_neg hne];exact h2⟩
 ·simp at hv;obtain⟨rfl,rfl⟩:=hv;exact⟨im,by simp[DS.addV],by simp[DS.addV]⟩
theorem Ys {vs:List (Pt×Nat)} {x:Pt} (h:x∉vs.map (·.1)):lW vs x=none:=by
 simp only[lW,PQ,zQ,decide_eq_true_eq];exact λe he hx=>h (aM.2 ⟨e,he,hx⟩)
theorem acL {X:List Pt} {vs:List (Pt×Nat)} {seen:List Nat} {i:Nat} {x:Pt} (hX:X.Nodup) (hk:vs.map (·.1)=seen.filterMap λi=>X[i]?) (hns:i∉seen) (hx:X[i]? =some x):x∉vs.map (·.1):=by
 rw[hk];intro h;obtain⟨j,hj,h2⟩:=J6.1 h;have hi:=da hx;have hj':=da h2;rw[aG hi] at hx;rw[aG hj'] at h2;have:X[i]=X[j]:=by rw[iD hx,iD h2]
 exact hns ((List.getElem_inj hX).1 this▸hj)
theorem acK {X:List Pt} {vs:List (Pt×Nat)} {seen:List Nat} {x:Pt} (hk:vs.map (·.1)=seen.filterMap λi=>X[i]?) (hx:x∈vs.map (·.1)):x∈X:=by
 rw[hk] at hx;obtain⟨j,_,h2⟩:=J6.1 hx;exact bn h2
theorem aiK {a b c e:ae} {V:Nat->dw} {vs:List (Pt×Nat)} {r:Nat} {o:Obj} {X Y:List ae} (h:(ids ((a::b::c::e::((vB V vs++[(r,o)])++X))++Y)).Nodup):r∉vs.map (·.2):=by
 have h1:=BO (mh (mh (mh (mh (BO h)))));rw[HM,Cc] at h1;intro hm;exact(uF.1 h1).2.2 r hm r (.head _) O
theorem adX (rv im k it a b c:ae) (A B C:List ae):(rv::im::k::it::a::b::c::((A++(B++C))++[])).Perm ((it::a::b::c::((A++[rv])++((B++[im])++C)))++[k]):=by
 rw[jz];have h1:((A++[rv])++((B++[im])++C)).Perm (rv::im::(A++(B++C))):=by
  simp only[cG,List.singleton_append];refine(Xt) ?_;rw[<-cG];refine(Xt) ?_;rw[cG]
 have h2:([it,a,b,c]++rv::im::(A++(B++C))).Perm (rv::im::([it,a,b,c]++(A++(B++C)))):=yi.trans (Bd _ yi);have h3:((it::a::b::c::((A++[rv])++((B++[im])++C)))++[k]).Perm (k::rv::im::([it,a,b,c]++(A++(B++C)))):=
  (PO _ _).trans (Bd _ ((DC [it,a,b,c] h1).trans h2))
 refine JT ?_ h3.symm;exact(Bd _ (JS _ _ _)).trans (JS _ _ _)
theorem acJ {X:List Pt} {seen:List Nat} (hX:X.Nodup) (hs:eO X.length seen) (hall:∀i,i<X.length->i∈seen):(seen.filterMap λi=>X[i]?).Perm X:=by
 have hp:seen.Perm (List.range X.length):=(zS hs.nd PF).2 λa=>⟨λh=>nL.2 (hs.lt a h),λh=>hall a (nL.1 h)⟩;refine(hp.filterMap _).trans ?_;have key:∀X:List Pt,(List.range X.length).filterMap (λi=>X[i]?)=X:=by
  intro X
  induction X with
  |nil=>rfl
  |cons a X ih=>
   rw[cE,List.range_succ_eq_map,Dr,List.filterMap_map];simp only[List.getElem?_cons_zero,uG];congr 1
 have this:=key X;rw[this]
variable {d:DS} {X:List Pt} {rx dr:Nat}
theorem alo (hdr:d.dr=dr) (hd:tV d []) (hX:X.Nodup) (hn:∀x∈X,b6 x) (hb:X.length<=1152921504606846976):ai prog 154 [aF dr,.map (some rx)].toArray [sD rx (fV X)] d.LL
  (λv Fs' L'=>∃(d':DS) (xs:List Pt),(xs.Perm X/\tV d' xs)/\(d'.dr=dr/\d'.fc=d.fc)/\v= .tuple #[]/\Fs'=[]/\L'=d'.LL):=by
 have hxl:(fV X).length=X.length:=by simp
 refine am func154 λ_=>(bJ) ?_;refine uS ab O O O (EX mA) O ?_;intro ri;refine(dF)<|aU [(4,4),(7,19)] (λ(x:List Nat×DS)=>eO (fV X).length x.1/\tV x.2 (x.1.filterMap λi=>X[i]?)/\(x.2.dr=dr/\x.2.fc=d.fc)) (λ_=>[]) (λ_=>[]) (λx=>(ri,jH rx (fV X).length x.1)::x.2.LL) (λx=>(fV X).length-x.1.length) (([],d)) (⟨eO.nil,hd,hdr,O⟩) λ⟨seen,t⟩ fr ⟨h5,h6,h7,h8⟩=>?_;dsimp only at h5 h6 h7 h8;subst h7;have hle:=h5.le;rw[hxl] at hle;refine(ba) ?_;refine uU (m:=rx) (kvs:=fV X) (seen:=seen) O (EX mA) mA (λ_=>uA) O O λo ho=>?_;refine sC O (uM o) O<|(cn)<|ao ?_ ?_
 ·intro hc8;obtain⟨⟨i,q⟩,rfl⟩:=uE.1 hc8;obtain⟨hq,hns,hil⟩:=ho.one i q rfl;have hlt:=h5.lt_of hns hil;obtain⟨x,hx,rfl⟩:=sd (F:=λx:Pt=>(pv x,Value.agg #[])) rfl hq;have hxn:=hn x (bn hx);have hfresh:x∉t.vs.map (·.1):=acL hX h6.keys hns hx;have htn:∀e∈t.vs,b6 e.1:=λe he=>hn _ (acK h6.keys (aM.2 ⟨e,he,rfl⟩));refine(uf) ?_;refine uV (m:=rx) (kvs:=fV X) (seen:=seen) (i:=i) O (EX mA) mA hq O<|(kR)<|(aq) ?_;intro r4;refine(cu) ?_;refine cz cw 9 [6,7,8] []<|(vu)<|(jf)<|(jf)<|(dT)<|(AZ) ?_;intro im;refine(dU)<|(cN)<|(dU)<|(cg) ?_;intro rv;refine(iy) ?_;refine qZ ab O O tG O (u:=pv x) (v:=aF rv) O O (kvs:=eL t.vs) (kvs':=eL (t.vs++[(x,rv)])) (HC (by rw[Kz,Ys hfresh];rfl)) uA (BX (V:=aF) hxn htn) ?_;dsimp only;refine ak.perm ?_ (adX _ _ _ _ _ _ _ (vB t.V t.vs) (iB t.V t.M t.vs) (eB t.E t.hs));refine Nc ?_;intro hnd;have hrv:=aiK hnd;rw[<-alp hrv];refine(aN)<|(ir) ?_;exact⟨(seen++[i],t.addV x rv im),by dsimp only;rw[aW];simp only[dZ];omega,⟨h5.snoc hns hil,by dsimp only;rw[XO];simp only[Dr,hx,Pu];exact h6.add hrv,O,h8⟩,lA,kA,fA,hA⟩
 ·intro hc8;have hall:=ho.all (by cases o with|none=>rfl|some y=>cases hc8);rw[hxl] at hall;refine(nF) ?_;exact .norm (.nil) (L':=t.LL) gy (by refine pd _ ?_;show t.LL.Sublist (t.LL++[]);rw[jz];exact gx _) ⟨t,_,⟨acJ hX (by rw[<-hxl];exact h5) hall,h6⟩,⟨O,h8⟩,O,O,O⟩
end Go.Proofs
namespace Go.V
theorem ah0 {P:Program} {c:bC} {n:Nat} {ops:Array Oper} {Fs:List an} {L:List ae} {f:Fm} {Q:bG} {rest:List Oper} {d:Nat} {ty:TypeId} {ps:String} {aft:Array Edge} {aC:Nat->Option TI} {x y:Operand} {T:TypeId}
  (Tb:bZ P aC) {ti te:TI} (ht:aC T=some ti) (hk:ti.kind=1) {e:Nat} (hel:ti.elT=e) (hte:aC e=some te) (hsz:te.sz=1)
  {g o k dc g2 o2 sc:Nat} {cur cur' news:List Value} {L':List ae} (hx:ap f x= .b (.slice (some ⟨g,o,none⟩) k dc)) (hy:ap f y= .b (.slice (some ⟨g2,o2,none⟩) k sc)) (hsrc:fS Fs L g2 o2 news)
  (hl:news.length=k) (h1:gN news=true) (hfit:o+k<=cur.length) (hc:cur.take o++news++cur.drop (o+k)=cur') (hU:cf L g (.cells cur.toArray e (0,0)) (.cells cur'.toArray e (0,0)) L') (hd:Nat.blt d n=true)
  (K:ak P c n ops Fs L' (aT f d (.int .i64 k)) rest Q):
  ak P c n ops Fs L f (⟨some d,.call ⟨.builtin .copy, #[x,y], #[T,T]⟩,ty,ps,aft,none⟩::rest) Q:=by
 subst hel;refine mX O (bU hd) λh w re al=>?_;obtain⟨hdesc,_⟩:=(Tb T ti ht).el hk;have hu:=ts (Tb T ti ht) hdesc;obtain⟨inf,hinf,hi1,_⟩:=(Tb _ te hte).info;have hg:=re.sat.own _ hU.mem;simp only at hg;have hr:=run_copy_row (P:=P) w T T ty ti.elT g o k dc ⟨g2,o2,none⟩ k sc cur.toArray ti.elT news hu (by rw[hinf];simp[hi1,hsz]) hg (by simp[hl])
  (λj v hv=>by rw[nk];exact hsrc h w re.sat al j v hv) qK (kD.mp h1)
 have e2:(cur.toArray.toList.take o++news++cur.toArray.toList.drop (o+news.length)).toArray=cur'.toArray:=by rw[<-hc,hl]
 rw[e2] at hr;refine⟨.int .i64 k,w.setRow g cur'.toArray,Fs,L',h,?_,re.set hU O O O ?_ (setRow_heap w g cur.toArray _ _ (0,0) hg) (λk hk=>?_),al,K⟩
 ·simp only[execOp,resolve,bo,bS,bV,invoke,builtin,nN,dV,th,hx,hy,Bx.v_b,hr];simp[goInt,hl]
 ·simp[World.setRow]
 ·simp only[World.setRow,zU];rw[if_neg aa]
end Go.V
namespace Go.Proofs
open Tryz
open Go.V Go.Edges
variable {q:Sq} {p:Option Addr} {l:List Pt} {cp:Nat}
theorem ack {i j:Nat} (hij:i<j) (hj:j<=q.l.length):ai prog 297 [q.v,iv i,iv j].toArray [q.fact] [] (Da ((q.l.drop i).take (j-i))):=by
 obtain⟨p,l,cp⟩:=q;dsimp only at hj ⊢;refine GK (k:=2*l.length) (.head _) aa λg o cap e h1 h2 h3=>?_;obtain⟨rfl,rfl⟩:p=some ⟨g,o,none⟩/\cp=cap:=by simpa using e
 simp only[maxLen] at h2;have hflat:((bl l).drop (i*2)).take ((j-i)*2)=bl ((l.drop i).take (j-i)):=by rw[Vi,Vg]
 have hlen:((l.drop i).take (j-i)).length=j-i:=by rw[lV,jx];omega
 refine nT (gF (some ⟨g,o+i*2,none⟩) ((l.drop i).take (j-i)) (cp-i*2)) (λhp al=>⟨by rw[mY];omega,.inr ⟨g,o+i*2,cp-i*2,O,⟨by rw[hlen];omega,by simp only[maxLen];omega⟩,?_⟩⟩) ?_
 ·exact Cq (k:=i*2) (m:=(j-i)*2) (al (aO g o (bl l)) (.head _)) (by rw[mY];omega) hflat
 refine am func297 λ_=>(au) ?_;intro _;refine(aq) ?_;intro _;refine(iu)<|(C4)<|(bR)<|(AR)<|(oo)<|(zn) ?_;refine ac O (iM (m:=((i*2:Nat):Int)) O O aa ⟨aa,aa⟩ O)<|(zn) ?_;refine ac O (iM (m:=((j*2:Nat):Int)) O O aa ⟨aa,aa⟩ O) ?_;refine ac O (qi (size:=1) (r:=g) (o:=o) (len:=2*l.length) (cap:=cp) ab O O O O (.some O (l:=i*2) O) (.some O (l:=j*2) O) aa aa aa O)<|(ny)<|(jY)<|(eF)<|aH [gF (some ⟨g,o+i*2,none⟩) ((l.drop i).take (j-i)) (cp-i*2)] [] ?_;exact⟨⟨⟨_,_,_⟩,O,by simp only[bw,Sq.v,jF,xj,hlen];rw[show j*2-i*2=2*(j-i) from by omega,vK],rfl⟩,O⟩
end Go.Proofs
namespace Go.Proofs
open Tryz
open Go.V Go.Edges
variable {q:Sq} {p:Option Addr} {l:List Pt} {cp:Nat}
theorem XS (n:Nat):jA [aw 0] 1 (2*n)=bl (List.replicate n (0,0)):=by
 have h:=rX (F:=λp:Nat=>[aw p]) (zl:=[aw 0]) (k:=1) 0 rfl rfl bz (2*n);rw[h]
 induction n with
 |zero=>rfl
 |succ n ih=>
  rw[show 2*(n+1)=2*n+1+1 from by omega,Kj,Kj,dC,dC,ih (rX (F:=λp:Nat=>[aw p]) (zl:=[aw 0]) (k:=1) 0 rfl rfl bz (2*n)),Kj];rfl
theorem ada {l:List Pt} {i:Nat} {x:Pt} (hi:i<l.length) (hx:l[l.length-i-1]? =some x):l.reverse[i]? =some x:=by
 rw[List.getElem?_reverse hi,<-hx];congr 1;omega
theorem akO {Fs:List an} {L:List ae} {r o:Nat} {xs ys:List Value} (h:fS Fs L r o xs) (e:xs=ys):fS Fs L r o ys:=e▸h
theorem adb (h0:0<q.l.length) (hb:q.l.length<=1152921504606):ai prog 298 [q.v].toArray [q.fact] [] (Da q.l.reverse):=by
 obtain⟨p,l,cp⟩:=q;dsimp only at h0 hb ⊢;refine GK (k:=2*l.length) (.head _) aa λg o cap e h1 h2 h3=>?_;obtain⟨rfl,rfl⟩:p=some ⟨g,o,none⟩/\cp=cap:=by simpa using e
 simp only[maxLen] at h2;refine nT (gF (some ⟨g,o,none⟩) l cp) (λhp al=>al _ (.tail _ (.head _))) ?_;refine am func298 λ_=>(au) ?_;intro _;refine(aq) ?_;intro _;refine(iu)<|(C4)<|(rL)<|aj eA call98 (jB (l:=l))<|(fP)<|(dH) ?_;refine ml (e:=45) (size:=1) ab O O O O O O (zl:=[aw 0]) nA O (l:=2*l.length) (cp:=2*l.length) O O (bg _) O (by show 2*l.length*8<=_;omega) O λgr=>?_;rw[XS];refine(oQ)<|aU [(6,7),(17,45)] (λ(x:Nat×List Pt)=>x.1<=l.length/\x.2.length=l.length/\∀j,j<x.1->x.2[j]? =l.reverse[j]?) (λx=>[(6,iv x.1)]) (λ_=>[]) (λx=>[(gr,.cells (bl x.2).toArray 45 (0,0))]) (λx=>l.length-x.1) ((0,List.replicate l.length (0,0))) (⟨bf _,by simp,λ_ h=>absurd h (iZ _)⟩) λ⟨i,ws⟩ fr ⟨h5,h6,h7⟩=>?_;dsimp only at h5 h6 h7;refine(lN)<|ao ?_ ?_
 ·intro hc19;have hlt:i<l.length:=by have:=of_decide_eq_true hc19;omega
  obtain⟨x,hx⟩:∃x,l[l.length-i-1]? =some x:=⟨_,aG aa⟩;obtain⟨w0,hw0⟩:∃w,ws[i]? =some w:=⟨_,aG aa⟩;have hrx:=ada hlt hx;have hsrc:((bl l).drop ((l.length-i-1)*2)).take 2=[aw x.1,aw x.2]:=flat_take (F:=λp:Pt=>[.float .f64 p.1,.float .f64 p.2]) (λ_ _=>rfl) hx;refine(j5)<|(fb) ?_;refine ew (m:=((l.length-i:Nat):Int)) O O aa iA O ?_;refine ew (m:=((l.length-i-1:Nat):Int)) O O aa iA O<|(bt) ?_;refine cz cw 19 [] []<|(zn)<|(bh) ?_;refine ac O (iM (m:=((i*2:Nat):Int)) O O aa ⟨aa,aa⟩ O)<|(bh) ?_;refine ac O (dD (m:=((i+1:Nat):Int)) O O aa ⟨aa,aa⟩ O)<|(bh) ?_;refine ac O (iM (m:=(((i+1)*2:Nat):Int)) O O aa ⟨aa,aa⟩ O) ?_;refine ac O (qi (size:=1) (r:=gr) (o:=0) (len:=2*l.length) (cap:=2*l.length) ab O O O O (.some O (l:=i*2) O) (.some O (l:=(i+1)*2) O) aa aa aa O)<|(iS)<|(zn) ?_;refine ac O (iM (m:=(((l.length-i-1)*2:Nat):Int)) O O aa ⟨aa,aa⟩ O)<|(bh) ?_;refine ac O (dD (m:=((l.length-i-1+1:Nat):Int)) O O aa ⟨aa,aa⟩ O)<|(bh) ?_;refine ac O (iM (m:=(((l.length-i-1+1)*2:Nat):Int)) O O aa ⟨aa,aa⟩ O) ?_;refine ac O (qi (size:=1) (r:=g) (o:=o) (len:=2*l.length) (cap:=cp) ab O O O O (.some O (l:=(l.length-i-1)*2) O) (.some O (l:=(l.length-i-1+1)*2) O) aa aa aa O)<|(jY) ?_;rw[show(i+1)*2-i*2=2 from by omega,show(l.length-i-1+1)*2-(l.length-i-1)*2=2 from by omega];refine ah0 (k:=2) (news:=[aw x.1,aw x.2]) (cur:=bl ws) (cur':=bl (ws.set i x)) ab O O O O O O O (akO (jp (k:=(l.length-i-1)*2*1) (m:=2) (aR (xs:=bl l) mA)) (by rw[vK];exact hsrc)) O O (by rw[mY];omega) (by rw[gX,vK];exact tI (F:=λp:Pt=>[.float .f64 p.1,.float .f64 p.2]) (k:=2) x (λ_ _=>O) hw0) uA O<|(aN)<|(zb) ?_;refine dD (m:=((i+1:Nat):Int)) O O aa ⟨aa,aa⟩ O ?_;refine(bt) ?_;exact⟨(i+1,ws.set i x),oA,⟨oA,by simpa using h6,Eh h7 hrx aa⟩,lA,kA,fA,hA⟩
 ·intro hc19;have hge:i=l.length:=by have:=of_decide_eq_false hc19;omega
  have hws:ws=l.reverse:=R6 h7 aa (by simpa using h6);subst hws;refine(jh) ?_;have hsl:aJ 45 1 (.slice (some ⟨gr,0,none⟩) (2*l.length) (2*l.length)) (2*l.length) (bl l.reverse) [(gr,.cells (bl l.reverse).toArray 45 (0,0))]:=⟨by rw[mY];simp,.inr ⟨gr,_,_,rfl,rfl,bg _,by simp only[maxLen];omega,by simp[mY],by rw[vK];exact eQ (by rw[mY];simp)⟩⟩;refine eN hsl tA ?_;refine cI (gF (some ⟨gr,0,none⟩) l.reverse (2*l.length)) (λhp al=>by{show(bF 1 (.slice (some ⟨gr,0,none⟩) (2*l.reverse.length) (2*l.length)) (2*l.reverse.length) (bl l.reverse)).p hp;rw[List.length_reverse];exact al _ (.head _)})<|(qB)<|(aB)<|(iw)<|aH [gF (some ⟨gr,0,none⟩) l.reverse (2*l.length)] [] ?_;exact⟨⟨⟨some ⟨gr,0,none⟩,l.reverse,2*l.length⟩,O,by{show _=Value.agg #[.int .u8 0,.slice (some ⟨gr,0,none⟩) (2*l.reverse.length) (2*l.length)];rw[List.length_reverse];rfl},O⟩,O⟩
end Go.Proofs
namespace Go.Proofs
open Tryz
open Go.V Go.Edges
variable {d:DS} {q:Sq} {a b:Pt} {dr:Nat}
theorem aeI {r:Nat} (h:r∉d.hs.map (·.2)):(d.newE q r).LL=d.dB::(d.hm,bW (fB (d.hs++[(keyOf q.l,r)])))::(d.vm,bW (eL d.vs))::
  (vB d.V d.vs++(iB d.V d.M d.vs++(eB d.E d.hs++[(r,.cells (vQ q).enc.toArray 281 (0,0))]))):=by
 have hne:∀v∈d.hs,v.2≠r:=λv hv e=>h (aM.2 ⟨v,hv,e⟩);have e1:eB (d.newE q r).E (d.hs++[(keyOf q.l,r)])=eB d.E d.hs++[(r,.cells (vQ q).enc.toArray 281 (0,0))]:=by
  unfold eB;rw[dX];congr 1
  ·refine(FE) ?_;intro v hv;simp only[DS.newE,if_neg (hne v hv)]
  ·simp[DS.newE]
 show d.dB::(d.hm,bW (fB (d.hs++[(keyOf q.l,r)])))::(d.vm,bW (eL d.vs))::(vB d.V d.vs++(iB d.V d.M d.vs++eB (d.newE q r).E (d.hs++[(keyOf q.l,r)])))=_;rw[e1]
theorem adW (r k it a b c:ae) (A B C:List ae):(r::k::it::a::b::c::(A++(B++C))).Perm (k::it::(a::b::c::(A++(B++(C++[r]))))):=by
 have h1:(A++(B++(C++[r]))).Perm (r::(A++(B++C))):=by
  rw[<-cG,<-cG];refine(PO _ _).trans ?_;rw[cG]
 have h2:([k,it,a,b,c]++r::(A++(B++C))).Perm (r::([k,it,a,b,c]++(A++(B++C)))):=yi;exact(h2.symm).trans (DC [k,it,a,b,c] h1.symm)
theorem aiL {k it a b c:ae} {E:Nat->cq} {hs:List (PP×Nat)} {r:Nat} {o:Obj} {X Y:List ae} (h:(ids (k::it::(a::b::c::(X++(Y++(eB E hs++[(r,o)])))))).Nodup):r∉hs.map (·.2):=by
 have h1:=yz (yz (mh (mh (mh (mh (mh h))))));rw[HM,Cc] at h1;intro hm;exact(uF.1 h1).2.2 r hm r (.head _) O
theorem ajr (l:List Nat):∃r,r∉l:=by
 have:∀l:List Nat,∃b,∀x∈l,x<b:=by
  intro l
  induction l with
  |nil=>exact⟨0,λ_ h=>nomatch h⟩
  |cons a l ih=>
   obtain⟨b,hb⟩:=ih;refine⟨max (a+1) b,λx hx=>?_⟩;rcases bm.1 hx with rfl|hx
   ·omega
   ·have:=hb x hx;omega
 obtain⟨b,hb⟩:=this l;exact⟨b,λh=>Nat.lt_irrefl _ (hb b h)⟩
theorem BZ {l:List Pt} (ha:l[0]? =some a) (hb:l[1]? =some b):keyOf l=(a,b):=by simp[keyOf,j7,ha,hb]
def A6 (d:DS):Prop:=∀e∈d.hs,b6 e.1.1/\b6 e.1.2
theorem Ns {r:Nat} (h:qU d.hs (keyOf q.l)=none):dt d q r=(r,d.newE q r):=by unfold dt;rw[h]
theorem Nr {r e:Nat} (h:qU d.hs (keyOf q.l)=some e):dt d q r=(e,d):=by unfold dt;rw[h]
theorem UU (hdr:d.dr=dr) (ha:q.l[0]? =some a) (hb:q.l[1]? =some b) (hn:b6 a/\b6 b) (hh:A6 d):ai prog 299 [aF dr,q.v].toArray [q.fact] d.LL
  (λv Fs' L'=>∃r,r∉d.hs.map (·.2)/\v=aF (dt d q r).1/\Fs'=[]/\L'=(dt d q r).2.LL):=by
 subst hdr;have hk:=BZ ha hb;rcases hg:qU d.hs (a,b) with _|e
 ·refine am func299 λ_=>(au) ?_;intro r3;refine(bR) ?_;refine cz cw 6 [5] []<|(jf) ?_;refine ac O (λkX=>aj eA call131 (iO (i:=0) ha) kX)<|(jf) ?_;refine ac O (λkX=>aj eA call131 (iO (i:=1) hb) kX)<|(AY)<|(dT)<|(aq) ?_;intro r5;refine(iy)<|(dS)<|(vF)<|(vu)<|(JI) ?_;refine ac O (yK ab O O O O MN O (u:=lr (a,b)) O (eo (kvs:=fB d.hs) mA) (MF hn hh) (o:=none) (by rw[M4,hg];rfl) O)<|(bh)<|(JA)<|(JA)<|(wv)<|(wv)<|(jY)<|(AU)<|(oR)<|(vE)<|(cR)<|(cN)<|(cg) ?_;intro re;refine(bt)<|(CY)<|(vu)<|(JI)<|(bh)<|(jY) ?_;refine qZ ab O O MN O (u:=lr (a,b)) (v:=aF re) O O (kvs:=fB d.hs) (kvs':=fB (d.hs++[((a,b),re)])) (HC (by rw[M4,hg];rfl)) uA (MF hn hh) ?_;refine ak.perm ?_ (adW _ _ _ _ _ _ (vB d.V d.vs) (iB d.V d.M d.vs) (eB d.E d.hs));refine Nc ?_;intro hnd;have hre:=aiL hnd;have hLL:=aeI (q:=q) hre;rw[hk] at hLL;refine(qC)<|(bO) ?_;exact .ret (.cons (lZ O) (.nil)) (L':=(d.newE q re).LL) gy (by rw[hLL];repeat (first|exact gx _|apply pd)) ⟨re,hre,by rw[Ns (by rw[hk];exact hg)];rfl,O,by rw[Ns (by rw[hk];exact hg)]⟩
 ·obtain⟨rf,hrf⟩:=ajr (d.hs.map (·.2));refine am func299 λ_=>(au) ?_;intro r3;refine(bR) ?_;refine cz cw 6 [5] []<|(jf) ?_;refine ac O (λkX=>aj eA call131 (iO (i:=0) ha) kX)<|(jf) ?_;refine ac O (λkX=>aj eA call131 (iO (i:=1) hb) kX)<|(AY)<|(dT)<|(aq) ?_;intro r5;refine(iy)<|(dS)<|(vF)<|(vu)<|(JI) ?_;refine ac O (yK ab O O O O MN O (u:=lr (a,b)) O (eo (kvs:=fB d.hs) mA) (MF hn hh) (o:=some (aF e)) (by rw[M4,hg];rfl) O)<|(bh)<|(JA)<|(JA)<|(wv)<|(wv)<|(jY)<|(AU)<|(oR)<|(gH)<|(bJ)<|(bO) ?_;exact .ret (.cons (lZ O) (.nil)) (L':=d.LL) gy (by repeat (first|exact gx _|apply pd)) ⟨rf,hrf,by rw[Nr (by rw[hk];exact hg)];rfl,O,by rw[Nr (by rw[hk];exact hg)]⟩
end Go.Proofs
namespace Go.Proofs
open Tryz
open Go.V Go.Edges
variable {d:DS} {q:Sq} {a b z y:Pt} {dr:Nat}
structure OV (d d':DS):Prop where
 hs:d'.hs=d.hs
 vs:d'.vs=d.vs
 dr:d'.dr=d.dr
 im:∀v,(d'.V v).im=(d.V v).im
theorem mU {d:DS} {k:PP} {r:Nat} (hr:(k,r)∈d.hs) (hn:(ids d.LL).Nodup) (g:cq->cq):
  ∃d',d'=d.modE r g/\cf d.LL r (.cells (d.E r).enc.toArray 281 (0,0)) (.cells (g (d.E r)).enc.toArray 281 (0,0)) d'.LL/\(ids d'.LL).Nodup/\OV d d':=
 ⟨_,rfl,Mb hr hn,by rw[(Mb hr hn).ids];exact hn,⟨rfl,rfl,rfl,λ_=>rfl⟩⟩
theorem SI {d:DS} {k:Pt} {v:Nat} (hr:(k,v)∈d.vs) (hn:(ids d.LL).Nodup) (e:Nat):
  ∃d',d'=d.modM v e/\cf d.LL (d.V v).im (bW (gO (d.M v))) (bW (gO (kH (d.M v) e))) d'.LL/\(ids d'.LL).Nodup/\OV d d':=
 ⟨_,rfl,SH hr hn,by rw[(SH hr hn).ids];exact hn,⟨rfl,rfl,rfl,λ_=>rfl⟩⟩
theorem EH:qH prog 258 EG:=by
 obtain⟨j,hj,hs⟩:=iE.1 (show(prog.info? 281).map (·.size)=some 14 by kernel_rfl);exact agj br hj aa
theorem MH {d:DS} {Fs:List an} {L:List ae} {e:Nat} {l:List Nat} (h:∀x∈e::l,∃k,(k,x)∈d.hs) (hs:∀b∈d.LL,b∈L):sZ EG Fs L (aF e::(gO l).map (·.1)):=λhp w sa _ u hu=>by
 have key:∀x,(∃k,(k,x)∈d.hs)->EG w (aF x):=λx ⟨k,hk⟩=>⟨x,_,_,rfl,sa.own _ (hs _ (cK hk))⟩;rcases bm.1 hu with rfl|hm
 ·exact key e (h e (.head _))
 ·rw[w8] at hm;obtain⟨x,hx,rfl⟩:=aM.1 hm;exact key x (h x (.tail _ hx))
def JN (d:DS):Prop:=∀p v,(p,v)∈d.vs->∀r∈d.M v,∃k,(k,r)∈d.hs
structure alO (d d1:DS):Prop where
 hs:∀x,x∈d.hs->x∈d1.hs
 vs:d1.vs=d.vs
 dr:d1.dr=d.dr
 V:d1.V=d.V
 M:d1.M=d.M
theorem Ch {r f:Nat} {D:DS} (h:dt d q r=(f,D)):alO d D/\(keyOf q.l,f)∈D.hs:=by
 unfold dt at h;cases hg:qU d.hs (keyOf q.l) with
 |some e=>
  rw[hg] at h;cases h;exact⟨⟨λ_ h=>h,O,O,O,O⟩,Ue hg⟩
 |none=>
  rw[hg] at h;cases h;exact⟨⟨λ_ h=>bq _ h,O,O,O,O⟩,bI _ (.head _)⟩
theorem Nt {r f:Nat} {D:DS} (h:dt d q r=(f,D)) (hh:A6 d) (hk:b6 (keyOf q.l).1/\b6 (keyOf q.l).2):A6 D:=by
 unfold dt at h;cases hg:qU d.hs (keyOf q.l) with
 |some e=>rw[hg] at h;cases h;exact hh
 |none=>
  rw[hg] at h;cases h;intro e he;rcases bB.1 he with he|he
  ·exact hh e he
  ·simp at he;subst he;exact hk
def cq.org_ (e:cq) (x:Option Nat):cq:={e with org:=x}
def cq.tw_ (e:cq) (x:Option Nat):cq:={e with tw:=x}
def cq.nx_ (e:cq) (x:Option Nat):cq:={e with nx:=x}
def cq.pv_ (e:cq) (x:Option Nat):cq:={e with pv:=x}
abbrev ajO (sv ev f g:Nat):Value:= .agg #[aF sv,aF ev,aF f,aF g]
theorem WW (hdr:d.dr=dr) (ha:q.l[0]? =some a) (hb:q.l[1]? =some b) (hz:q.l.reverse[0]? =some z) (hy:q.l.reverse[1]? =some y) (hl:q.l.length<=1152921504606) (hnn:(b6 a/\b6 b)/\b6 z/\b6 y) (hh:A6 d) (hv:∀e∈d.vs,b6 e.1) (hin:JN d)
  {sv ev:Nat} (hsv:lW d.vs a=some sv) (hev:lW d.vs z=some ev):ai prog 204 [aF dr,q.v].toArray [q.fact] d.LL
  (λv Fs' L'=>∃(q':Sq) (r1 r2:Nat),(q'.l=q.l.reverse/\r1∉d.hs.map (·.2)/\r2∉(dt d q r1).2.hs.map (·.2))/\v=ajO sv ev (dd d q q' r1 r2 sv ev).fw (dd d q q' r1 r2 sv ev).rv/\Fs'=[q'.fact]/\L'=(dd d q q' r1 r2 sv ev).d.LL):=by
 have hlen:=da hb;have msv:=Bv hsv;have mev:=Bv hev;refine am func204 λ_=>(au) ?_;intro r3;refine(aq) ?_;intro r4;refine(cn)<|(cR)<|aj eA call98 (jB (l:=q.l))<|(cF)<|(kU) ?_;refine gz O (λhc16=>absurd hc16 (by have:=of_decide_eq_true hc16;omega)) (λhc16=>(Xe)<|aI eA call298 (adb (q:=q) aa hl) λv0 Fs0 ⟨q',hq',e1,e2⟩=>?_);subst e1;subst e2;rw[<-hq'] at hz hy;refine(aq) ?_;intro r6;refine(wO)<|aj eA call131 (iO (i:=0) ha)<|(aq) ?_;intro r7;refine(wO)<|aj eA call131 (iO (i:=0) hz)<|(aq) ?_;intro r8;refine(cu)<|(bJ)<|(eH)<|aS eA call299 (UU (d:=d) (q:=q) hdr ha hb hnn.1 hh) λv1 Fs1 L1 ⟨r1,hr1,e1,e2,e3⟩=>?_;subst e1;subst e2;subst e3;obtain⟨f,D1,hf1⟩:∃f D,dt d q r1=(f,D):=⟨_,_,rfl⟩;rw[hf1];dsimp only;obtain⟨g1,m1⟩:=Ch hf1;have hh1:=Nt hf1 hh (by rw[BZ ha hb];exact hnn.1);refine(cF)<|(eH)<|aS eA call299 (UU (d:=D1) (q:=q') (g1.dr.trans hdr) hz hy hnn.2 hh1) λv2 Fs2 L2 ⟨r2,hr2,e1,e2,e3⟩=>?_;subst e1;subst e2;subst e3;obtain⟨g,D2,hg1⟩:∃g D,dt D1 q' r2=(g,D):=⟨_,_,rfl⟩;rw[hg1];dsimp only;obtain⟨g2,m2⟩:=Ch hg1;have hdr2:D2.dr=dr:=g2.dr.trans (g1.dr.trans hdr);have hvs2:D2.vs=d.vs:=g2.vs.trans g1.vs;have hM2:D2.M=d.M:=g2.M.trans g1.M;have hV2:D2.V=d.V:=g2.V.trans g1.V;have msv2:(a,sv)∈D2.vs:=by rw[hvs2];exact msv
 have mev2:(z,ev)∈D2.vs:=by rw[hvs2];exact mev
 have hf2:(keyOf q.l,f)∈D2.hs:=g2.hs _ m1;have hin2:JN D2:=λp v hp r hr=>by{rw[hvs2] at hp;rw[hM2] at hr;obtain⟨k,hk⟩:=hin p v hp r hr;exact⟨k,g2.hs _ (g1.hs _ hk)⟩}
 have hv2:∀e∈D2.vs,b6 e.1:=by rw[hvs2];exact hv
 subst hdr2;refine(bR)<|(CY)<|(mE) ?_;refine ac O (az ab O O O (bj (mT ((Bh _:D2.dB∈D2.LL))) O O) O)<|(jf) ?_;refine ac O (HR ab O O O O tG O (u:=pv a) O (eo (kvs:=eL D2.vs) (mT ((.tail _ (.tail _ (.head _)):(D2.vm,bW (eL D2.vs))∈D2.LL)))) (BX (V:=aF) hnn.1.1 hv2) (o:=some (aF sv)) (by rw[Kz,hvs2,hsv];rfl) O)<|(jY)<|(bR)<|(CY)<|(mE) ?_;refine ac O (az ab O O O (bj (mT ((Bh _:D2.dB∈D2.LL))) O O) O)<|(jf) ?_;refine ac O (HR ab O O O O tG O (u:=pv z) O (eo (kvs:=eL D2.vs) (mT ((.tail _ (.tail _ (.head _)):(D2.vm,bW (eL D2.vs))∈D2.LL)))) (BX (V:=aF) hnn.2.1 hv2) (o:=some (aF ev)) (by rw[Kz,hvs2,hev];rfl) O)<|(jY)<|(bR)<|(FC) ?_;intro hnd;have n2:(ids D2.LL).Nodup:=(by repeat (first|exact hnd|refine yz hnd|refine mh ?_|refine yz ?_));obtain⟨D3,eD3,uD3,nD3,kD3⟩:=SI msv2 n2 f;have msv3:(a,sv)∈D3.vs:=kD3.vs▸msv2;have mev3:(z,ev)∈D3.vs:=kD3.vs▸mev2;obtain⟨D4,eD4,uD4,nD4,kD4⟩:=SI mev3 nD3 g;have hf3:(keyOf q.l,f)∈D3.hs:=kD3.hs▸hf2;have hg3:(keyOf q'.l,g)∈D3.hs:=kD3.hs▸m2;have hf4:(keyOf q.l,f)∈D4.hs:=kD4.hs▸hf3;have hg4:(keyOf q'.l,g)∈D4.hs:=kD4.hs▸hg3;have hin3:∀x∈g::D3.M ev,∃k,(k,x)∈D3.hs:=λx hx=>by{rcases bm.1 hx with rfl|hx;exact⟨_,hg3⟩;rw[eD3,Hq] at hx;rw[kD3.hs];split at hx;(rcases xC.1 hx with hx|rfl;exact hin2 _ _ msv2 _ hx;exact⟨_,hf2⟩);exact hin2 _ _ mev2 _ hx}
 refine(aY)<|(Fy) ?_;refine az ab O O O (bj (mT (jQ msv2)) O O) O<|(aB)<|(cN) ?_;refine qZ ab O O EH O (u:=aF f) (v:= .agg #[]) O O (kvs:=gO (D2.M sv)) (kvs':=gO (kH (D2.M sv) f)) (To _ _) (uT (uD3)) (MH (d:=D2) (λx hx=>by{rcases bm.1 hx with rfl|hx;exact⟨_,hf2⟩;exact hin2 _ _ msv2 _ hx}) (λb hb=>(mT (hb))))<|(qC)<|(Fy) ?_;refine az ab O O O (bj (mT (jQ mev3)) O O) O<|(aB)<|(cN) ?_;refine qZ ab O O EH O (u:=aF g) (v:= .agg #[]) O O (kvs:=gO (D3.M ev)) (kvs':=gO (kH (D3.M ev) g)) (To _ _) (uT (uD4)) (MH (d:=D3) hin3 (λb hb=>(mT (hb))))<|(cn) ?_;obtain⟨D5,eD5,uD5,nD5,kD5⟩:=mU hf4 nD4 (λe=>{e with org:=some sv});have hf5:(keyOf q.l,f)∈D5.hs:=kD5.hs▸hf4;have hg5:(keyOf q'.l,g)∈D5.hs:=kD5.hs▸hg4;refine(CR) ?_;refine cS ab O (cs:=(D4.E f).enc) (cs':=((D4.E f).org_ (some sv)).enc) O O O O O O O (uT (uD5))<|(cn) ?_;obtain⟨D6,eD6,uD6,nD6,kD6⟩:=mU hg5 nD5 (λe=>{e with org:=some ev});have hf6:(keyOf q.l,f)∈D6.hs:=kD6.hs▸hf5;have hg6:(keyOf q'.l,g)∈D6.hs:=kD6.hs▸hg5;refine(CR) ?_;refine cS ab O (cs:=(D5.E g).enc) (cs':=((D5.E g).org_ (some ev)).enc) O O O O O O O (uT (uD6))<|(cn) ?_;obtain⟨D7,eD7,uD7,nD7,kD7⟩:=mU hf6 nD6 (λe=>{e with tw:=some g});have hf7:(keyOf q.l,f)∈D7.hs:=kD7.hs▸hf6;have hg7:(keyOf q'.l,g)∈D7.hs:=kD7.hs▸hg6;refine(CR) ?_;refine cS ab O (cs:=(D6.E f).enc) (cs':=((D6.E f).tw_ (some g)).enc) O O O O O O O (uT (uD7))<|(cn) ?_;obtain⟨D8,eD8,uD8,nD8,kD8⟩:=mU hg7 nD7 (λe=>{e with tw:=some f});have hf8:(keyOf q.l,f)∈D8.hs:=kD8.hs▸hf7;have hg8:(keyOf q'.l,g)∈D8.hs:=kD8.hs▸hg7;refine(CR) ?_;refine cS ab O (cs:=(D7.E g).enc) (cs':=((D7.E g).tw_ (some f)).enc) O O O O O O O (uT (uD8))<|(cn) ?_;obtain⟨D9,eD9,uD9,nD9,kD9⟩:=mU hf8 nD8 (λe=>{e with nx:=some g});have hf9:(keyOf q.l,f)∈D9.hs:=kD9.hs▸hf8;have hg9:(keyOf q'.l,g)∈D9.hs:=kD9.hs▸hg8;refine(CR) ?_;refine cS ab O (cs:=(D8.E f).enc) (cs':=((D8.E f).nx_ (some g)).enc) O O O O O O O (uT (uD9))<|(cn) ?_;obtain⟨D10,eD10,uD10,nD10,kD10⟩:=mU hf9 nD9 (λe=>{e with pv:=some g});have hf10:(keyOf q.l,f)∈D10.hs:=kD10.hs▸hf9;have hg10:(keyOf q'.l,g)∈D10.hs:=kD10.hs▸hg9;refine(CR) ?_;refine cS ab O (cs:=(D9.E f).enc) (cs':=((D9.E f).pv_ (some g)).enc) O O O O O O O (uT (uD10))<|(cn) ?_;obtain⟨D11,eD11,uD11,nD11,kD11⟩:=mU hg10 nD10 (λe=>{e with nx:=some f});have hf11:(keyOf q.l,f)∈D11.hs:=kD11.hs▸hf10;have hg11:(keyOf q'.l,g)∈D11.hs:=kD11.hs▸hg10;refine(CR) ?_;refine cS ab O (cs:=(D10.E g).enc) (cs':=((D10.E g).nx_ (some f)).enc) O O O O O O O (uT (uD11))<|(cn) ?_;obtain⟨D12,eD12,uD12,nD12,kD12⟩:=mU hg11 nD11 (λe=>{e with pv:=some f});have hf12:(keyOf q.l,f)∈D12.hs:=kD12.hs▸hf11;have hg12:(keyOf q'.l,g)∈D12.hs:=kD12.hs▸hg11;refine(CR) ?_;refine cS ab O (cs:=(D11.E g).enc) (cs':=((D11.E g).pv_ (some f)).enc) O O O O O O O (uT (uD12))<|(cn) ?_;have hfin:dd d q q' r1 r2 sv ev=⟨D12,sv,ev,f,g⟩:=by{unfold dd;simp only[hf1,hg1];rw[eD12,eD11,eD10,eD9,eD8,eD7,eD6,eD5,eD4,eD3]}
 refine(aY)<|(mD)<|(iw) ?_;exact .ret (.cons (xm ab O O O mA O) (.nil)) (Fs':=[q'.fact]) (L':=D12.LL) (mP mA gy) (by repeat (first|exact gx _|apply pd)) ⟨q',r1,r2,⟨hq',hr1,by rw[hf1];exact hr2⟩,by rw[hfin];rfl,O,by rw[hfin]⟩
end Go.Proofs
