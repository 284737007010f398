/- Part 5 of the proof that FnMapBorders returns true for every input that its row lets in. No further condition. -/
import Derived.Test.YtpddkliglnoaaaaGreatDoorA04
set_option linter.all false
set_option autoImplicit true
set_option relaxedAutoImplicit true
namespace Go.Proofs
open Tryz
open Go.V
abbrev OW (S:BI->Prop) (N g n:Nat):cZ:=λv Fs' L'=>(∃r V z,v= .pointer (some ⟨r,0,none⟩)/\Fs'=[kL S r V z]/\zB n z)/\∃xs',jw S N xs'/\L'=[eW g xs']
abbrev AN:=Nat×Nat×Nat
def zD (g:Nat) (x:AN):List Value:=[uZ g x.1 x.2.1 x.2.2]
abbrev yt:RE:=⟨(0,0,0,0),none,0⟩
abbrev TN:=Nat×(bH->List Int)×Nat
abbrev Vp (S:BI->Prop) (c:TN):an:=kL S c.1 c.2.1 c.2.2
variable {S:BI->Prop} {N g a n cap M p:Nat} {xs:List BI} {ps:List AN}
theorem q9 {Fs:List an} {L:List ae} {r off:Nat} {α:Type} {F:α->List Value} {k:Nat} {xs:List α} {j:Nat} {x:α} {i:Nat} {v:Value} (h:fS Fs L r 0 (xs.flatMap F))
  (hk:∀y∈xs,(F y).length=k) (hx:xs[j]? =some x) (hv:(F x)[i]? =some v) (ho:off=j*k+i):uz Fs L r off v:=jo (tl:=[]) (by simpa using h) hk hx hv ho
def BW (el:List RE) (cs:List TN):Prop:=∀(j:Nat) (c:TN),cs[j]? =some c->∃e,el[j]? =some e/\e.c=some c.1
theorem Tw {el:List RE} {cs:List TN} {i:Nat} {e:RE} (h:BW el cs) (hl:cs.length<=i):BW (el.set i e) cs:=λj c hc=>by
 obtain⟨e',h1,h2⟩:=h j c hc;have:=da hc;exact⟨e',by rw[pe aa];exact h1,h2⟩
theorem aga {el:List RE} {cs:List TN} {e:RE} {c:TN} (h:BW el cs) (he:el[cs.length]? =some e) (hc:e.c=some c.1):BW el (cs++[c]):=λj c' hj=>by
 rcases zV j cs.length with h'|h'|h'
 ·rw[Bp h'] at hj;exact h j c' hj
 ·subst h';simp at hj;subst hj;exact⟨e,he,hc⟩
 ·rw[yl aa] at hj;obtain⟨d,hd⟩:∃d,j-cs.length=d+1:=⟨j-cs.length-1,aa⟩;rw[hd] at hj;simp at hj
theorem aez {r m:Nat} {el:List RE} {cs:List TN} {Fs:List an} (h1:el.length=4) (h2:1<=m) (h3:m<=4) (h4:cs.length=m) (hk:BW el cs) (hp:PH) (al:cr Fs hp) (hr:aO r 0 (el.flatMap RE.enc++[iv m])∈Fs) (hc:∀c∈cs,Vp S c∈Fs):
  ∃V z,(kL S r V z).p hp/\z=((List.range m).map λi=>1+((cs[i]?).map (·.2.2)).getD 0).sum:=by
 refine⟨_,_,tW.mk el m (λi=>((cs[i]?).map (·.2.1)).getD λ_=>[]) (λi=>((cs[i]?).map (·.2.2)).getD 0) h1 h2 h3 (al _ hr) (λi e hi he hn=>?_) (λi e c hi he hs=>?_),O⟩
 ·obtain⟨c,hci⟩:∃c,cs[i]? =some c:=⟨_,aG aa⟩;obtain⟨e',h5,h6⟩:=hk i c hci;rw[he] at h5;cases h5;rw[hn] at h6;cases h6
 ·obtain⟨c',hci⟩:∃c,cs[i]? =some c:=⟨_,aG aa⟩;obtain⟨e',h5,h6⟩:=hk i c' hci;rw[he] at h5;cases h5;rw[hs] at h6;cases h6;have:=al _ (hc c' (bn hci));simp only[hci,pX,mM];exact this
def HD (ps:List AN) (cs:List TN):Prop:=∀(j:Nat) (c:TN) (x:AN),cs[j]? =some c->ps[j]? =some x->zB x.2.1 c.2.2
theorem af9 {ps:List AN} {cs:List TN} {c:TN} {x:AN} (h:HD ps cs) (hx:ps[cs.length]? =some x) (hz:zB x.2.1 c.2.2):HD ps (cs++[c]):=λj c' x' hj hx'=>by
 rcases zV j cs.length with h'|h'|h'
 ·rw[Bp h'] at hj;exact h j c' x' hj hx'
 ·subst h';simp at hj;subst hj;rw[hx] at hx';cases hx';exact hz
 ·rw[yl aa] at hj;obtain⟨d,hd⟩:∃d,j-cs.length=d+1:=⟨j-cs.length-1,aa⟩;rw[hd] at hj;simp at hj
theorem Tv {ps:List AN} {cs:List TN} (h:HD ps cs) (hl:cs.length=ps.length) (h2:∀x∈ps,2<=x.2.1):∀m,m<=ps.length->((List.range m).map λi=>1+((cs[i]?).map (·.2.2)).getD 0).sum+m<=2*((ps.take m).map (·.2.1)).sum
 |0,_=>by simp
 |m+1,hm=>by
  have ih:=Tv h hl h2 m aa;obtain⟨c,hc⟩:∃c,cs[m]? =some c:=⟨_,aG aa⟩;obtain⟨x,hx⟩:∃x,ps[m]? =some x:=⟨_,aG aa⟩;have hz:=(h m c x hc hx).2 (h2 x (bn hx));rw[Du,dX,Bl,Gf,hx,dX,Bl];simp only[dV,th,Po,List.sum_nil,hc,pX,mM,Option.toList_some];omega
theorem Wv {nn:Nat} (H:∀(a n cap:Nat) (xs:List BI),jw S N xs->a+n<=N->1<=n->n<M->n<=cap->ai prog 319 [uZ g a n cap].toArray [] [eW g xs] (OW S N g n))
  (hS:jw S N xs) (hN:N<=1048576) (h1:2<=ps.length) (h4:ps.length<=4) (hnn:(ps.map (·.2.1)).sum=nn) (hps:∀x∈ps,x.1+x.2.1<=N/\2<=x.2.1/\x.2.1<M/\x.2.1<=x.2.2):
  ai prog 385 [.slice (some ⟨p,0,none⟩) ps.length ps.length].toArray [aO p 0 (ps.flatMap (zD g))] [eW g xs] (OW S N g nn):=by
 refine am func385 λ_=>(Jl)<|(dH)<|(cN)<|(cg) ?_;intro rt;refine(nu)<|aU [(4,6),(13,35)] (λ(x:Nat×List RE×List TN×List BI)=>x.1<=ps.length/\x.2.1.length=4/\x.2.2.1.length=x.1/\BW x.2.1 x.2.2.1/\jw S N x.2.2.2/\HD ps x.2.2.1) (λx=>[(13,iv x.1)]) (λx=>x.2.2.1.map (Vp S)) (λx=>[(rt,.cells (x.2.1.flatMap RE.enc++[iv ps.length]).toArray 346 (0,0)),eW g x.2.2.2]) (λx=>ps.length-x.1) (((0,[yt,yt,yt,yt],[],xs):Nat×List RE×List TN×List BI)) (⟨bf _,O,O,λ_ _ h=>by simp at h,hS,λ_ _ _ h=>by simp at h⟩) λ⟨i,el,cs,ys⟩ fr ⟨h5,h6,h7,h8,h9,h10⟩=>?_;dsimp only at h5 h6 h7 h8 h9 h10;refine(cM)<|ao ?_ ?_
 ·intro hc14;have hlt:i<ps.length:=by have:=of_decide_eq_true hc14;dsimp only at this;omega
  obtain⟨x,hx⟩:∃x,ps[i]? =some x:=⟨_,aG hlt⟩;obtain⟨hx1,hx2,hx3,hx4⟩:=hps x (bn hx);obtain⟨e0,he0⟩:∃e,el[i]? =some e:=⟨_,aG aa⟩;refine(rK) ?_;refine bp (s:=1) (i:=i) ab O O O O O aa aa O ?_;refine az ab O O O (q9 (k:=1) (aR mA) (λ_ _=>O) hx (i:=0) O aa) O<|(gb)<|(cF)<|aS eA call319 (H x.1 x.2.1 x.2.2 ys h9 hx1 aa hx3 hx4) λv Fs' L' ⟨⟨rc,V,z,e1,e2,hzb⟩,zs,hzs,e3⟩=>?_;subst e1;subst e2;subst e3;refine(iz)<|(aB)<|(Fy) ?_;refine fg (s:=6) (i:=i) ab O O O O O aa (by show _<4;omega) O<|(cQ) ?_;refine M7 (F:=RE.enc) (k:=6) (xs:=el) (tl:=[iv ps.length]) (j:=i) (i:=4) (e:=⟨e0.b,some rc,e0.id⟩) (e0:=e0) ab O O O O O O (qq _) he0 (lT O) O aa uA<|(aN) ?_;refine cz cw 6 [3] []<|(zn)<|(mE)<|(dT)<|aI eA call412 (akX (S:=S) (r:=rc) (V:=V) (z:=z)) λv Fs' ⟨b,e1,e2⟩=>?_;subst e1;subst e2;refine(iy) ?_;refine fg (s:=6) (i:=i) ab O O O O O aa (by show _<4;omega) O<|(cQ) ?_;refine M7 (F:=RE.enc) (k:=6) (xs:=el.set i ⟨e0.b,some rc,e0.id⟩) (tl:=[iv ps.length]) (j:=i) (i:=0) (e:=⟨b,some rc,e0.id⟩) (e0:=⟨e0.b,some rc,e0.id⟩) ab O O O O O O (qq _) (by rw[yk aa]) (lT O) O aa uA ?_;refine(rM) ?_;exact⟨(i+1,(el.set i ⟨e0.b,some rc,e0.id⟩).set i ⟨b,some rc,e0.id⟩,cs++[(rc,V,z)],zs),oA,⟨oA,by simp[h6],by simp[h7],aga (Tw (Tw h8 aa) aa) (e:=⟨b,some rc,e0.id⟩) (by rw[h7,yk qK]) rfl,hzs,af9 h10 (by rw[h7];exact hx) hzb⟩,lA,kA,Hs mA sA,hA⟩
 ·intro hc14;have hge:i=ps.length:=by have:=of_decide_eq_false hc14;dsimp only at this;omega
  refine(jh) ?_;refine dl (r:=rt) tA ?_;refine yL (α:=(bH->List Int)×Nat) (φ:=λy=>zB nn y.2) (G:=λy=>[kL S rt y.1 y.2]) (λhp al=>by obtain⟨V,z,hh,hzz⟩:=aez (S:=S) h6 (by omega) h4 (h7.trans hge) h8 hp al mA (λc hc=>by repeat (first|exact bq _ (nJ hc)|apply vI|apply bI));exact⟨(V,z),by have hs:=Tv h10 (h7.trans hge) (λx hx=>(hps x hx).2.1) ps.length (bg _);rw[dg,hnn] at hs;subst hzz;exact⟨by dsimp only;omega,λ_=>by dsimp only;omega⟩,.cons hh (λ_ h=>nomatch h)⟩) λy hyz=>?_;refine(aY)<|(bO)<|aH [kL S rt y.1 y.2] [eW g _] ?_;exact⟨⟨rt,y.1,y.2,O,O,hyz⟩,ys,h9,O⟩
end Go.Proofs
namespace Go.Proofs
open Tryz
open Go.V
variable {S:BI->Prop} {N g:Nat}
def HB (S:BI->Prop) (i:Nat) (el:List RE):Prop:=∀(j:Nat) (e:RE),j<i->el[j]? =some e->e.c=none/\S (e.b,e.id)
theorem afT {i:Nat} {el:List RE} {e:RE} (h:HB S i el) (hl:i<el.length) (hc:e.c=none) (hs:S (e.b,e.id)):HB S (i+1) (el.set i e):=λj e' hj he=>by
 by_cases hji:j=i
 ·subst hji;rw[yk hl] at he;cases he;exact⟨hc,hs⟩
 ·rw[pe aa] at he;exact h j e' aa he
theorem QG:∀m:Nat,((List.range m).map λi=>1+(λ_=>0:Nat->Nat) i).sum=m
 |0=>rfl
 |m+1=>by rw[Du,dX,Bl,QG m];simp
theorem afU {r m:Nat} {el:List RE} {Fs:List an} (h1:el.length=4) (h2:1<=m) (h3:m<=4) (hk:HB S m el) (hp:PH) (al:cr Fs hp) (hr:aO r 0 (el.flatMap RE.enc++[iv m])∈Fs):
  ∃V z,(kL S r V z).p hp/\z=m:=by
 refine⟨_,_,tW.mk el m (λi=>λ_=>match el[i]? with|some e=>[e.id]|none=>[]) (λ_=>0) h1 h2 h3 (al _ hr) (λi e hi he hn=>⟨(hk i e hi he).2,?_⟩) (λi e c hi he hs=>?_),QG m⟩
 ·simp only[he]
 ·have:=(hk i e hi he).1;rw[hs] at this;cases this
theorem akU (hN:N<=1048576):∀(M a n cap:Nat) (xs:List BI),jw S N xs->a+n<=N->1<=n->n<M->n<=cap->ai prog 319 [uZ g a n cap].toArray [] [eW g xs] (OW S N g n):=by
 intro M
 induction M with
 |zero=>intro a n cap xs _ _ _ h;omega
 |succ M ih=>
 intro a n cap xs hS ha h1 hM hcap;refine am func319 λ_=>(wB)<|(sO)<|(aN) ?_;refine gz O (λhc16=>absurd hc16 (by have:=of_decide_eq_true hc16;omega)) (λhc16=>(bX)<|(eE)<|(dH)<|(C5)<|(aN)<|ao ?_ ?_)
 ·intro hc20;have hn4:n<=4:=by have:=of_decide_eq_true hc20;omega
  refine(bJ)<|(dH)<|(cN)<|(cg) ?_;intro rt;refine(nu)<|aU [(4,5),(27,42)] (λ(x:Nat×List RE)=>x.1<=n/\x.2.length=4/\HB S x.1 x.2) (λx=>[(27,iv x.1)]) (λ_=>[]) (λx=>[(rt,.cells (x.2.flatMap RE.enc++[iv n]).toArray 346 (0,0))]) (λx=>n-x.1) (((0,[yt,yt,yt,yt]):Nat×List RE)) (⟨bf _,O,λ_ _ h=>absurd h (iZ _)⟩) λ⟨i,el⟩ fr ⟨h5,h6,h7⟩=>?_;dsimp only at h5 h6 h7;refine(cM)<|ao ?_ ?_
  ·intro hc28;have hlt:i<n:=by have:=of_decide_eq_true hc28;dsimp only at this;omega
   obtain⟨x,hx,sx⟩:=hS.get (i:=a+i) aa;obtain⟨e0,he0⟩:∃e,el[i]? =some e:=⟨_,aG aa⟩;refine(rK) ?_;refine bp (s:=5) (i:=i) ab O O O O O aa aa O ?_;refine aK ab O O O (BK mA (tQ _) hx aa) O O<|(aq) ?_;intro r5;refine(gb)<|(cu)<|(AP)<|(zn)<|(iU) ?_;refine ac O (aK ab O O O (oD (k:=4) mA) O O)<|(iS)<|(ny)<|(fa)<|(jY) ?_;refine fg (s:=6) (i:=i) ab O O O O O aa (by show _<4;omega) O ?_;refine M7 (F:=RE.enc) (k:=6) (xs:=el) (tl:=[iv n]) (j:=i) (i:=0) (e:=⟨x.1,none,x.2⟩) (e0:=e0) ab O O O O O O (qq _) he0 (lT O) O aa uA<|(rM) ?_;exact⟨(i+1,el.set i ⟨x.1,none,x.2⟩),oA,⟨oA,by simp[h6],afT h7 aa rfl sx⟩,lA,kA,fA,hA⟩
  ·intro hc28;have hge:i=n:=by have:=of_decide_eq_false hc28;dsimp only at this;omega
   subst hge;refine(jh) ?_;refine dl (r:=rt) tA ?_;refine yL (α:=(bH->List Int)×Nat) (φ:=λy=>zB i y.2) (G:=λy=>[kL S rt y.1 y.2]) (λhp al=>by obtain⟨V,z,hh,hzz⟩:=afU (S:=S) h6 h1 hn4 h7 hp al mA;exact⟨(V,z),by subst hzz;exact⟨by dsimp only;omega,λ_=>by dsimp only;omega⟩,.cons hh (λ_ h=>nomatch h)⟩) λy hyz=>?_;refine(aY)<|(mJ)<|aH [kL S rt y.1 y.2] [eW g _] ?_;exact⟨⟨rt,y.1,y.2,O,O,hyz⟩,xs,hS,O⟩
 ·intro hc20;have hn4:¬n<=4:=by have:=of_decide_eq_false hc20;omega
  refine(bX)<|(eE)<|(dH)<|(C5)<|(aN)<|ao ?_ ?_
  ·intro hc46;refine(bJ)<|aS eA call384 (GJ (g:=g) hS ha hN aa hcap) λv Fs' L' ⟨⟨e1,e2⟩,zs,hzs,e3⟩=>?_;subst e1;subst e2;subst e3;refine(wC)<|(iz)<|(eD) ?_;intro p;refine xK (r:=p) tA ?_;refine aS eA call385 (Wv (nn:=n) (ps:=[(a,n/2,cap),(a+n/2,n-n/2,cap-n/2)]) (M:=M) (λa n cap xs h1 h2 h3 h4 h5=>ih a n cap xs h1 h2 h3 h4 h5) hzs hN (lT O) (lT O) qK (λx hx=>by simp at hx;rcases hx with rfl|rfl<;>(dsimp only;omega))) λv Fs' L' ⟨⟨rt,V,z,e1,e2,hzb⟩,ws,hws,e3⟩=>?_;subst e1;subst e2;subst e3;refine(mJ)<|aH [kL S rt V z] [eW g _] ?_;exact⟨⟨rt,V,z,O,O,hzb⟩,ws,hws,O⟩
  ·intro hc46;have hn8:¬n<=8:=by have:=of_decide_eq_false hc46;omega
   refine(Fu)<|aS eA call384 (GJ (g:=g) hS ha hN aa hcap) λv Fs' L' ⟨⟨e1,e2⟩,zs,hzs,e3⟩=>?_;subst e1;subst e2;subst e3;refine(wC)<|(cF)<|aS eA call384 (GJ (g:=g) (a:=a) (n:=n/2) (cap:=cap) hzs aa hN aa aa) λv Fs' L' ⟨⟨e1,e2⟩,z2,hz2,e3⟩=>?_;subst e1;subst e2;subst e3;refine(wC)<|(cF)<|aS eA call384 (GJ (g:=g) (a:=a+n/2) (n:=n-n/2) (cap:=cap-n/2) hz2 aa hN aa aa) λv Fs' L' ⟨⟨e1,e2⟩,z3,hz3,e3⟩=>?_;subst e1;subst e2;subst e3;refine(wC)<|(iz)<|(dG)<|(eD) ?_;intro p;refine xK (r:=p) tA ?_;refine aS eA call385 (Wv (nn:=n) (ps:=[(a,n/2/2,cap),(a+n/2/2,n/2-n/2/2,cap-n/2/2),(a+n/2,(n-n/2)/2,cap-n/2),(a+n/2+(n-n/2)/2,n-n/2-(n-n/2)/2,cap-n/2-(n-n/2)/2)]) (M:=M) (λa n cap xs h1 h2 h3 h4 h5=>ih a n cap xs h1 h2 h3 h4 h5) hz3 hN (lT O) (lT O) qK (λx hx=>by simp at hx;rcases hx with rfl|rfl|rfl|rfl<;>(dsimp only;omega))) λv Fs' L' ⟨⟨rt,V,z,e1,e2,hzb⟩,ws,hws,e3⟩=>?_;subst e1;subst e2;subst e3;refine(bO)<|aH [kL S rt V z] [eW g _] ?_;exact⟨⟨rt,V,z,O,O,hzb⟩,ws,hws,O⟩
def lE (S:BI->Prop) (r:Nat) (V:bH->List Int) (z:Nat):an where
 p h:=∃c:Int,((aO r 0 [.pointer none,iv c]).p h/\V=λ_=>[])\/∃rt,(aO r 0 [.pointer (some ⟨rt,0,none⟩),iv c]).p h/\tW S h rt V z
 mono:=λhle ⟨c,h⟩=>⟨c,h.imp (λ⟨a,b⟩=>⟨(aO _ _ _).mono hle a,b⟩) λ⟨rt,a,b⟩=>⟨rt,(aO _ _ _).mono hle a,b.mono hle⟩⟩
theorem Lg {S:BI->Prop} {r:Nat} {V:bH->List Int} {z:Nat} {h:PH} (k:(lE S r V z).p h) (q:bH):(V q).length<=z:=by
 obtain⟨c,⟨_,rfl⟩|⟨rt,_,k⟩⟩:=k
 ·exact bf _
 ·exact k.len q
theorem N3 {n cap:Nat} {xs:List BI} (hN:N<=1048576) (hS:jw S N xs) (hn:n=N) (hcap:n<=cap) (h0:0<n):ai prog 245 [uZ g 0 n cap].toArray [] [eW g xs]
  (λv Fs' L'=>(∃r V z,v= .pointer (some ⟨r,0,none⟩)/\Fs'=[lE S r V z]/\z<=2*N)/\L'=[]):=by
 refine am func245 λ_=>(wB)<|(sO)<|(aN) ?_;refine gz O (λhc6=>absurd hc6 (by have:=of_decide_eq_true hc6;omega)) (λhc6=>(Fu)<|aS eA call319 (akU (g:=g) hN (n+1) 0 n cap xs hS aa aa aa hcap) λv Fs' L' ⟨⟨rt,V,z,e1,e2,hzb⟩,ws,hws,e3⟩=>?_);subst e1;subst e2;subst e3;refine(iz)<|(dH)<|(cN)<|(cg) ?_;intro r;refine xK (r:=r) tA ?_;refine cL (lE S r V z) (λhp al=>⟨n,.inr ⟨rt,al _ mA,al (kL S rt V z) mA⟩⟩)<|(bO)<|aH [lE S r V z] [] ?_;exact⟨⟨r,V,z,O,O,by have:=hzb.1;omega⟩,O⟩
theorem akT {p:Option Addr} {cap:Nat}:ai prog 245 [.slice p 0 cap].toArray [] []
  (λv Fs' L'=>(∃r V z,v= .pointer (some ⟨r,0,none⟩)/\Fs'=[lE S r V z]/\z=0)/\L'=[]):=by
 refine am func245 λ_=>(wB)<|(sO)<|(vq)<|(cN)<|(cg) ?_;intro r;refine xK (r:=r) tA ?_;refine cL (lE S r (λ_=>[]) 0) (λhp al=>⟨0,.inl ⟨al _ mA,O⟩⟩)<|(mJ)<|aH [lE S r (λ_=>[]) 0] [] ?_;exact⟨⟨r,_,0,O,O,O⟩,O⟩
end Go.Proofs
namespace Go.Proofs
open Tryz
open Go.V
open Go.RowKit Go.Extern.Stop Go.Stop Go.Extern
theorem Q4 {P:Program} {fid:FuncId} {args:Array Value} {v:Value} {Fs:List an} (h:∀w,Calls P fid args w λe w'=>e= .returned v/\w'=w):ai P fid args Fs [] (Is v):=λhp w sa al=>
 (h w).mono λe w' ⟨e1,e2⟩=>by subst e1;subst e2;exact⟨[],[],hp,⟨⟨rfl,rfl⟩,rfl⟩,PH.le_refl _,(λ_ h=>nomatch h),⟨sa.imm,(λ_ h=>nomatch h),Gd,(λ_ h=>nomatch h)⟩,Fr.refl _ _,⟨λr hr=> .inl hr,λ_ h=>nomatch h⟩⟩
abbrev iH (a:Addr):Value:= .iface 378 (.pointer (some a))
theorem agr (v:Value) (w:World):(Extern.ReflectliteType.typeOf #[.iface 378 v]).run prog w= .ok (.iface 441 (.agg #[.pointer (some ⟨2,378,none⟩)])) w:=by kernel_rfl
open Go.Extern.Rtype in
def Wi:Array Value->Sem Value:=Extern.ReflectliteType.method λt=>do noPackHeld "Comparable" t;pure (.bool (<-typeInfo t).comparable)
theorem agz (w:World):(Wi #[.agg #[.pointer (some ⟨2,378,none⟩)]]).run prog w= .ok (.bool true) w:=by kernel_rfl
theorem agw (v:Value) (w:World):(Go.method 627 441 v "Comparable").run prog w= .ok (481,v) w:=by kernel_rfl
theorem agA:(prog.info? 378).map (·.comparable)=some true:=by kernel_rfl
theorem agt:(prog.info? 380).map (·.size)=some 1:=by kernel_rfl
set_option maxRecDepth 100000 in
theorem agp (a:Addr) (w:World):
  Calls prog 277 #[iH a,iH a] w λe w'=>e= .returned (.bool true)/\w'=w:=by
 obtain⟨i,hi,hcmp⟩:=iE.1 agA;obtain⟨j,hj,hjs⟩:=iE.1 agt;have h8:=@run_callFunc_extern prog 341 _ Extern.ReflectliteType.typeOf func341 br br br br;have h32:=@run_callFunc_extern prog 481 _ Wi func481 br br br br;have tT:=agr;have cT:=agz;have mR:=agw;have heq:=run_eql_iface_ptr_same (P:=prog) w a Tryz.underlying66 Tryz.underlying378 hi hcmp hj
 go_enter func277,ntmps277
 go_wp2
 refine wp_loop_rounds 1 ?_;rw[rounds_succ]
 go_wp2
 go_ret
 exact⟨O,O⟩
theorem agq (b:Addr) (w:World):
  Calls prog 277 #[.nilIface,iH b] w λe w'=>e= .returned (.bool false)/\w'=w:=by
 have hn:=run_eql_iface_nil_left (P:=prog) w 378 (.pointer (some b)) Tryz.underlying66
 go_enter func277,ntmps277
 go_wp2
 go_ret
 exact⟨O,O⟩
theorem agu {a:Addr}:ai prog 277 [iH a,iH a].toArray [] [] (Is (.bool true)):=Q4 λw=>agp a w
theorem agv {a:Addr}:ai prog 277 [.nilIface,iH a].toArray [] [] (Is (.bool false)):=Q4 λw=>agq a w
end Go.Proofs
namespace Go.V
theorem NF.refl {α:Type}:∀l:List α,NF l l
 |[]=> .nil
 |_::l=> .cons (NF.refl l)
theorem ct {Fs:List an} {L:List ae} {r o:Nat} {v v':Value} (h:uz Fs L r o v) (e:v=v'):uz Fs L r o v':=e▸h
def ajm:an:=⟨λ_=>True,λ_ _=>trivial⟩
end Go.V
namespace Go.Proofs
open Tryz
open Go.V
inductive Steps {α:Type} (R:α->Int->α->Prop):α->List Int->α->Prop where
 |nil {s}:Steps R s [] s
 |cons {s m s' i l}:R s i m->Steps R m l s'->Steps R s (i::l) s'
theorem Steps.app {α:Type} {R:α->Int->α->Prop} {s m s':α} {l l':List Int} (h:Steps R s l m) (k:Steps R m l' s'):Steps R s (l++l') s':=by
 induction h with
 |nil=>exact k
 |cons a _ ih=>exact .cons a (ih k)
def tC (b q:bH):Bool:=Ai b.1 b.2.1 b.2.2.1 b.2.2.2 q.1 q.2.1 q.2.2.1 q.2.2.2
def HE (S:BI->Prop) (el:List RE) (V:Nat->bH->List Int) (z:Nat->Nat) (i:Nat):an:=match (el[i]?).bind (·.c) with
 |some c=>kL S c (V i) (z i)
 |none=>ajm
def pm (el:List RE) (V:Nat->bH->List Int) (q:bH) (i:Nat):List Int:=match el[i]? with|some e=>if Ai e.b.1 e.b.2.1 e.b.2.2.1 e.b.2.2.2 q.1 q.2.1 q.2.2.1 q.2.2.2 then V i q else []|none=>[]
structure C1 (S:BI->Prop) (V:bH->List Int) (z:Nat) (el:List RE) (m:Nat) (VV:Nat->bH->List Int) (zz:Nat->Nat):Prop where
 l4:el.length=4
 m1:1<=m
 m4:m<=4
 v:∀q,V q=(List.range m).flatMap (pm el VV q)
 z:z=((List.range m).map λi=>1+zz i).sum
 leaf:∀(i:Nat) (e:RE),i<m->el[i]? =some e->e.c=none->S (e.b,e.id)/\VV i=λ_=>[e.id]
abbrev WZ:=List RE×Nat×(Nat->bH->List Int)×(Nat->Nat)
abbrev Qw (S:BI->Prop) (r:Nat) (y:WZ):List an:=aO r 0 (y.1.flatMap RE.enc++[iv y.2.1])::(List.range y.2.1).map (HE S y.1 y.2.2.1 y.2.2.2)
theorem YI {S:BI->Prop} {r:Nat} {V:bH->List Int} {z:Nat} {Fs:List an} (hm:kL S r V z∈Fs) (hp:PH) (al:cr Fs hp):∃y:WZ,C1 S V z y.1 y.2.1 y.2.2.1 y.2.2.2/\cr (Qw S r y) hp:=by
 have:=al _ hm;cases this with
 |mk el m VV zz h1 h2 h3 h4 h5 h6=>
  refine⟨(el,m,VV,zz),⟨h1,h2,h3,λq=>O,O,h5⟩,.cons h4 λf hf=>?_⟩;obtain⟨i,hi,rfl⟩:=aM.1 hf;have hi':i<m:=by simpa using hi
  dsimp only;unfold HE;cases he:el[i]? with
  |none=>exact trivial
  |some e=>
   simp only[lh];cases hc:e.c with
   |none=>exact trivial
   |some c=>exact h6 i e c hi' he hc
theorem agb {S:BI->Prop} {el:List RE} {m:Nat} {V:Nat->bH->List Int} {z:Nat->Nat} {i:Nat} {e:RE} {c:Nat} (hi:i<m) (he:el[i]? =some e) (hc:e.c=some c):kL S c (V i) (z i)∈(List.range m).map (HE S el V z):=by
 refine aM.2 ⟨i,by simpa using hi,?_⟩;simp only[HE,he,lh,hc]
theorem agc {m:Nat} {z:Nat->Nat} {i:Nat} (hi:i<m):z i<((List.range m).map λi=>1+z i).sum:=by
 induction m with
 |zero=>omega
 |succ m ih=>
  rw[Du,dX,Bl];simp only[dV,th,Po,List.sum_nil];rcases dL i m with h|h
  ·have:=ih h;omega
  ·have:i=m:=by omega
   subst this;omega
theorem DZ {g:Nat->List Int} {i:Nat}:(List.range (i+1)).flatMap g=(List.range i).flatMap g++g i:=by
 rw[Du,ft];simp
section
variable {α:Type} {S:BI->Prop} {ok:Nat->α->Prop} {FF:α->List an} {LL:α->List ae} {R:α->Int->α->Prop} {G:List an} {cb:Nat} {fv cv:List Value} {q:bH} {a:Addr} {b4 b5 b7:Nat}
abbrev yx (b4 b5 b7 cb:Nat) (fv cv:List Value) (q:bH) (a:Addr):List an:=[aO b4 0 [.float .f64 q.1,.float .f64 q.2.1,.float .f64 q.2.2.1,.float .f64 q.2.2.2],aO b5 0 [.func (.func cb) fv.toArray cv.toArray],aO b7 0 [.func (.func 275) #[] [.pointer (some ⟨b4,0,none⟩),.pointer (some ⟨b5,0,none⟩),.pointer (some ⟨b7,0,none⟩)].toArray],aO 1 0 [iH a]]
def JQ (S:BI->Prop) (ok:Nat->α->Prop) (FF:α->List an) (LL:α->List ae) (R:α->Int->α->Prop) (G:List an) (cb:Nat) (fv cv:List Value) (q:bH):Prop:=
 ∀(n:Nat) (s:α) (b:bH) (i:Int),ok (n+1) s->S (b,i)->tC b q=true->ai prog cb (fv++([iv i]++cv)).toArray (FF s++G) (LL s) (λv Fs' L'=>∃s',(R s i s'/\ok n s')/\v= .nilIface/\Fs'=FF s'/\L'=LL s')
abbrev Ends (ok:Nat->α->Prop) (n:Nat) (FF:α->List an) (LL:α->List ae) (R:α->Int->α->Prop) (s:α) (l:List Int):cZ:=λv Fs' L'=>∃s',(Steps R s l s'/\ok n s')/\v= .nilIface/\Fs'=FF s'/\L'=LL s'
theorem aiW {g:Nat->List Int} {i m:Nat} (h:i<m):((List.range i).flatMap g).length+(g i).length<=((List.range m).flatMap g).length:=by
 induction m with
 |zero=>omega
 |succ m ih=>
  rw[DZ,aW];rcases dL i m with h'|h'
  ·have:=ih h';omega
  ·have:i=m:=by omega
   subst this;omega
theorem acY (hc:∀(args:Array Value) (w:World),(callFunc cb args).run prog w= .ok (.enter cb args) w) (hcb:JQ S ok FF LL R G cb fv cv q):∀(k r:Nat) (V:bH->List Int) (z:Nat) (s:α) (n:Nat),z<k->ok ((V q).length+n) s->
  ai prog 275 [.pointer (some ⟨r,0,none⟩),.pointer (some ⟨b4,0,none⟩),.pointer (some ⟨b5,0,none⟩),.pointer (some ⟨b7,0,none⟩)].toArray (kL S r V z::(FF s++(G++yx b4 b5 b7 cb fv cv q a))) (LL s) (Ends ok n FF LL R s (V q)):=by
 intro k
 induction k with
 |zero=>intro r V z s n h;omega
 |succ k ih=>
 intro r V z s n hz hok;refine z7 (YI (.head _)) ?_;intro y hy;obtain⟨el,m,VV,zz⟩:=y;have h4:=hy.l4;have hm4:=hy.m4;dsimp only at h4 hm4;rw[hy.v q] at hok ⊢;generalize htot:((List.range m).flatMap (pm el VV q)).length=tot at hok;refine am func275 λ_=>(ba)<|(oQ)<|aU [(5,48)] (λ(x:Nat×α)=>x.1<=m/\Steps R s ((List.range x.1).flatMap (pm el VV q)) x.2/\∃rem,rem+((List.range x.1).flatMap (pm el VV q)).length=tot/\ok (rem+n) x.2) (λx=>[(6,iv x.1)]) (λx=>FF x.2) (λx=>LL x.2) (λx=>m-x.1) ((0,s)) (⟨bf _,.nil,tot,O,hok⟩) λ⟨i,t⟩ fr ⟨h5,h6,rem,h7,h8⟩=>?_;dsimp only at h5 h6 h7 h8;refine(lL)<|(Fy) ?_;refine az ab O O O (KC (F:=RE.enc) (k:=6) (i:=0) (aR mF) (qq el) O (by rw[h4])) O<|(kU)<|ao ?_ ?_
 ·intro hc15;have hlt:i<m:=by have:=of_decide_eq_true hc15;dsimp only at this;omega
  obtain⟨e,he⟩:∃e,el[i]? =some e:=⟨_,aG aa⟩;have hpre:=aiW (g:=pm el VV q) hlt;have hrl:((List.range (i+1)).flatMap (pm el VV q)).length=((List.range i).flatMap (pm el VV q)).length+(pm el VV q i).length:=by rw[DZ,aW]
  rw[htot] at hpre;refine(j5)<|(fb)<|(Fy) ?_;refine fg (s:=6) (i:=i) ab O O O O O aa (by show _<4;omega) O ?_;refine aK ab O O O (tM (aR mF) (qq el) he aa) O O<|(aq) ?_;intro r7;refine(dS)<|(ba)<|(cQ)<|(XE) ?_;refine aK ab O O O (aR mF) O O ?_;refine aj eA call276 (ael (a:=e.b.1) (b:=e.b.2.1) (c:=e.b.2.2.1) (d:=e.b.2.2.2) (a':=q.1) (b':=q.2.1) (c':=q.2.2.1) (d':=q.2.2.2))<|(Ja)<|ao ?_ ?_
  ·intro hc28;refine(zi)<|(jM) ?_;exact⟨(i+1,t),oA,⟨oA,by rw[DZ];refine h6.app ?_;simp only[pm,he];rw[if_neg (by intro hh;rw[hh] at hc28;cases hc28)];exact .nil,rem,by dsimp only;rw[hrl];simp only[pm,he];rw[if_neg (by intro hh;rw[hh] at hc28;cases hc28)];exact h7,h8⟩,lA,kA,fA,hA⟩
  ·intro hc28;have hov:tC e.b q=true:=by simpa[tC] using hc28
   refine(bX)<|(fR)<|(A2)<|(aN)<|ao ?_ ?_
   ·intro hc31;have hec:e.c=none:=by cases h:e.c with|none=>rfl|some c=>rw[h] at hc31;cases hc31
    obtain⟨sS,sV⟩:=hy.leaf i e hlt he hec;have sV:VV i=λ_=>[e.id]:=sV;refine(ba) ?_;have hg1:(pm el VV q i).length=1:=by simp only[pm,he];rw[if_pos (by simpa[tC] using hov),sV];rfl
    obtain⟨rm,hrm⟩:∃rm,rem=rm+1:=⟨rem-1,aa⟩;subst hrm;have h8':ok ((rm+n)+1) t:=by rw[show rm+n+1=rm+1+n from by omega];exact h8
    refine(OT)<|(dW) ?_;refine dj O eA hc (NF.refl _) (hcb (rm+n) t e.b e.id h8' sS hov) λv Fs' L' ⟨t',⟨hR,hok'⟩,e1,e2,e3⟩=>?_;subst e1;subst e2;subst e3;refine(cF)<|(OT)<|aj eA call277 (agv (a:=a))<|(aN)<|(gL)<|(bJ)<|(wA)<|(jM) ?_;exact⟨(i+1,t'),oA,⟨oA,by rw[DZ];refine h6.app ?_;simp only[pm,he];rw[if_pos (by simpa[tC] using hov),sV];exact .cons hR .nil,rm,by dsimp only;rw[hrl,hg1];omega,hok'⟩,lA,kA,fA,hA⟩
   ·intro hc31;obtain⟨c,hec⟩:∃c,e.c=some c:=by cases h:e.c with|none=>rw[h] at hc31;cases hc31|some c=>exact⟨c,rfl⟩
    have hzi:=agc (z:=zz) hlt;have hzz:=hy.z;have hkm:kL S c (VV i) (zz i)∈Qw S r (el,m,VV,zz):= .tail _ (agb hlt he hec);dsimp only at hzz;refine(ba) ?_;have hgi:(pm el VV q i).length=(VV i q).length:=by simp only[pm,he];rw[if_pos (by simpa[tC] using hov)]
    obtain⟨rm,hrm⟩:∃rm,rem=(VV i q).length+rm:=⟨rem-(VV i q).length,aa⟩;subst hrm;have h8':ok ((VV i q).length+(rm+n)) t:=by rw[<-Dj];exact h8
    refine(OT)<|(cQ) ?_;refine az ab O O O (ct (bj mA O O) (v':= .pointer (some ⟨c,0,none⟩)) (by rw[hec];rfl)) O ?_;refine dj O eA call275 nA (ih c (VV i) (zz i) t (rm+n) aa h8') λv Fs' L' ⟨t',⟨hR,hok'⟩,e1,e2,e3⟩=>?_;subst e1;subst e2;subst e3;refine(cF)<|(wA)<|(jM) ?_;exact⟨(i+1,t'),oA,⟨oA,by rw[DZ];refine h6.app ?_;simp only[pm,he];rw[if_pos (by simpa[tC] using hov)];exact hR,rm,by dsimp only;rw[hrl,hgi];omega,hok'⟩,lA,kA,fA,hA⟩
 ·intro hc15;have hge:i=m:=by have:=of_decide_eq_false hc15;dsimp only at this;omega
  subst hge;have hr0:rem=0:=by omega
  subst hr0;rw[gX] at h8;refine(eG)<|(mI) ?_;exact .ret (.cons (lZ O) (.nil)) (Fs':=FF t) (L':=LL t) (λg h=>bq _ h) (by simpa using List.Sublist.refl _) ⟨t,⟨h6,h8⟩,O,O,O⟩
end
end Go.Proofs
namespace Go.Proofs
open Tryz
open Go.V
variable {α:Type} {S:BI->Prop} {ok:Nat->α->Prop} {n:Nat} {FF:α->List an} {LL:α->List ae} {R:α->Int->α->Prop} {G:List an} {cb:Nat} {fv cv:List Value} {q:bH} {a:Addr}
theorem RV (hc:∀(args:Array Value) (w:World),(callFunc cb args).run prog w= .ok (.enter cb args) w) (hcb:JQ S ok FF LL R G cb fv cv q) {r:Nat} {V:bH->List Int} {z:Nat} {s:α} (hok:ok ((V q).length+n) s):
  ai prog 187 [.pointer (some ⟨r,0,none⟩),Fc q,.func (.func cb) fv.toArray cv.toArray].toArray (lE S r V z::aO 1 0 [iH a]::(FF s++G)) (LL s) (Ends ok n FF LL R s (V q)):=by
 refine z7 (α:=Int×Option Nat) (φ:=λy=>y.2=none->V=λ_=>[]) (G:=λy=>match y.2 with|none=>[aO r 0 [.pointer none,iv y.1]]|some rt=>[aO r 0 [.pointer (some ⟨rt,0,none⟩),iv y.1],kL S rt V z]) (λhp al=>?_) λy hy=>?_
 ·obtain⟨c,h|⟨rt,h1,h2⟩⟩:=al _ (.head _)
  ·exact⟨(c,none),λ_=>h.2,.cons h.1 (λ_ h=>nomatch h)⟩
  ·exact⟨(c,some rt),(λh=>nomatch h),.cons h1 (.cons h2 (λ_ h=>nomatch h))⟩
 obtain⟨c,rt⟩:=y;cases rt with
 |none=>
  rw[hy rfl] at hok ⊢;rw[kC,gX] at hok;refine am func187 λ_=>(au) ?_;intro _;refine(qF) ?_;intro _;refine(iC)<|(Fy)<|(fM)<|(A2)<|(vq)<|(mJ) ?_;exact .ret (.cons (lZ O) (.nil)) (Fs':=FF s) (L':=LL s) sA (by repeat (first|exact gx _|apply pd)) ⟨s,⟨.nil,hok⟩,O,O,O⟩
 |some rt=>
  refine am func187 λ_=>(au) ?_;intro b4;refine(qF) ?_;intro b5;refine(ub) ?_;refine dl (r:=b4) tA ?_;refine dl (r:=b5) tA<|(aY)<|(Fy)<|(fM)<|(A2)<|(wI)<|(nH) ?_;intro b7;refine(eZ)<|(iW)<|(gn)<|(cn) ?_;refine dl (r:=b7) tA<|(JH)<|(wu)<|(kQ) ?_;refine cC O (iL O O)<|(zx)<|(wu)<|(dT) ?_;refine dj O eA call275 nA (acY (a:=a) (b4:=b4) (b5:=b5) (b7:=b7) (fv:=fv) (cv:=cv) hc hcb (z+1) rt V z s n aa hok) λv Fs' L' ⟨s',hR,e1,e2,e3⟩=>?_;subst e1;subst e2;subst e3;refine(rJ)<|(bO) ?_;exact .ret (.cons (lZ O) (.nil)) (Fs':=FF s') (L':=LL s') sA (by repeat (first|exact gx _|apply pd)) ⟨s',hR,O,O,O⟩
end Go.Proofs
namespace Go.Proofs
open Tryz
open Go.V
def jE (a b:Pt):Option Pt:=(jd a.1 b.1).bind λx=>(jd a.2 b.2).bind λy=>some (x,y)
def IF (a b:Pt):Option Pt:=(qm a.1 b.1).bind λx=>(qm a.2 b.2).bind λy=>some (x,y)
def GW (a:Pt) (s:Nat):Option Pt:=(jm a.1 s).bind λx=>(jm a.2 s).bind λy=>some (x,y)
def mo (a b:Pt):Option Nat:=(jm a.1 b.1).bind λx=>(jm a.2 b.2).bind λy=>qm x y
def uY (a b:Pt):Option Nat:=(jm a.1 b.2).bind λx=>(jm a.2 b.1).bind λy=>jd x y
def AB (a b:Pt):Option Nat:=(jE b a).bind λd=>mo d d
abbrev aw (x:Nat):Value:= .float .f64 x
variable {a b c d:Pt} {r:Pt} {x y z s:Nat}
theorem HI:ai prog 264 [aw x].toArray [] [] (Is (.bool (tH x x))):=by
 refine am func264 λ_=>(ba)<|(iz)<|(ns)<|cV
def iN (x y:Nat):Nat:=bif tH x x||fJ x y then x else y
def wa (x y:Nat):Nat:=bif tH x x||jn x y then x else y
theorem yM:ai prog 177 [aw x,aw y].toArray [] [] (Is (aw (iN x y))):=by
 refine am func177 λ_=>(wB)<|aj eA call264 (HI (x:=x))<|(aB) ?_;refine fY (t:=7) O (λhg7=>?_) (λhg7=>?_)
 ·refine(wH)<|ao ?_ ?_
  ·intro hc11;exact(bJ)<|(jZ)<|JG
  ·intro hc11;exact(Fu)<|(gw)<|JG
 ·refine(fN)<|(fN)<|(IX)<|(vt)<|ao ?_ ?_
  ·intro hc11;exact(bJ)<|(jZ)<|JG
  ·intro hc11;exact(Fu)<|(gw)<|JG
theorem HZ:ai prog 382 [aw x,aw y].toArray [] [] (Is (aw (wa x y))):=by
 refine am func382 λ_=>(wB)<|aj eA call264 (HI (x:=x))<|(aB) ?_;refine fY (t:=7) O (λhg7=>?_) (λhg7=>?_)
 ·refine(wH)<|ao ?_ ?_
  ·intro hc11;exact(bJ)<|(jZ)<|JF
  ·intro hc11;exact(Fu)<|(gw)<|JF
 ·refine(fN)<|(fN)<|(IX)<|(vt)<|ao ?_ ?_
  ·intro hc11;exact(bJ)<|(jZ)<|JF
  ·intro hc11;exact(Fu)<|(gw)<|JF
theorem z0 (h:jE a b=some r):ai prog 132 [pv a,pv b].toArray [] [] (Is (pv r)):=by
 simp only[jE,jO,xd] at h;obtain⟨u,h1,v,h2,rfl⟩:=h;refine am func132 λ_=>(au) ?_;intro _;refine(cg) ?_;intro _;refine(aq) ?_;intro _;refine(iu)<|(dW) ?_;refine fh O O (h1) O<|(zk) ?_;refine fh O O (h2) O<|sM
theorem alj (h:IF a b=some r):ai prog 280 [pv a,pv b].toArray [] [] (Is (pv r)):=by
 simp only[IF,jO,xd] at h;obtain⟨u,h1,v,h2,rfl⟩:=h;refine am func280 λ_=>(au) ?_;intro _;refine(cg) ?_;intro _;refine(aq) ?_;intro _;refine(iu)<|(dW) ?_;refine fh O O (h1) O<|(zk) ?_;refine fh O O (h2) O<|sM
theorem acN (h:GW a s=some r):ai prog 279 [pv a,aw s].toArray [] [] (Is (pv r)):=by
 simp only[GW,jO,xd] at h;obtain⟨u,h1,v,h2,rfl⟩:=h;refine am func279 λ_=>(au) ?_;intro _;refine(aq) ?_;intro _;refine(iu)<|(aB) ?_;refine fh O O (h1) O<|(dW)<|(aB) ?_;refine fh O O (h2) O<|sM
theorem VM (h:mo a b=some x):ai prog 171 [pv a,pv b].toArray [] [] (Is (aw x)):=by
 simp only[mo,jO] at h;obtain⟨u,h1,v,h2,h3⟩:=h;refine am func171 λ_=>(au) ?_;intro _;refine(cg) ?_;intro _;refine(fP)<|(dW) ?_;refine fh O O (h1) O<|(zk) ?_;refine fh O O (h2) O ?_;refine fh O O (h3) O<|cV
theorem xR (h:uY a b=some x):ai prog 353 [pv a,pv b].toArray [] [] (Is (aw x)):=by
 simp only[uY,jO] at h;obtain⟨u,h1,v,h2,h3⟩:=h;refine am func353 λ_=>(au) ?_;intro _;refine(cg) ?_;intro _;refine(fP)<|(dW) ?_;refine fh O O (h1) O<|(zk) ?_;refine fh O O (h2) O ?_;refine fh O O (h3) O<|cV
theorem oG (h:mo a a=some x):ai prog 147 [pv a].toArray [] [] (Is (aw x)):=by
 refine am func147 λ_=>(au) ?_;intro _;exact(bt)<|(gM)<|aj eA call171 (VM h)<|cV
theorem VX (h:AB a b=some x):ai prog 344 [pv a,pv b].toArray [] [] (Is (aw x)):=by
 simp only[AB,jO] at h;obtain⟨u,h1,h2⟩:=h;refine am func344 λ_=>(au) ?_;intro _;refine(cg) ?_;intro _;refine(bt)<|(gM)<|aj eA call132 (z0 h1)<|(aq) ?_;intro _;exact(cu)<|(gM)<|aj eA call171 (VM h2)<|cV
abbrev A4:cZ:=λv Fs' L'=>(∃r,v=aw r/\Fs'=[])/\L'=[]
abbrev OZ:cZ:=λv Fs' L'=>(∃r,v=pv r/\Fs'=[])/\L'=[]
theorem KP:ai prog 132 [pv a,pv b].toArray [] [] OZ:=by
 refine am func132 λ_=>(au) ?_;intro _;refine(cg) ?_;intro _;refine(aq) ?_;intro _;refine(iu)<|(dW)<|(jV) ?_;intro _;refine(zk)<|(jV) ?_;intro _;exact(iw)<|(kS)<|OS
theorem aln:ai prog 280 [pv a,pv b].toArray [] [] OZ:=by
 refine am func280 λ_=>(au) ?_;intro _;refine(cg) ?_;intro _;refine(aq) ?_;intro _;refine(iu)<|(dW)<|(jV) ?_;intro _;refine(zk)<|(jV) ?_;intro _;exact(iw)<|(kS)<|OS
theorem acO:ai prog 279 [pv a,aw s].toArray [] [] OZ:=by
 refine am func279 λ_=>(au) ?_;intro _;refine(aq) ?_;intro _;refine(iu)<|(aB)<|(jV) ?_;intro _;refine(dW)<|(aB)<|(jV) ?_;intro _;exact(iw)<|(kS)<|OS
theorem VN:ai prog 171 [pv a,pv b].toArray [] [] A4:=by
 refine am func171 λ_=>(au) ?_;intro _;refine(cg) ?_;intro _;refine(fP)<|(dW)<|(jV) ?_;intro _;refine(zk)<|(jV) ?_;intro _;refine(jV) ?_;intro _;exact I7
def jc (a b:Pt):Bool:=bif tH a.1 b.1 then jn a.1 b.1 else jn a.2 b.2
theorem yG:ai prog 235 [pv a,pv b].toArray [] [] (Is (.bool (jc a b))):=by
 refine am func235 λ_=>(au) ?_;intro _;refine(cg) ?_;intro _;refine(bR)<|(fR)<|(dW)<|(ns)<|(aN)<|ao ?_ ?_
 ·intro hc9;exact(fR)<|(dW)<|(ns)<|(jZ)<|XC
 ·intro hc9;exact(bX)<|(fR)<|(dW)<|(ns)<|(gw)<|XC
def aV (a b:Pt):Bool:=cX a.1 b.1&&cX a.2 b.2
theorem ahu:ai prog 190 [dM a b,pv c].toArray [] [] (Is (.bool (aV a c||aV b c))):=by
 refine am func190 λ_=>(au) ?_;intro _;refine(cg) ?_;intro _;refine(fo)<|(eK)<|(eH) ?_;refine xL O O qV (λw=>qo 9998 w _ _ _ _) O<|(aB) ?_;refine fY (t:=9) O (λhg9=>?_) (λhg9=>?_)
 ·exact(zc)<|(fD)<|(gw)<|XB
 ·refine(iQ)<|(Jm) ?_;refine ah O O (xL O O qV (λw=>qo 9998 w _ _ _ _) O<|(gm)<|(gw)<|XB)
def cH (p q s:Pt):Option Int:=(jE q p).bind λu=>(jE s q).bind λv=>(uY u v).bind λx=>some (bif fJ x 0 then 3 else bif jn x 0 then 1 else 2)
theorem dk {o:Int} (h:cH a b c=some o):ai prog 347 [pv a,pv b,pv c].toArray [] [] (Is (iv o)):=by
 simp only[cH,jO,xd] at h;obtain⟨u,h1,v,h2,x,h3,rfl⟩:=h;refine am func347 λ_=>(au) ?_;intro _;refine(cg) ?_;intro _;refine(cg) ?_;intro _;refine(bR)<|(CX)<|(jf)<|(jf) ?_;refine ac O (λkX=>aj eA call132 (z0 h1) kX)<|(jf)<|(jf) ?_;refine ac O (λkX=>aj eA call132 (z0 h2) kX) ?_;refine ac O (λkX=>aj eA call353 (xR h3) kX)<|(jY)<|(nz)<|(bJ)<|(ns)<|(bt)<|ao ?_ ?_
 ·intro hc15;exact(ba)<|(jZ)<|xW
 ·intro hc15;refine(bJ)<|(ns)<|(bt)<|ao ?_ ?_
  ·intro hc18;exact(ba)<|(jZ)<|xW
  ·intro hc18;exact(ba)<|(jZ)<|xW
end Go.Proofs
namespace Go.Proofs
open Tryz
open Go.V
variable {a b c d:Pt} {r:Pt} {x y z s:Nat}
theorem Ii {f:FuncId} {fn:Func} {e:Array Value->Sem Value} {args:Array Value} {v:Value} (hf:prog.funcs[f]? =some fn) (hname:(fn.name== "runtime.NumGoroutine")=false)
  (hb:fn.body.isNone=true) (hn:Extern.findNext fn=none) (he:Extern.find fn=some e) (hv:∀w,(e args).run prog w= .ok v w) (w:World):(callFunc f args).run prog w= .ok (.value v) w:=by
 rw[run_callFunc_extern hf hname hb hn he,hv];rfl
theorem WE (x:Nat) (w:World):(callFunc 265 [aw x].toArray).run prog w= .ok (.value (.int .u64 x)) w:=
 Ii (e:=Extern.MathFloatBits.float64bits) func265 br br br br (λw=>rfl) w
theorem U0 (x:Int) (w:World):(callFunc 266 [.int .u64 x].toArray).run prog w= .ok (.value (aw x.toNat)) w:=
 Ii (e:=Extern.MathFloatBits.float64frombits) func266 br br br br (λw=>rfl) w
abbrev Av (x:Nat):Option Nat:=Ieee.double.sqrt x
def Cj (x:Nat):Nat:=FloatKind.f64.encode ((FloatKind.f64.decode x).integral .down)
def notNaN (x:Nat):Prop:=∀s t,FloatKind.f64.decode x≠ .nan s t
def aiS (x:Nat) (d:Ieee.Datum):Sem Value:=match d with
 |.nan s t=>if FloatKind.f64.format.quiet t=t then pure (aw x) else choose (.extern "math.Floor,Ceil,Trunc,RoundToEven.signallingNaN kept" 2) >>=λk=>pure (aw (if k==1 then x else FloatKind.f64.encode (.nan s (FloatKind.f64.format.quiet t))))
 |d=>pure (aw (FloatKind.f64.encode (d.integral .down)))
theorem aiQ (x:Nat):Extern.MathFloor.toIntegral "math.archFloor" .down [aw x].toArray=aiS x (FloatKind.f64.decode x):=by kernel_rfl
theorem aiR (h:notNaN x) (w:World):(callFunc 339 [aw x].toArray).run prog w= .ok (.value (aw (Cj x))) w:=
 Ii (e:=Extern.MathFloor.toIntegral "math.archFloor" .down) func339 br br br br (λw=>by
  have hE:=aiQ x;rw[hE];unfold Cj;cases e:FloatKind.f64.decode x with
  |nan s t=>exact absurd e (h s t)
  |number s m p=>rfl
  |infinity s=>rfl) w
theorem QZ (x:Nat):Extern.MathSqrt.sqrt [aw x].toArray=Option.casesOn (motive:=λ_=>Sem Value) (Av x) (choose (.nanBits .f64 x x) >>=λk=>pure (aw k)) (λr=>pure (aw r)):=by kernel_rfl
theorem Q0 (h:Av x=some y) (w:World):(callFunc 170 [aw x].toArray).run prog w= .ok (.value (aw y)) w:=
 Ii (e:=Extern.MathSqrt.sqrt) func170 br br br br (λw=>by
  have hE:=QZ x;rw[hE,h];rfl) w
theorem abX (x:Nat) (w:World):∃v w',(callFunc 170 [aw x].toArray).run prog w= .ok (.value v) w'/\(∃r,v=aw r)/\(w'=w\/w'={w with drawn:=w.drawn+1}):=by
 have hr:=run_callFunc_extern (e:=Extern.MathSqrt.sqrt) func170 br br br br [aw x].toArray w;cases e:Av x with
 |some y=>exact⟨_,_,Q0 e w,⟨_,rfl⟩,.inl rfl⟩
 |none=>
  have hE:=QZ x;rw[hE,e] at hr;exact⟨_,_,hr,⟨_,O⟩,.inr O⟩
theorem Oc (h:x<9223372036854775808):ai prog 179 [aw x].toArray [] [] (Is (aw x)):=by
 refine am func179 λ_=>(Jl) ?_;refine As eA (WE x) O ?_;refine aib O O (aks h) O ?_;refine As eA (U0 x) O<|(gw) ?_;exact⟨⟨by simp[bw],rfl⟩,O⟩
theorem Ql (hx:x<9223372036854775808) (h:jd (x+1) x=some y):ai prog 178 [aw x].toArray [] [] (Is (aw y)):=by
 have e:IntKind.u64.wrap ((x:Int)+1)=((x+1:Nat):Int):=by rw[zY aa aa];omega
 refine am func178 λ_=>(Jl) ?_;refine As eA (WE x) O ?_;refine No O O (e) O<|(cF) ?_;refine As eA (U0 ((x+1:Nat):Int)) O<|(iz) ?_;refine fh O O (h) O<|cV
theorem Va (h:notNaN x):ai prog 273 [aw x].toArray [] [] (Is (aw (Cj x))):=by
 refine am func273 λ_=>(ba)<|(bR)<|(pF)<|(bJ) ?_;refine As eA (aiR h) O<|mG
theorem abV (h:Av x=some y):ai prog 146 [aw x].toArray [] [] (Is (aw y)):=by
 refine am func146 λ_=>(Jl) ?_;refine As eA (Q0 h) O<|cV
theorem abY:ai prog 146 [aw x].toArray [] [] A4:=by
 refine am func146 λ_=>(Jl) ?_;refine ahW eA (abX x) O λv hv=>?_;obtain⟨r,rfl⟩:=hv;exact I7
theorem afH (h:mo a a=some x) (h2:Av x=some y):ai prog 133 [pv a].toArray [] [] (Is (aw y)):=by
 refine am func133 λ_=>(au) ?_;intro _;exact(rL)<|aj eA call147 (oG h)<|aj eA call146 (abV h2)<|cV
theorem afj:ai prog 147 [pv a].toArray [] [] A4:=by
 refine am func147 λ_=>(au) ?_;intro _;refine(bt)<|(gM)<|aI eA call171 (VN (a:=a) (b:=a)) λv Fs' ⟨r,e1,e2⟩=>?_;subst e1;subst e2;exact I7
theorem Te:ai prog 133 [pv a].toArray [] [] A4:=by
 refine am func133 λ_=>(au) ?_;intro _;refine(rL)<|aI eA call147 (afj (a:=a)) λv Fs' ⟨r,e1,e2⟩=>?_;subst e1;subst e2;refine aI eA call146 (abY (x:=r)) λv Fs' ⟨u,e1,e2⟩=>?_;subst e1;subst e2;exact I7
theorem NL:ai prog 281 [pv a,pv b].toArray [] [] A4:=by
 refine am func281 λ_=>(au) ?_;intro _;refine(cg) ?_;intro _;refine(bt)<|(gM)<|aI eA call132 (KP (a:=a) (b:=b)) λv Fs' ⟨r,e1,e2⟩=>?_;subst e1;subst e2;refine aI eA call133 (Te (a:=r)) λv Fs' ⟨u,e1,e2⟩=>?_;subst e1;subst e2;exact I7
def lG (l:Pt×Pt):Pt×Pt:=bif jc l.2 l.1 then(l.2,l.1) else l
abbrev lv (l:Pt×Pt):Value:=dM l.1 l.2
theorem Wr:ai prog 345 [dM a b].toArray [] [] (Is (lv (lG (a,b)))):=by
 refine am func345 λ_=>(au) ?_;intro _;refine(aq) ?_;intro _;refine(cn)<|(ba)<|(eK)<|(eK)<|aj eA call235 (yG (a:=b) (b:=a))<|(aN)<|ao ?_ ?_
 ·intro hc7;exact(cJ)<|(eK)<|(eK)<|(cQ)<|(de)<|(cQ)<|(ug)<|(gq)<|(eF)<|(kS)<|XA
 ·intro hc7;exact(bX)<|(ba)<|(gq)<|(eF)<|(kS)<|XA
def yH (l m:Pt×Pt):Bool:=bif !aV l.1 m.1 then jc l.1 m.1 else jc l.2 m.2
theorem afF:ai prog 346 [dM a b,dM c d].toArray [] [] (Is (.bool (yH (a,b) (c,d)))):=by
 refine am func346 λ_=>(au) ?_;intro _;refine(cg) ?_;intro _;refine(rD)<|(eK)<|(eK) ?_;refine vY O O qV (λw=>qo 9998 w _ _ _ _) O<|(aN)<|ao ?_ ?_
 ·intro hc9;refine(ba)<|(eK)<|(eK)<|aj eA call235 (yG (a:=a) (b:=c))<|(jZ) ?_;exact⟨⟨by simp_all [bw,yH,aV];try (cases h1:cX a.1 c.1<;>cases h2:cX a.2 c.2<;>simp_all),O⟩,O⟩
 ·intro hc9;refine(bX)<|(ba)<|(eK)<|(eK)<|aj eA call235 (yG (a:=b) (b:=d))<|(gw) ?_;exact⟨⟨by simp_all [bw,yH,aV];try (cases h1:cX a.1 c.1<;>cases h2:cX a.2 c.2<;>simp_all),O⟩,O⟩
def xT (l m:Pt×Pt):(Pt×Pt)×(Pt×Pt):=bif !yH (lG l) (lG m) then(lG m,lG l) else(lG l,lG m)
theorem Ws:ai prog 287 [dM a b,dM c d].toArray [] [] (Is (.tuple #[lv (xT (a,b) (c,d)).1,lv (xT (a,b) (c,d)).2])):=by
 refine am func287 λ_=>(au) ?_;intro r2;refine(cg) ?_;intro r3;refine(aq) ?_;intro _;refine(aq) ?_;intro _;refine(eZ)<|(gq)<|aj eA call345 (Wr (a:=a) (b:=b))<|(ug)<|(gq)<|aj eA call345 (Wr (a:=c) (b:=d))<|(dS)<|(ba)<|(gq)<|(gq)<|aj eA call346 (afF (a:=(lG (a,b)).1) (b:=(lG (a,b)).2) (c:=(lG (c,d)).1) (d:=(lG (c,d)).2))<|(Ja)<|ao ?_ ?_
 ·intro hc13;refine(ce) ?_;refine dl (r:=r2) tA ?_;refine dl (r:=r3) tA ?_;refine cz cw 4 [2,3] [2,3]<|(zu)<|(zu)<|(dT)<|(de) ?_;refine mj (.norm ⟨⟨undef,O⟩,(sN)<|(de) ?_⟩);refine mj (.norm ⟨⟨undef,O⟩,(um)<|(aN)<|(xY)<|(gV)<|(kS)<|Xz⟩)
 ·intro hc13;refine(om) ?_;refine dl (r:=r2) tA ?_;refine dl (r:=r3) tA ?_;refine cz cw 4 [2,3] [2,3]<|(zu)<|(zu)<|(dT)<|(de) ?_;refine mj (.norm ⟨⟨undef,O⟩,(sN)<|(de) ?_⟩);refine mj (.norm ⟨⟨undef,O⟩,(um)<|(aN)<|(xY)<|(kS)<|Xz⟩)
end Go.Proofs
namespace Go.Proofs
open Tryz
open Go.V
variable {a b c d p q r:Pt} {x y z s:Nat} {l:List Pt}
theorem aj5:ai prog 191 [pv p,dM a b].toArray [] [] A4:=by
 refine am func191 λ_=>(au) ?_;intro _;refine(cg) ?_;intro _;refine(fo)<|(eK)<|(eK)<|aI eA call132 (KP (a:=b) (b:=a)) λv Fs' ⟨r1,e1,e2⟩=>?_;subst e1;subst e2;refine(aq) ?_;intro _;refine(wO)<|aI eA call133 (Te (a:=r1)) λv Fs' ⟨r2,e1,e2⟩=>?_;subst e1;subst e2;refine(bR) ?_;refine cz cw 8 [3,5,7] []<|(jf)<|(iU)<|(jf)<|(vr)<|(dT)<|aI eA call132 (KP (a:=p) (b:=a)) λv Fs' ⟨r3,e1,e2⟩=>?_;subst e1;subst e2;refine(dU)<|aI eA call171 (VN (a:=r3) (b:=r1)) λv Fs' ⟨r4,e1,e2⟩=>?_;subst e1;subst e2;refine(dU)<|(jV) ?_;intro _;refine(iy)<|(fo)<|(aq) ?_;intro r8;refine(cn)<|(gU)<|(bJ)<|(ns)<|(bt)<|ao ?_ ?_
 ·intro hc34;refine(cJ)<|(eK)<|(cu)<|(ir)<|(gM)<|aI eA call281 (NL (a:=p)) λv Fs' ⟨r7,e1,e2⟩=>?_;subst e1;subst e2;exact I7
 ·intro hc34;refine(fb)<|(ns)<|(bt)<|ao ?_ ?_
  ·intro hc39;refine(cJ)<|(eK)<|(cu)<|(ir)<|(gM)<|aI eA call281 (NL (a:=p)) λv Fs' ⟨r7,e1,e2⟩=>?_;subst e1;subst e2;exact I7
  ·intro hc39;refine(cR)<|(dG)<|(jV) ?_;intro _;refine aI eA call279 (acO (a:=r1)) λv Fs' ⟨r5,e1,e2⟩=>?_;subst e1;subst e2;refine(aq) ?_;intro _;refine(cu)<|(mH)<|(eK)<|aI eA call280 (aln (a:=r5) (b:=a)) λv Fs' ⟨r6,e1,e2⟩=>?_;subst e1;subst e2;refine(cu)<|(ir)<|(gM)<|aI eA call281 (NL (a:=p)) λv Fs' ⟨r7,e1,e2⟩=>?_;subst e1;subst e2;exact I7
def eu (p q r:Pt):Bool:=oa r.1 (iN p.1 q.1)&&(kK r.1 (wa p.1 q.1)&&(oa r.2 (iN p.2 q.2)&&kK r.2 (wa p.2 q.2)))
theorem qO:ai prog 348 [pv p,pv q,pv r].toArray [] [] (Is (.bool (eu p q r))):=by
 cases h1:oa r.1 (iN p.1 q.1) with
 |false=>
  refine am func348 λ_=>(au) ?_;intro _;refine(cg) ?_;intro _;refine(cg) ?_;intro _;refine(sI) ?_;refine ac O (λkX=>aj eA call177 (yM (x:=p.1) (y:=q.1)) kX) ?_;refine ac O (ly O O (by show some (oa r.1 (iN p.1 q.1))=_;rw[h1]) O)<|(Jn)<|(jN)<|(Jn)<|(jN)<|(Jn)<|(jN)<|(jY)<|(gw) ?_;exact⟨⟨by simp[bw,eu,h1],rfl⟩,O⟩
 |true=>
 cases h2:kK r.1 (wa p.1 q.1) with
 |false=>
  refine am func348 λ_=>(au) ?_;intro _;refine(cg) ?_;intro _;refine(cg) ?_;intro _;refine(sI) ?_;refine ac O (λkX=>aj eA call177 (yM (x:=p.1) (y:=q.1)) kX) ?_;refine ac O (ly O O (by show some (oa r.1 (iN p.1 q.1))=_;rw[h1]) O)<|(bh) ?_;refine ac O (λkX=>ah O O (b9 ab O O O O kX)) ?_;refine ac O (λkX=>ah O O (az ab O O O (bj mA O O) O kX)) ?_;refine ac O (λkX=>ah O O (b9 ab O O O O kX)) ?_;refine ac O (λkX=>ah O O (az ab O O O (bj mA O O) O kX)) ?_;refine ac O (λkX=>ah O O (b9 ab O O O O kX)) ?_;refine ac O (λkX=>ah O O (az ab O O O (bj mA O O) O kX)) ?_;refine ac O (λkX=>ah O O (aj eA call382 (HZ (x:=p.1) (y:=q.1)) kX)) ?_;refine ac O (λkX=>ah O O (ly O O (by show some (kK r.1 (wa p.1 q.1))=_;rw[h2]) O kX))<|(iV)<|(Jn)<|(jN)<|(Jn)<|(jN)<|(jY)<|(gw) ?_;exact⟨⟨by simp[bw,eu,h1,h2],rfl⟩,O⟩
 |true=>
 cases h3:oa r.2 (iN p.2 q.2) with
 |false=>
  refine am func348 λ_=>(au) ?_;intro _;refine(cg) ?_;intro _;refine(cg) ?_;intro _;refine(sI) ?_;refine ac O (λkX=>aj eA call177 (yM (x:=p.1) (y:=q.1)) kX) ?_;refine ac O (ly O O (by show some (oa r.1 (iN p.1 q.1))=_;rw[h1]) O)<|(bh) ?_;refine ac O (λkX=>ah O O (b9 ab O O O O kX)) ?_;refine ac O (λkX=>ah O O (az ab O O O (bj mA O O) O kX)) ?_;refine ac O (λkX=>ah O O (b9 ab O O O O kX)) ?_;refine ac O (λkX=>ah O O (az ab O O O (bj mA O O) O kX)) ?_;refine ac O (λkX=>ah O O (b9 ab O O O O kX)) ?_;refine ac O (λkX=>ah O O (az ab O O O (bj mA O O) O kX)) ?_;refine ac O (λkX=>ah O O (aj eA call382 (HZ (x:=p.1) (y:=q.1)) kX)) ?_;refine ac O (λkX=>ah O O (ly O O (by show some (kK r.1 (wa p.1 q.1))=_;rw[h2]) O kX))<|(iV)<|(bh) ?_;refine ac O (λkX=>ah O O (b9 ab O O O O kX)) ?_;refine ac O (λkX=>ah O O (az ab O O O (bj mA O O) O kX)) ?_;refine ac O (λkX=>ah O O (b9 ab O O O O kX)) ?_;refine ac O (λkX=>ah O O (az ab O O O (bj mA O O) O kX)) ?_;refine ac O (λkX=>ah O O (b9 ab O O O O kX)) ?_;refine ac O (λkX=>ah O O (az ab O O O (bj mA O O) O kX)) ?_;refine ac O (λkX=>ah O O (aj eA call177 (yM (x:=p.2) (y:=q.2)) kX)) ?_;refine ac O (λkX=>ah O O (ly O O (by show some (oa r.2 (iN p.2 q.2))=_;rw[h3]) O kX))<|(iV)<|(Jn)<|(jN)<|(jY)<|(gw) ?_;exact⟨⟨by simp[bw,eu,h1,h2,h3],rfl⟩,O⟩
 |true=>
  refine am func348 λ_=>(au) ?_;intro _;refine(cg) ?_;intro _;refine(cg) ?_;intro _;refine(sI) ?_;refine ac O (λkX=>aj eA call177 (yM (x:=p.1) (y:=q.1)) kX) ?_;refine ac O (ly O O (by show some (oa r.1 (iN p.1 q.1))=_;rw[h1]) O)<|(bh) ?_;refine ac O (λkX=>ah O O (b9 ab O O O O kX)) ?_;refine ac O (λkX=>ah O O (az ab O O O (bj mA O O) O kX)) ?_;refine ac O (λkX=>ah O O (b9 ab O O O O kX)) ?_;refine ac O (λkX=>ah O O (az ab O O O (bj mA O O) O kX)) ?_;refine ac O (λkX=>ah O O (b9 ab O O O O kX)) ?_;refine ac O (λkX=>ah O O (az ab O O O (bj mA O O) O kX)) ?_;refine ac O (λkX=>ah O O (aj eA call382 (HZ (x:=p.1) (y:=q.1)) kX)) ?_;refine ac O (λkX=>ah O O (ly O O (by show some (kK r.1 (wa p.1 q.1))=_;rw[h2]) O kX))<|(iV)<|(bh) ?_;refine ac O (λkX=>ah O O (b9 ab O O O O kX)) ?_;refine ac O (λkX=>ah O O (az ab O O O (bj mA O O) O kX)) ?_;refine ac O (λkX=>ah O O (b9 ab O O O O kX)) ?_;refine ac O (λkX=>ah O O (az ab O O O (bj mA O O) O kX)) ?_;refine ac O (λkX=>ah O O (b9 ab O O O O kX)) ?_;refine ac O (λkX=>ah O O (az ab O O O (bj mA O O) O kX)) ?_;refine ac O (λkX=>ah O O (aj eA call177 (yM (x:=p.2) (y:=q.2)) kX)) ?_;refine ac O (λkX=>ah O O (ly O O (by show some (oa r.2 (iN p.2 q.2))=_;rw[h3]) O kX))<|(iV)<|(bh) ?_;refine ac O (λkX=>ah O O (b9 ab O O O O kX)) ?_;refine ac O (λkX=>ah O O (az ab O O O (bj mA O O) O kX)) ?_;refine ac O (λkX=>ah O O (b9 ab O O O O kX)) ?_;refine ac O (λkX=>ah O O (az ab O O O (bj mA O O) O kX)) ?_;refine ac O (λkX=>ah O O (b9 ab O O O O kX)) ?_;refine ac O (λkX=>ah O O (az ab O O O (bj mA O O) O kX)) ?_;refine ac O (λkX=>ah O O (aj eA call382 (HZ (x:=p.2) (y:=q.2)) kX)) ?_;refine ac O (λkX=>ah O O (ly O O O O kX))<|(iV)<|(jY)<|(gw) ?_;exact⟨⟨by simp[bw,eu,h1,h2,h3],rfl⟩,O⟩
end Go.Proofs
namespace Go.Proofs
open Tryz
open Go.V
variable {a b c d p q r:Pt} {x y z s:Nat} {l:List Pt}
theorem ab3 {R:Prop} (p q:Bool) (h1:p=true->R) (h2:p=false->q=false->R) (h3:p=false->q=true->R):R:=by
 cases p with
 |true=>exact h1 rfl
 |false=>cases q with
  |false=>exact h2 rfl rfl
  |true=>exact h3 rfl rfl
theorem fK {Fs:List an} {L:List ae} {r off:Nat} {α:Type} {F:α->List Value} {k:Nat} {xs:List α} {j:Nat} {x:α} (h:fS Fs L r 0 (xs.flatMap F))
  (hk:∀y∈xs,(F y).length=k) (hx:xs[j]? =some x) (ho:off=j*k):fS Fs L r off (F x):=tM (tl:=[]) (by simpa using h) hk hx ho
def me (a b:Pt):Bool:=fJ a.1 b.1||(cX a.1 b.1&&fJ a.2 b.2)
def lH (B:Pt->Pt->Bool) (l:List Pt):Nat->Nat
 |0=>0
 |i+1=>if B (l.getD (i+1) (0,0)) (l.getD (lH B l i) (0,0)) then i+1 else lH B l i
theorem u7 (B:Pt->Pt->Bool) (l:List Pt):∀i,lH B l i<=i
 |0=>bg _
 |i+1=>by
  unfold lH;split
  ·exact bg _
  ·exact Bg (u7 B l i)
def oc (B:Pt->Pt->Bool) (l:List Pt):Nat:=lH B l (l.length-1)
theorem getD_some {α:Type} {l:List α} {i:Nat} {x d:α} (h:l[i]? =some x):l.getD i d=x:=by simp[List.getD,h]
theorem WK {B:Pt->Pt->Bool} {l:List Pt} {i k:Nat} {x y:Pt} (h4:1<=i) (h6:k=lH B l (i-1)) (hx:l[i]? =some x) (hy:l[k]? =some y):lH B l (i+1-1)=if B x y then i else k:=by
 obtain⟨j,rfl⟩:∃j,i=j+1:=⟨i-1,aa⟩;simp only[Bs] at h6 ⊢;rw[show lH B l (j+1)=if B (l.getD (j+1) (0,0)) (l.getD (lH B l j) (0,0)) then j+1 else lH B l j from rfl,getD_some hx,<-h6,getD_some hy]
theorem jG (l:List Pt):∀y∈l,((λp:Pt=>[aw p.1,aw p.2]) y).length=2:=λ_ _=>rfl
theorem iI {Fs:List an} {L:List ae} {g n:Nat} {cur:Array Value} {T:TypeId} {fz:Nat×Nat} {xs:List Value} (hm:(g,Obj.cells cur T fz)∈L) (h:cur.toList.take n=xs):fS Fs L g 0 xs:=by
 intro hp w sa al j v hv;have h1:=bD (Fs:=Fs) hm hp w sa al j v;refine h1 ?_;rw[<-h,uK] at hv;split at hv
 ·exact hv
 ·cases hv
theorem G1 {g cap:Nat} {cur:Array Value} (h0:0<l.length) (hb:l.length<=1048576) (hc:cur.toList.take (l.length*2)=bl l):ai prog 349 [.slice (some ⟨g,0,none⟩) l.length cap].toArray [] [(g,.cells cur 79 (0,0))]
  (λv Fs' L'=>(v=iv (oc me l)/\Fs'=[])/\L'=[(g,.cells cur 79 (0,0))]):=by
 refine am func349 λ_=>(y8)<|(oQ)<|aU [(3,48)] (λ(x:Nat×Nat)=>(1<=x.1/\x.1<=l.length)/\x.2=lH me l (x.1-1)) (λx=>[(4,iv x.1),(3,iv x.2)]) (λ_=>[]) (λ_=>[]) (λx=>l.length-x.1) ((1,0)) (⟨⟨bg _,h0⟩,O⟩) λ⟨i,k⟩ fr ⟨⟨h4,h5⟩,h6⟩=>?_;dsimp only at h4 h5 h6;refine(lL)<|(dH)<|(kU)<|ao ?_ ?_
 ·intro hc8;have hlt:i<l.length:=by have:=of_decide_eq_true hc8;dsimp only at this;omega
  have hle:=u7 me l (i-1);rw[<-h6] at hle;obtain⟨x,hx⟩:∃x,l[i]? =some x:=⟨_,aG hlt⟩;obtain⟨y,hy⟩:∃y,l[k]? =some y:=⟨_,aG aa⟩;have hstep:=WK (B:=me) h4 h6 hx hy;refine(CP) ?_;refine ab3 (fJ x.1 y.1) (cX x.1 y.1) (λh1=>?_) (λh1 h2=>?_) (λh1 h2=>?_)
  ·refine(OR)<|(zn) ?_;refine ac O (bp (s:=2) (i:=i) ab O O O O O aa aa O)<|(iU) ?_;refine ac O (az ab O O O (q9 (F:=λp:Pt=>[aw p.1,aw p.2]) (k:=2) (i:=0) (iI mA hc) (jG l) hx O aa) O)<|(zn) ?_;refine ac O (bp (s:=2) (i:=k) ab O O O O O aa aa O)<|(iU) ?_;refine ac O (az ab O O O (q9 (F:=λp:Pt=>[aw p.1,aw p.2]) (k:=2) (i:=0) (iI mA hc) (jG l) hy O aa) O) ?_;refine ac O (ly O O (by show some (fJ x.1 y.1)=_;rw[h1]) O)<|(bh)<|(qE)<|(qE)<|(OF)<|(sR)<|(sR)<|(sR)<|(pT)<|(iV)<|(jY)<|(vE)<|(aY)<|(I4) ?_;exact⟨(i+1,i),oA,⟨⟨oA,oA⟩,by dsimp only;rw[hstep];simp[me,h1]⟩,lA,kA,fA,hA⟩
  ·refine(OR)<|(zn) ?_;refine ac O (bp (s:=2) (i:=i) ab O O O O O aa aa O)<|(iU) ?_;refine ac O (az ab O O O (q9 (F:=λp:Pt=>[aw p.1,aw p.2]) (k:=2) (i:=0) (iI mA hc) (jG l) hx O aa) O)<|(zn) ?_;refine ac O (bp (s:=2) (i:=k) ab O O O O O aa aa O)<|(iU) ?_;refine ac O (az ab O O O (q9 (F:=λp:Pt=>[aw p.1,aw p.2]) (k:=2) (i:=0) (iI mA hc) (jG l) hy O aa) O) ?_;refine ac O (ly O O (by show some (fJ x.1 y.1)=_;rw[h1]) O)<|(bh) ?_;refine ac O (λkX=>ah O O (eV O O kX)) ?_;refine ac O (λkX=>ah O O (eV O O kX)) ?_;refine ac O (λkX=>ah O O (bp (s:=2) (i:=i) ab O O O O O aa aa O kX)) ?_;refine ac O (λkX=>ah O O (b9 ab O O O O kX)) ?_;refine ac O (λkX=>ah O O (az ab O O O (q9 (F:=λp:Pt=>[aw p.1,aw p.2]) (k:=2) (i:=0) (iI mA hc) (jG l) hx O aa) O kX)) ?_;refine ac O (λkX=>ah O O (eV O O kX)) ?_;refine ac O (λkX=>ah O O (eV O O kX)) ?_;refine ac O (λkX=>ah O O (bp (s:=2) (i:=k) ab O O O O O aa aa O kX)) ?_;refine ac O (λkX=>ah O O (b9 ab O O O O kX)) ?_;refine ac O (λkX=>ah O O (az ab O O O (q9 (F:=λp:Pt=>[aw p.1,aw p.2]) (k:=2) (i:=0) (iI mA hc) (jG l) hy O aa) O kX)) ?_;refine ac O (λkX=>ah O O (ly O O (by show some (cX x.1 y.1)=_;rw[h2]) O kX)) ?_;refine ac O (λkX=>ah O O (eV O O kX))<|(qE)<|(vw)<|(vw)<|(pT) ?_;refine ac O (λkX=>ah O O (Cf O O O kX))<|(jN)<|(jY)<|(gH)<|(jM) ?_;exact⟨(i+1,k),oA,⟨⟨oA,oA⟩,by dsimp only;rw[hstep];simp[me,h1,h2]⟩,lA,kA,fA,hA⟩
  ·refine(OR)<|(zn) ?_;refine ac O (bp (s:=2) (i:=i) ab O O O O O aa aa O)<|(iU) ?_;refine ac O (az ab O O O (q9 (F:=λp:Pt=>[aw p.1,aw p.2]) (k:=2) (i:=0) (iI mA hc) (jG l) hx O aa) O)<|(zn) ?_;refine ac O (bp (s:=2) (i:=k) ab O O O O O aa aa O)<|(iU) ?_;refine ac O (az ab O O O (q9 (F:=λp:Pt=>[aw p.1,aw p.2]) (k:=2) (i:=0) (iI mA hc) (jG l) hy O aa) O) ?_;refine ac O (ly O O (by show some (fJ x.1 y.1)=_;rw[h1]) O)<|(bh) ?_;refine ac O (λkX=>ah O O (eV O O kX)) ?_;refine ac O (λkX=>ah O O (eV O O kX)) ?_;refine ac O (λkX=>ah O O (bp (s:=2) (i:=i) ab O O O O O aa aa O kX)) ?_;refine ac O (λkX=>ah O O (b9 ab O O O O kX)) ?_;refine ac O (λkX=>ah O O (az ab O O O (q9 (F:=λp:Pt=>[aw p.1,aw p.2]) (k:=2) (i:=0) (iI mA hc) (jG l) hx O aa) O kX)) ?_;refine ac O (λkX=>ah O O (eV O O kX)) ?_;refine ac O (λkX=>ah O O (eV O O kX)) ?_;refine ac O (λkX=>ah O O (bp (s:=2) (i:=k) ab O O O O O aa aa O kX)) ?_;refine ac O (λkX=>ah O O (b9 ab O O O O kX)) ?_;refine ac O (λkX=>ah O O (az ab O O O (q9 (F:=λp:Pt=>[aw p.1,aw p.2]) (k:=2) (i:=0) (iI mA hc) (jG l) hy O aa) O kX)) ?_;refine ac O (λkX=>ah O O (ly O O (by show some (cX x.1 y.1)=_;rw[h2]) O kX)) ?_;refine ac O (λkX=>ah O O (eV O O kX)) ?_;refine ac O (λkX=>ah O O (eV O O kX)) ?_;refine ac O (λkX=>ah O O (eV O O kX)) ?_;refine ac O (λkX=>ah O O (bp (s:=2) (i:=i) ab O O O O O aa aa O kX)) ?_;refine ac O (λkX=>ah O O (b9 ab O O O O kX)) ?_;refine ac O (λkX=>ah O O (az ab O O O (q9 (F:=λp:Pt=>[aw p.1,aw p.2]) (k:=2) (i:=1) (iI mA hc) (jG l) hx O aa) O kX)) ?_;refine ac O (λkX=>ah O O (eV O O kX)) ?_;refine ac O (λkX=>ah O O (eV O O kX)) ?_;refine ac O (λkX=>ah O O (bp (s:=2) (i:=k) ab O O O O O aa aa O kX)) ?_;refine ac O (λkX=>ah O O (b9 ab O O O O kX)) ?_;refine ac O (λkX=>ah O O (az ab O O O (q9 (F:=λp:Pt=>[aw p.1,aw p.2]) (k:=2) (i:=1) (iI mA hc) (jG l) hy O aa) O kX)) ?_;refine ac O (λkX=>ah O O (ly O O O O kX)) ?_;refine ac O (λkX=>ah O O (Ce O O O kX))<|(jN)<|(pH)<|ao ?_ ?_
   ·intro hc47;refine(aY)<|(I4) ?_;exact⟨(i+1,i),oA,⟨⟨oA,oA⟩,by dsimp only;rw[hstep];simp[me,h1,h2];simp_all⟩,lA,kA,fA,hA⟩
   ·intro hc47;refine(bX)<|(jM) ?_;exact⟨(i+1,k),oA,⟨⟨oA,oA⟩,by dsimp only;rw[hstep];simp[me,h1,h2];simp_all⟩,lA,kA,fA,hA⟩
 ·intro hc8;have hge:i=l.length:=by have:=of_decide_eq_false hc8;dsimp only at this;omega
  refine(CU)<|(bO)<|aH [] [(g,.cells cur 79 (0,0))] ?_;exact⟨⟨by simp only[bw];rw[h6,hge];rfl,O⟩,O⟩
theorem afQ {g cap:Nat} {cur:Array Value} (h0:0<l.length) (hb:l.length<=1048576) (hc:cur.toList.take (l.length*2)=bl l):ai prog 350 [.slice (some ⟨g,0,none⟩) l.length cap].toArray [] [(g,.cells cur 79 (0,0))]
  (λv Fs' L'=>(v=iv (oc jc l)/\Fs'=[])/\L'=[(g,.cells cur 79 (0,0))]):=by
 refine am func350 λ_=>(y8)<|(oQ)<|aU [(3,20)] (λ(x:Nat×Nat)=>(1<=x.1/\x.1<=l.length)/\x.2=lH jc l (x.1-1)) (λx=>[(4,iv x.1),(3,iv x.2)]) (λ_=>[]) (λ_=>[]) (λx=>l.length-x.1) ((1,0)) (⟨⟨bg _,h0⟩,O⟩) λ⟨i,k⟩ fr ⟨⟨h4,h5⟩,h6⟩=>?_;dsimp only at h4 h5 h6;refine(lL)<|(dH)<|(kU)<|ao ?_ ?_
 ·intro hc8;have hlt:i<l.length:=by have:=of_decide_eq_true hc8;dsimp only at this;omega
  have hle:=u7 jc l (i-1);rw[<-h6] at hle;obtain⟨x,hx⟩:∃x,l[i]? =some x:=⟨_,aG hlt⟩;obtain⟨y,hy⟩:∃y,l[k]? =some y:=⟨_,aG aa⟩;have hstep:=WK (B:=jc) h4 h6 hx hy;refine(CP)<|(AP)<|(zn) ?_;refine ac O (bp (s:=2) (i:=i) ab O O O O O aa aa O) ?_;refine ac O (aK ab O O O (fK (F:=λp:Pt=>[aw p.1,aw p.2]) (k:=2) (iI mA hc) (jG l) hx aa) O O)<|(zn) ?_;refine ac O (bp (s:=2) (i:=k) ab O O O O O aa aa O) ?_;refine ac O (aK ab O O O (fK (F:=λp:Pt=>[aw p.1,aw p.2]) (k:=2) (iI mA hc) (jG l) hy aa) O O) ?_;refine ac O (λkX=>aj eA call235 (yG (a:=x) (b:=y)) kX)<|(pH)<|ao ?_ ?_
  ·intro hc19;refine(aY)<|(I4) ?_;exact⟨(i+1,i),oA,⟨⟨oA,oA⟩,by dsimp only;rw[hstep];simp[hc19]⟩,lA,kA,fA,hA⟩
  ·intro hc19;refine(bX)<|(jM) ?_;exact⟨(i+1,k),oA,⟨⟨oA,oA⟩,by dsimp only;rw[hstep];simp[hc19]⟩,lA,kA,fA,hA⟩
 ·intro hc8;have hge:i=l.length:=by have:=of_decide_eq_false hc8;dsimp only at this;omega
  refine(CU)<|(bO)<|aH [] [(g,.cells cur 79 (0,0))] ?_;exact⟨⟨by simp only[bw];rw[h6,hge];rfl,O⟩,O⟩
end Go.Proofs
namespace Go.Proofs
open Tryz
open Go.V
variable {a b c d p q r:Pt} {x y z s:Nat} {l:List Pt} {o1 o2 o3 o4:Int}
def Cv (a b c d:Pt):Option Pt:=
 (jd c.2 d.2).bind λt76=>(jd a.1 c.1).bind λt81=>(jm t76 t81).bind λt82=>(jd d.1 c.1).bind λt87=>(jd a.2 c.2).bind λt92=>(jm t87 t92).bind λt93=>(qm t82 t93).bind λt94=>
 (jd a.2 b.2).bind λt104=>(jm t87 t104).bind λt105=>(jd a.1 b.1).bind λt110=>(jd d.2 c.2).bind λt115=>(jm t110 t115).bind λt116=>(jd t105 t116).bind λt117=>
 (fdiv t94 t117).bind λt120=>(jE b a).bind λu=>(GW u t120).bind λv=>IF v a
def nU (a b c d:Pt):Pt×Pt:=
 let ps:=[a,b,c,d].eraseIdx (oc me [a,b,c,d])
 let qs:=ps.eraseIdx (oc jc ps)
 (qs.getD 0 (0,0),qs.getD 1 (0,0))
def qg:Option (Pt×Pt)->Value
 |none=> .agg #[.bool true,aw 0,aw 0,aw 0,aw 0]
 |some (p,q)=> .agg #[.bool false,aw p.1,aw p.2,aw q.1,aw q.2]
def yV (a b c d:Pt):Bool:=(!eu a b c&&!eu a b d)&&(!eu c d a&&!eu c d b)
def EJ (a b c d:Pt):Option (Option (Pt×Pt)):=
 (cH a b c).bind λo1=>(cH a b d).bind λo2=>(cH c d a).bind λo3=>(cH c d b).bind λo4=>
 if o1≠o2/\o3≠o4 then
  if o1=2 then some (some (c,c)) else if o2=2 then some (some (d,d)) else if o3=2 then some (some (a,a)) else if o4=2 then some (some (b,b))
  else(Cv a b c d).map λp=>some (p,p)
 else if o1=2/\o2=2 then(if yV a b c d then some none else some (some (nU a b c d))) else some none
theorem ag4 (h1:cH a b c=some o1) (h2:cH a b d=some o2) (h3:cH c d a=some o3) (h4:cH c d b=some o4) (h5:o1≠o2) (h6:o3≠o4) (ho1:o1=2):ai prog 288 [dM a b,dM c d].toArray [] [] (Is (qg (some (c,c)))):=by
 refine am func288 λ_=>(au) ?_;intro _;refine(cg) ?_;intro _;refine(aq) ?_;intro _;refine(uc) ?_;intro _;refine(lM) ?_;intro _;refine(lM) ?_;intro _;refine(lM) ?_;intro _;refine(Jo)<|aj eA call347 (dk h1)<|(fq)<|aj eA call347 (dk h2)<|(fq)<|aj eA call347 (dk h3)<|(fq)<|aj eA call347 (dk h4)<|(jL) ?_;refine aL O O (by show some (decide (o1≠o2))=some true;simp[h5]) O<|(pI) ?_;refine ah O O (aL O O (by show some (decide (o3≠o4))=some true;simp[h6]) O<|(pK)<|(eE) ?_);refine aL O O (by show some (decide (o1=2))=some true;simp[ho1]) O<|Jg
theorem ag3 (h1:cH a b c=some o1) (h2:cH a b d=some o2) (h3:cH c d a=some o3) (h4:cH c d b=some o4) (h5:o1≠o2) (h6:o3≠o4) (ho1:¬o1=2) (ho2:o2=2):ai prog 288 [dM a b,dM c d].toArray [] [] (Is (qg (some (d,d)))):=by
 refine am func288 λ_=>(au) ?_;intro _;refine(cg) ?_;intro _;refine(aq) ?_;intro _;refine(uc) ?_;intro _;refine(lM) ?_;intro _;refine(lM) ?_;intro _;refine(lM) ?_;intro _;refine(Jo)<|aj eA call347 (dk h1)<|(fq)<|aj eA call347 (dk h2)<|(fq)<|aj eA call347 (dk h3)<|(fq)<|aj eA call347 (dk h4)<|(jL) ?_;refine aL O O (by show some (decide (o1≠o2))=some true;simp[h5]) O<|(pI) ?_;refine ah O O (aL O O (by show some (decide (o3≠o4))=some true;simp[h6]) O<|(pK)<|(eE) ?_);refine aL O O (by show some (decide (o1=2))=some false;simp[ho1]) O<|(vp) ?_;refine aL O O (by show some (decide (o2=2))=some true;simp[ho2]) O<|Jg
theorem ag2 (h1:cH a b c=some o1) (h2:cH a b d=some o2) (h3:cH c d a=some o3) (h4:cH c d b=some o4) (h5:o1≠o2) (h6:o3≠o4) (ho1:¬o1=2) (ho2:¬o2=2) (ho3:o3=2):ai prog 288 [dM a b,dM c d].toArray [] [] (Is (qg (some (a,a)))):=by
 refine am func288 λ_=>(au) ?_;intro _;refine(cg) ?_;intro _;refine(aq) ?_;intro _;refine(uc) ?_;intro _;refine(lM) ?_;intro _;refine(lM) ?_;intro _;refine(lM) ?_;intro _;refine(Jo)<|aj eA call347 (dk h1)<|(fq)<|aj eA call347 (dk h2)<|(fq)<|aj eA call347 (dk h3)<|(fq)<|aj eA call347 (dk h4)<|(jL) ?_;refine aL O O (by show some (decide (o1≠o2))=some true;simp[h5]) O<|(pI) ?_;refine ah O O (aL O O (by show some (decide (o3≠o4))=some true;simp[h6]) O<|(pK)<|(eE) ?_);refine aL O O (by show some (decide (o1=2))=some false;simp[ho1]) O<|(vp) ?_;refine aL O O (by show some (decide (o2=2))=some false;simp[ho2]) O<|(vp) ?_;refine aL O O (by show some (decide (o3=2))=some true;simp[ho3]) O<|Jg
theorem ag0 (h1:cH a b c=some o1) (h2:cH a b d=some o2) (h3:cH c d a=some o3) (h4:cH c d b=some o4) (h5:o1≠o2) (h6:o3≠o4) (ho1:¬o1=2) (ho2:¬o2=2) (ho3:¬o3=2) (ho4:o4=2):ai prog 288 [dM a b,dM c d].toArray [] [] (Is (qg (some (b,b)))):=by
 refine am func288 λ_=>(au) ?_;intro _;refine(cg) ?_;intro _;refine(aq) ?_;intro _;refine(uc) ?_;intro _;refine(lM) ?_;intro _;refine(lM) ?_;intro _;refine(lM) ?_;intro _;refine(Jo)<|aj eA call347 (dk h1)<|(fq)<|aj eA call347 (dk h2)<|(fq)<|aj eA call347 (dk h3)<|(fq)<|aj eA call347 (dk h4)<|(jL) ?_;refine aL O O (by show some (decide (o1≠o2))=some true;simp[h5]) O<|(pI) ?_;refine ah O O (aL O O (by show some (decide (o3≠o4))=some true;simp[h6]) O<|(pK)<|(eE) ?_);refine aL O O (by show some (decide (o1=2))=some false;simp[ho1]) O<|(vp) ?_;refine aL O O (by show some (decide (o2=2))=some false;simp[ho2]) O<|(vp) ?_;refine aL O O (by show some (decide (o3=2))=some false;simp[ho3]) O<|(vp) ?_;refine aL O O (by show some (decide (o4=2))=some true;simp[ho4]) O<|Jg
theorem agZ (h1:cH a b c=some o1) (h2:cH a b d=some o2) (h3:cH c d a=some o3) (h4:cH c d b=some o4) (h5:o1≠o2) (h6:o3≠o4) (ho1:¬o1=2) (ho2:¬o2=2) (ho3:¬o3=2) (ho4:¬o4=2) (hp:Cv a b c d=some p):ai prog 288 [dM a b,dM c d].toArray [] [] (Is (qg (some (p,p)))):=by
 simp only[Cv,jO] at hp;obtain⟨t76,k76,t81,k81,t82,k82,t87,k87,t92,k92,t93,k93,t94,k94,t104,k104,t105,k105,t110,k110,t115,k115,t116,k116,t117,k117,t120,k120,u,ku,v,kv,hp⟩:=hp;refine am func288 λ_=>(au) ?_;intro _;refine(cg) ?_;intro _;refine(aq) ?_;intro _;refine(uc) ?_;intro _;refine(lM) ?_;intro _;refine(lM) ?_;intro _;refine(lM) ?_;intro _;refine(Jo)<|aj eA call347 (dk h1)<|(fq)<|aj eA call347 (dk h2)<|(fq)<|aj eA call347 (dk h3)<|(fq)<|aj eA call347 (dk h4)<|(jL) ?_;refine aL O O (by show some (decide (o1≠o2))=some true;simp[h5]) O<|(pI) ?_;refine ah O O (aL O O (by show some (decide (o3≠o4))=some true;simp[h6]) O<|(pK)<|(eE) ?_);refine aL O O (by show some (decide (o1=2))=some false;simp[ho1]) O<|(vp) ?_;refine aL O O (by show some (decide (o2=2))=some false;simp[ho2]) O<|(vp) ?_;refine aL O O (by show some (decide (o3=2))=some false;simp[ho3]) O<|(vp) ?_;refine aL O O (by show some (decide (o4=2))=some false;simp[ho4]) O<|(gH)<|(fR)<|(dW) ?_;refine fh O O (k76) O<|(zk) ?_;refine fh O O (k81) O ?_;refine fh O O (k82) O<|(zk) ?_;refine fh O O (k87) O<|(zk) ?_;refine fh O O (k92) O ?_;refine fh O O (k93) O ?_;refine fh O O (k94) O<|(fP)<|(dW) ?_;refine fh O O (k87) O<|(zk) ?_;refine fh O O (k104) O ?_;refine fh O O (k105) O<|(zk) ?_;refine fh O O (k110) O<|(zk) ?_;refine fh O O (k115) O ?_;refine fh O O (k116) O ?_;refine fh O O (k117) O<|(iz) ?_;refine fh O O (k120) O<|(bR) ?_;refine cz cw 8 [7] []<|(jf)<|(jf) ?_;refine ac O (λkX=>aj eA call132 (z0 ku) kX)<|(bh) ?_;refine ac O (λkX=>aj eA call279 (acN kv) kX)<|(jf) ?_;refine ac O (λkX=>aj eA call280 (alj hp) kX)<|(dT)<|(aq) ?_;intro _;exact(iy)<|(cu)<|(gM)<|(iw)<|(gV)<|(kS)<|gk
theorem agT (h1:cH a b c=some o1) (h2:cH a b d=some o2) (h3:cH c d a=some o3) (h4:cH c d b=some o4) (h5:o1=o2) (ho1:¬o1=2):ai prog 288 [dM a b,dM c d].toArray [] [] (Is (qg none)):=by
 refine am func288 λ_=>(au) ?_;intro _;refine(cg) ?_;intro _;refine(aq) ?_;intro _;refine(uc) ?_;intro _;refine(lM) ?_;intro _;refine(lM) ?_;intro _;refine(lM) ?_;intro _;refine(Jo)<|aj eA call347 (dk h1)<|(fq)<|aj eA call347 (dk h2)<|(fq)<|aj eA call347 (dk h3)<|(fq)<|aj eA call347 (dk h4)<|(jL) ?_;refine aL O O (by show some (decide (o1≠o2))=some false;simp[h5]) O<|(Fq) ?_;refine aL O O (by show some (decide (o1=2))=some false;simp[ho1]) O<|(aB)<|(wP)<|(wI)<|sM
theorem agS (h1:cH a b c=some o1) (h2:cH a b d=some o2) (h3:cH c d a=some o3) (h4:cH c d b=some o4) (h5:o1≠o2) (h6:o3=o4) (ho1:¬o1=2):ai prog 288 [dM a b,dM c d].toArray [] [] (Is (qg none)):=by
 refine am func288 λ_=>(au) ?_;intro _;refine(cg) ?_;intro _;refine(aq) ?_;intro _;refine(uc) ?_;intro _;refine(lM) ?_;intro _;refine(lM) ?_;intro _;refine(lM) ?_;intro _;refine(Jo)<|aj eA call347 (dk h1)<|(fq)<|aj eA call347 (dk h2)<|(fq)<|aj eA call347 (dk h3)<|(fq)<|aj eA call347 (dk h4)<|(jL) ?_;refine aL O O (by show some (decide (o1≠o2))=some true;simp[h5]) O<|(pI) ?_;refine ah O O (aL O O (by show some (decide (o3≠o4))=some false;simp[h6]) O<|(fD)<|(vp) ?_);refine aL O O (by show some (decide (o1=2))=some false;simp[ho1]) O<|(aB)<|(wP)<|(wI)<|sM
theorem agR (h1:cH a b c=some o1) (h2:cH a b d=some o2) (h3:cH c d a=some o3) (h4:cH c d b=some o4) (h5:o1≠o2) (h6:o3=o4) (ho1:o1=2):ai prog 288 [dM a b,dM c d].toArray [] [] (Is (qg none)):=by
 refine am func288 λ_=>(au) ?_;intro _;refine(cg) ?_;intro _;refine(aq) ?_;intro _;refine(uc) ?_;intro _;refine(lM) ?_;intro _;refine(lM) ?_;intro _;refine(lM) ?_;intro _;refine(Jo)<|aj eA call347 (dk h1)<|(fq)<|aj eA call347 (dk h2)<|(fq)<|aj eA call347 (dk h3)<|(fq)<|aj eA call347 (dk h4)<|(jL) ?_;refine aL O O (by show some (decide (o1≠o2))=some true;simp[h5]) O<|(pI) ?_;refine ah O O (aL O O (by show some (decide (o3≠o4))=some false;simp[h6]) O<|(fD)<|(vp) ?_);refine aL O O (by show some (decide (o1=2))=some true;simp[ho1]) O<|(ic) ?_;refine ah O O (aL O O (by show some (decide (o2=2))=some false;simp;omega) O<|(fD)<|(wI)<|sM)
theorem agU (h1:cH a b c=some o1) (h2:cH a b d=some o2) (h3:cH c d a=some o3) (h4:cH c d b=some o4) (h5:o1=o2) (ho1:o1=2) (g1:eu a b c=false) (g2:eu a b d=false) (g3:eu c d a=false) (g4:eu c d b=false):ai prog 288 [dM a b,dM c d].toArray [] [] (Is (qg none)):=by
 refine am func288 λ_=>(au) ?_;intro _;refine(cg) ?_;intro _;refine(aq) ?_;intro _;refine(uc) ?_;intro _;refine(lM) ?_;intro _;refine(lM) ?_;intro _;refine(lM) ?_;intro _;refine(Jo)<|aj eA call347 (dk h1)<|(fq)<|aj eA call347 (dk h2)<|(fq)<|aj eA call347 (dk h3)<|(fq)<|aj eA call347 (dk h4)<|(jL) ?_;refine aL O O (by show some (decide (o1≠o2))=some false;simp[h5]) O<|(Fq) ?_;refine aL O O (by show some (decide (o1=2))=some true;simp[ho1]) O<|(ic) ?_;refine ah O O (aL O O (by show some (decide (o2=2))=some true;simp[<-h5,ho1]) O<|(uh)<|aj eA call348 (qO (p:=a) (q:=b) (r:=c)) ?_);refine qY O (by show(!eu a b c)=true;rw[g1];rfl) O<|(AV) ?_;refine ah O O (aj eA call348 (qO (p:=a) (q:=b) (r:=d)) ?_);refine ah O O (qY O (by show(!eu a b d)=true;rw[g2];rfl) O<|(fD)<|(AV) ?_);refine ah O O (aj eA call348 (qO (p:=c) (q:=d) (r:=a)) ?_);refine ah O O (qY O (by show(!eu c d a)=true;rw[g3];rfl) O<|(fN)<|(Jm)<|(zw) ?_);refine ah O O (aj eA call348 (qO (p:=c) (q:=d) (r:=b)) ?_);refine ah O O (qY O (by show(!eu c d b)=true;rw[g4];rfl) O<|(C3)<|(pK)<|(ba)<|(iw)<|(nD)<|gk)
end Go.Proofs
namespace Go.V
section
variable {P:Program} {c:bC} {n:Nat} {ops:Array Oper} {Fs:List an} {L:List ae} {f:Fm} {Q:bG} {rest:List Oper}
variable {d:Nat} {ty:TypeId} {ps:String} {aft:Array Edge} {aC:Nat->Option TI} {x:Operand} {T:TypeId}
theorem xI (Tb:bZ P aC) {ti:TI} (ht:aC T=some ti) (hk:ti.kind=1) {size:Nat} (hs:ti.elS=size) {r o len cap l h:Nat} {lo hi:Option Operand} (hx:ap f x= .b (.slice (some ⟨r,o,none⟩) len cap))
  (h1:uB f 0 lo l) (h2:uB f len hi h) (hlh:l<=h) (hc:h<=cap) (hd:Nat.blt d n=true)
  (k:ak P c n ops Fs L (aT f d (.slice (some ⟨r,if cap=l then o else o+l*size,none⟩) (h-l) (cap-l))) rest Q):
  ak P c n ops Fs L f (⟨some d,.slice T x lo hi none,ty,ps,aft,none⟩::rest) Q:=
 ER Tb ht hk hs hx h1 h2 hlh hc hd (by
  by_cases hne:cap=l
  ·simp only[hne,if_true] at k ⊢;exact k
  ·simp only[hne,if_false,pX,nk] at k ⊢;exact k)
end
end Go.V
namespace Go.Proofs
open Tryz
open Go.V
variable {a b c d p q r:Pt} {x y z s:Nat} {l:List Pt} {o1 o2 o3 o4:Int}
theorem Ny (l m:List Pt):bl (l++m)=bl l++bl m:=by simp[bl]
theorem ai1 (l:List Pt) (i:Nat):bl (l.take i)++bl (l.drop (i+1))=bl (l.eraseIdx i):=by rw[<-Ny,List.eraseIdx_eq_take_drop_succ]
theorem Vg (l:List Pt) (i:Nat):(bl l).take (i*2)=bl (l.take i):=by
 induction l generalizing i with
 |nil=>simp[bl]
 |cons p l ih=>
  cases i with
  |zero=>simp[bl]
  |succ i=>have:=ih i;simp only[bl,dC,PA,lU] at this ⊢;simp[this]
theorem Vi (l:List Pt) (i:Nat):(bl l).drop (i*2)=bl (l.drop i):=by
 induction l generalizing i with
 |nil=>simp[bl]
 |cons p l ih=>
  cases i with
  |zero=>simp[bl]
  |succ i=>have:=ih i;simp only[bl,dC,FW,lU] at this ⊢;simp[this]
theorem HA {g n cap:Nat} {cur:Array Value} (hn:n=l.length) (h0:0<l.length) (hb:l.length<=1048576) (hc:cur.toList.take (l.length*2)=bl l):ai prog 350 [.slice (some ⟨g,0,none⟩) n cap].toArray [] [(g,.cells cur 79 (0,0))]
  (λv Fs' L'=>(v=iv (oc jc l)/\Fs'=[])/\L'=[(g,.cells cur 79 (0,0))]):=by subst hn;exact afQ h0 hb hc
theorem xl {g cap n k:Nat} {cur:Array Value} (h:aJ 79 2 (.slice (some ⟨g,0,none⟩) n cap) n (bl l) [(g,.cells cur 79 (0,0))]) (hl:l.length=n) (hk:k<=n):
  aJ 79 2 (.slice (some ⟨g,0,none⟩) k cap) k (bl (l.take k)) [(g,.cells cur 79 (0,0))]:=by
 obtain⟨h1,h2⟩:=h;rcases h2 with⟨h3,_⟩|⟨g',cap',cur',h3,h4,h5,h6,h7,h8⟩
 ·cases h3
 ·cases h3;simp only[Bm,yg,PR,and_true,true_and] at h4;subst h4;refine⟨by rw[mY,lV];omega,.inr ⟨g,cap,cur,O,O,aa,h6,h7,?_⟩⟩;rw[<-Vg,<-h8,Kl];congr 1;omega
theorem yo {Fs:List an} {L:List ae} {g n o i cap:Nat} {cur:Array Value} {T:TypeId} {fz:Nat×Nat} (hm:(g,Obj.cells cur T fz)∈L) (h:cur.toList.take (n*2)=bl l) (hl:l.length=n) (hi:i<n) (hc:n<=cap)
  (ho:o=if cap=i+1 then 0 else 0+(i+1)*2):fS Fs L g o (bl (l.drop (i+1))):=by
 by_cases h1:cap=i+1
 ·have:l.drop (i+1)=[]:=tn aa;rw[this];intro _ _ _ _ j v hv;cases hv
 ·rw[if_neg h1] at ho;subst ho;have h2:=jp (iI (Fs:=Fs) hm h) (k:=(i+1)*2) (m:=(bl l).length);rw[Vi,eQ (by rw[mY,mY,jx];omega)] at h2;exact h2
theorem yq {v:Value} {n i m:Nat} {B:List ae} (h:aJ 79 2 v (i+m) (bl (l.take i)++bl (l.drop (i+1))) B) (hl:l.length=n) (hi:i<n) (hm:i+m=n-1):aJ 79 2 v (n-1) (bl (l.eraseIdx i)) B:=by
 rw[ai1,hm] at h;exact h
theorem Gs {α:Type} {l:List α} (h:l.length=2):∃x y,l=[x,y]:=by
 match l,h with
 |[x,y],_=>exact⟨x,y,rfl⟩
theorem agY (h1:cH a b c=some o1) (h2:cH a b d=some o2) (h3:cH c d a=some o3) (h4:cH c d b=some o4) (h5:o1=o2) (ho1:o1=2) (g1:eu a b c=true):ai prog 288 [dM a b,dM c d].toArray [] [] (Is (qg (some (nU a b c d)))):=by
 refine am func288 λ_=>(au) ?_;intro _;refine(cg) ?_;intro _;refine(aq) ?_;intro _;refine(uc) ?_;intro _;refine(lM) ?_;intro _;refine(lM) ?_;intro _;refine(lM) ?_;intro _;refine(Jo)<|aj eA call347 (dk h1)<|(fq)<|aj eA call347 (dk h2)<|(fq)<|aj eA call347 (dk h3)<|(fq)<|aj eA call347 (dk h4)<|(jL) ?_;refine aL O O (by show some (decide (o1≠o2))=some false;simp[h5]) O<|(Fq) ?_;refine aL O O (by show some (decide (o1=2))=some true;simp[ho1]) O<|(ic) ?_;refine ah O O (aL O O (by show some (decide (o2=2))=some true;simp[<-h5,ho1]) O<|(uh)<|aj eA call348 (qO (p:=a) (q:=b) (r:=c)) ?_);refine qY O (by show(!eu a b c)=false;rw[g1];rfl) O<|(Jc)<|(Jh)<|(pJ)<|(ba)<|(JE) ?_;intro v164 B164 hs164;refine(ol) ?_;intro b170;refine di (e:=79) (size:=2) (xs:=jA [aw 0,aw 0] 2 0) ab O O O O O O O (B:=B164) tA hs164 O (bD mA) O O bz bz O λv171 B171 hs171=>?_
 replace hs171:aJ 79 2 v171 4 (bl [a,b,c,d]) B171:=hs171
 obtain⟨g,cap,cur,rfl,rfl,hq1,hq2,hq3,hq4⟩:=hs171.one bz;simp only[maxLen] at hq2;have h4l:[a,b,c,d].length=4:=rfl;obtain⟨i,hi⟩:∃i,i=oc me [a,b,c,d]:=⟨_,rfl⟩;have hi3:i<=3:=hi▸u7 me [a,b,c,d] 3;obtain⟨l2,hl2⟩:∃l2,l2=[a,b,c,d].eraseIdx i:=⟨_,rfl⟩;have hl2l:l2.length=3:=by rw[hl2,rV (by show i<4;omega)];rfl
 obtain⟨j,hj⟩:∃j,j=oc jc l2:=⟨_,rfl⟩;have hj2:j<=2:=by have:=u7 jc l2 (l2.length-1);rw[hj];unfold oc;omega
 obtain⟨l3,hl3⟩:∃l3,l3=l2.eraseIdx j:=⟨_,rfl⟩;have hl3l:l3.length=2:=by rw[hl3,rV aa];omega
 obtain⟨p0,p1,hp⟩:∃p0 p1,l3=[p0,p1]:=Gs hl3l;have hmid:nU a b c d=(p0,p1):=by simp only[nU,<-hi,<-hl2,<-hj,<-hl3,hp];rfl
 refine(cF)<|aS eA call349 (G1 (g:=g) (cap:=cap) (cur:=cur) (l:=[a,b,c,d]) (lT O) (lT O) hq4) λv Fs' L' ⟨⟨e1,e2⟩,e3⟩=>?_;subst e1;subst e2;subst e3;rw[<-hi];refine(zh) ?_;refine cC O (qi (size:=2) ab O O O O .none (.some O (l:=i) O) aa aa aa O)<|(oO) ?_;refine cC O (xI (size:=2) ab O O O O (.some O (l:=i+1) aa) .none aa aa O)<|(dT) ?_;refine di (e:=79) (size:=2) (k:=i) (m:=4-(i+1)) (xs:=bl ([a,b,c,d].take i)) (news:=bl ([a,b,c,d].drop (i+1))) ab O O O O O O O (B:=[(g,.cells cur 79 (0,0))]) tA (xl (n:=4) (k:=i) hs171 h4l aa) O (yo (n:=4) (i:=i) (cap:=cap) mA hq4 h4l aa aa O) (by rw[mY,jx,h4l];omega) (xN _) dp (by show _*16<=_;omega) O λv181 B181 hs181=>?_;have hcut:=yq (n:=4) hs181 h4l aa aa;obtain⟨g2,cap2,cur2,rfl,rfl,hr1,hr2,hr3,hr4⟩:=hcut.one bz;simp only[maxLen] at hr2;rw[<-hl2] at hcut hr4;refine(rJ)<|(cF)<|aS eA call350 (HA (n:=4-1) (g:=g2) (cap:=cap2) (cur:=cur2) (l:=l2) aa aa aa (by rw[hl2l];exact hr4)) λv Fs' L' ⟨⟨e1,e2⟩,e3⟩=>?_;subst e1;subst e2;subst e3;rw[<-hj];refine(zh) ?_;refine cC O (qi (size:=2) ab O O O O .none (.some O (l:=j) O) aa aa aa O)<|(oO) ?_;refine cC O (xI (size:=2) ab O O O O (.some O (l:=j+1) aa) .none aa aa O)<|(dT) ?_;refine di (e:=79) (size:=2) (k:=j) (m:=3-(j+1)) (xs:=bl (l2.take j)) (news:=bl (l2.drop (j+1))) ab O O O O O O O (B:=[(g2,.cells cur2 79 (0,0))]) tA (xl (n:=3) (k:=j) hcut hl2l aa) O (yo (n:=3) (i:=j) (cap:=cap2) mA hr4 hl2l aa aa O) (by rw[mY,jx,hl2l];omega) (xN _) dp (by show _*16<=_;omega) O λv191 B191 hs191=>?_;have hcut:=yq (n:=3) hs191 hl2l aa aa;obtain⟨g3,cap3,cur3,rfl,rfl,ht1,ht2,ht3,ht4⟩:=hcut.one bz;rw[<-hl3,hp] at hcut ht4;refine(ui) ?_;refine ac O (aK ab O O O (fK (F:=λp:Pt=>[aw p.1,aw p.2]) (k:=2) (j:=0) (xs:=[p0,p1]) (iI mA ht4) (jG _) O aa) O O)<|(bh)<|(JD) ?_;refine ac O (aK ab O O O (fK (F:=λp:Pt=>[aw p.1,aw p.2]) (k:=2) (j:=1) (xs:=[p0,p1]) (iI mA ht4) (jG _) O aa) O O)<|(I8) ?_;exact⟨⟨by rw[hmid];rfl,O⟩,O⟩
theorem agX (h1:cH a b c=some o1) (h2:cH a b d=some o2) (h3:cH c d a=some o3) (h4:cH c d b=some o4) (h5:o1=o2) (ho1:o1=2) (g1:eu a b c=false) (g2:eu a b d=true):ai prog 288 [dM a b,dM c d].toArray [] [] (Is (qg (some (nU a b c d)))):=by
 refine am func288 λ_=>(au) ?_;intro _;refine(cg) ?_;intro _;refine(aq) ?_;intro _;refine(uc) ?_;intro _;refine(lM) ?_;intro _;refine(lM) ?_;intro _;refine(lM) ?_;intro _;refine(Jo)<|aj eA call347 (dk h1)<|(fq)<|aj eA call347 (dk h2)<|(fq)<|aj eA call347 (dk h3)<|(fq)<|aj eA call347 (dk h4)<|(jL) ?_;refine aL O O (by show some (decide (o1≠o2))=some false;simp[h5]) O<|(Fq) ?_;refine aL O O (by show some (decide (o1=2))=some true;simp[ho1]) O<|(ic) ?_;refine ah O O (aL O O (by show some (decide (o2=2))=some true;simp[<-h5,ho1]) O<|(uh)<|aj eA call348 (qO (p:=a) (q:=b) (r:=c)) ?_);refine qY O (by show(!eu a b c)=true;rw[g1];rfl) O<|(AV) ?_;refine ah O O (aj eA call348 (qO (p:=a) (q:=b) (r:=d)) ?_);refine ah O O (qY O (by show(!eu a b d)=false;rw[g2];rfl) O<|(fD)<|(Jh)<|(pJ)<|(ba)<|(JE) ?_);intro v164 B164 hs164;refine(ol) ?_;intro b170;refine di (e:=79) (size:=2) (xs:=jA [aw 0,aw 0] 2 0) ab O O O O O O O (B:=B164) tA hs164 O (bD mA) O O bz bz O λv171 B171 hs171=>?_
 replace hs171:aJ 79 2 v171 4 (bl [a,b,c,d]) B171:=hs171
 obtain⟨g,cap,cur,rfl,rfl,hq1,hq2,hq3,hq4⟩:=hs171.one bz;simp only[maxLen] at hq2;have h4l:[a,b,c,d].length=4:=rfl;obtain⟨i,hi⟩:∃i,i=oc me [a,b,c,d]:=⟨_,rfl⟩;have hi3:i<=3:=hi▸u7 me [a,b,c,d] 3;obtain⟨l2,hl2⟩:∃l2,l2=[a,b,c,d].eraseIdx i:=⟨_,rfl⟩;have hl2l:l2.length=3:=by rw[hl2,rV (by show i<4;omega)];rfl
 obtain⟨j,hj⟩:∃j,j=oc jc l2:=⟨_,rfl⟩;have hj2:j<=2:=by have:=u7 jc l2 (l2.length-1);rw[hj];unfold oc;omega
 obtain⟨l3,hl3⟩:∃l3,l3=l2.eraseIdx j:=⟨_,rfl⟩;have hl3l:l3.length=2:=by rw[hl3,rV aa];omega
 obtain⟨p0,p1,hp⟩:∃p0 p1,l3=[p0,p1]:=Gs hl3l;have hmid:nU a b c d=(p0,p1):=by simp only[nU,<-hi,<-hl2,<-hj,<-hl3,hp];rfl
 refine(cF)<|aS eA call349 (G1 (g:=g) (cap:=cap) (cur:=cur) (l:=[a,b,c,d]) (lT O) (lT O) hq4) λv Fs' L' ⟨⟨e1,e2⟩,e3⟩=>?_;subst e1;subst e2;subst e3;rw[<-hi];refine(zh) ?_;refine cC O (qi (size:=2) ab O O O O .none (.some O (l:=i) O) aa aa aa O)<|(oO) ?_;refine cC O (xI (size:=2) ab O O O O (.some O (l:=i+1) aa) .none aa aa O)<|(dT) ?_;refine di (e:=79) (size:=2) (k:=i) (m:=4-(i+1)) (xs:=bl ([a,b,c,d].take i)) (news:=bl ([a,b,c,d].drop (i+1))) ab O O O O O O O (B:=[(g,.cells cur 79 (0,0))]) tA (xl (n:=4) (k:=i) hs171 h4l aa) O (yo (n:=4) (i:=i) (cap:=cap) mA hq4 h4l aa aa O) (by rw[mY,jx,h4l];omega) (xN _) dp (by show _*16<=_;omega) O λv181 B181 hs181=>?_;have hcut:=yq (n:=4) hs181 h4l aa aa;obtain⟨g2,cap2,cur2,rfl,rfl,hr1,hr2,hr3,hr4⟩:=hcut.one bz;simp only[maxLen] at hr2;rw[<-hl2] at hcut hr4;refine(rJ)<|(cF)<|aS eA call350 (HA (n:=4-1) (g:=g2) (cap:=cap2) (cur:=cur2) (l:=l2) aa aa aa (by rw[hl2l];exact hr4)) λv Fs' L' ⟨⟨e1,e2⟩,e3⟩=>?_;subst e1;subst e2;subst e3;rw[<-hj];refine(zh) ?_;refine cC O (qi (size:=2) ab O O O O .none (.some O (l:=j) O) aa aa aa O)<|(oO) ?_;refine cC O (xI (size:=2) ab O O O O (.some O (l:=j+1) aa) .none aa aa O)<|(dT) ?_;refine di (e:=79) (size:=2) (k:=j) (m:=3-(j+1)) (xs:=bl (l2.take j)) (news:=bl (l2.drop (j+1))) ab O O O O O O O (B:=[(g2,.cells cur2 79 (0,0))]) tA (xl (n:=3) (k:=j) hcut hl2l aa) O (yo (n:=3) (i:=j) (cap:=cap2) mA hr4 hl2l aa aa O) (by rw[mY,jx,hl2l];omega) (xN _) dp (by show _*16<=_;omega) O λv191 B191 hs191=>?_;have hcut:=yq (n:=3) hs191 hl2l aa aa;obtain⟨g3,cap3,cur3,rfl,rfl,ht1,ht2,ht3,ht4⟩:=hcut.one bz;rw[<-hl3,hp] at hcut ht4;refine(ui) ?_;refine ac O (aK ab O O O (fK (F:=λp:Pt=>[aw p.1,aw p.2]) (k:=2) (j:=0) (xs:=[p0,p1]) (iI mA ht4) (jG _) O aa) O O)<|(bh)<|(JD) ?_;refine ac O (aK ab O O O (fK (F:=λp:Pt=>[aw p.1,aw p.2]) (k:=2) (j:=1) (xs:=[p0,p1]) (iI mA ht4) (jG _) O aa) O O)<|(I8) ?_;exact⟨⟨by rw[hmid];rfl,O⟩,O⟩
theorem agW (h1:cH a b c=some o1) (h2:cH a b d=some o2) (h3:cH c d a=some o3) (h4:cH c d b=some o4) (h5:o1=o2) (ho1:o1=2) (g1:eu a b c=false) (g2:eu a b d=false) (g3:eu c d a=true):ai prog 288 [dM a b,dM c d].toArray [] [] (Is (qg (some (nU a b c d)))):=by
 refine am func288 λ_=>(au) ?_;intro _;refine(cg) ?_;intro _;refine(aq) ?_;intro _;refine(uc) ?_;intro _;refine(lM) ?_;intro _;refine(lM) ?_;intro _;refine(lM) ?_;intro _;refine(Jo)<|aj eA call347 (dk h1)<|(fq)<|aj eA call347 (dk h2)<|(fq)<|aj eA call347 (dk h3)<|(fq)<|aj eA call347 (dk h4)<|(jL) ?_;refine aL O O (by show some (decide (o1≠o2))=some false;simp[h5]) O<|(Fq) ?_;refine aL O O (by show some (decide (o1=2))=some true;simp[ho1]) O<|(ic) ?_;refine ah O O (aL O O (by show some (decide (o2=2))=some true;simp[<-h5,ho1]) O<|(uh)<|aj eA call348 (qO (p:=a) (q:=b) (r:=c)) ?_);refine qY O (by show(!eu a b c)=true;rw[g1];rfl) O<|(AV) ?_;refine ah O O (aj eA call348 (qO (p:=a) (q:=b) (r:=d)) ?_);refine ah O O (qY O (by show(!eu a b d)=true;rw[g2];rfl) O<|(fD)<|(AV) ?_);refine ah O O (aj eA call348 (qO (p:=c) (q:=d) (r:=a)) ?_);refine ah O O (qY O (by show(!eu c d a)=false;rw[g3];rfl) O<|(fN)<|(zc)<|(jK)<|(OP)<|(fD)<|(wI)<|(JE) ?_);intro v164 B164 hs164;refine(ol) ?_;intro b170;refine di (e:=79) (size:=2) (xs:=jA [aw 0,aw 0] 2 0) ab O O O O O O O (B:=B164) tA hs164 O (bD mA) O O bz bz O λv171 B171 hs171=>?_
 replace hs171:aJ 79 2 v171 4 (bl [a,b,c,d]) B171:=hs171
 obtain⟨g,cap,cur,rfl,rfl,hq1,hq2,hq3,hq4⟩:=hs171.one bz;simp only[maxLen] at hq2;have h4l:[a,b,c,d].length=4:=rfl;obtain⟨i,hi⟩:∃i,i=oc me [a,b,c,d]:=⟨_,rfl⟩;have hi3:i<=3:=hi▸u7 me [a,b,c,d] 3;obtain⟨l2,hl2⟩:∃l2,l2=[a,b,c,d].eraseIdx i:=⟨_,rfl⟩;have hl2l:l2.length=3:=by rw[hl2,rV (by show i<4;omega)];rfl
 obtain⟨j,hj⟩:∃j,j=oc jc l2:=⟨_,rfl⟩;have hj2:j<=2:=by have:=u7 jc l2 (l2.length-1);rw[hj];unfold oc;omega
 obtain⟨l3,hl3⟩:∃l3,l3=l2.eraseIdx j:=⟨_,rfl⟩;have hl3l:l3.length=2:=by rw[hl3,rV aa];omega
 obtain⟨p0,p1,hp⟩:∃p0 p1,l3=[p0,p1]:=Gs hl3l;have hmid:nU a b c d=(p0,p1):=by simp only[nU,<-hi,<-hl2,<-hj,<-hl3,hp];rfl
 refine(cF)<|aS eA call349 (G1 (g:=g) (cap:=cap) (cur:=cur) (l:=[a,b,c,d]) (lT O) (lT O) hq4) λv Fs' L' ⟨⟨e1,e2⟩,e3⟩=>?_;subst e1;subst e2;subst e3;rw[<-hi];refine(zh) ?_;refine cC O (qi (size:=2) ab O O O O .none (.some O (l:=i) O) aa aa aa O)<|(oO) ?_;refine cC O (xI (size:=2) ab O O O O (.some O (l:=i+1) aa) .none aa aa O)<|(dT) ?_;refine di (e:=79) (size:=2) (k:=i) (m:=4-(i+1)) (xs:=bl ([a,b,c,d].take i)) (news:=bl ([a,b,c,d].drop (i+1))) ab O O O O O O O (B:=[(g,.cells cur 79 (0,0))]) tA (xl (n:=4) (k:=i) hs171 h4l aa) O (yo (n:=4) (i:=i) (cap:=cap) mA hq4 h4l aa aa O) (by rw[mY,jx,h4l];omega) (xN _) dp (by show _*16<=_;omega) O λv181 B181 hs181=>?_;have hcut:=yq (n:=4) hs181 h4l aa aa;obtain⟨g2,cap2,cur2,rfl,rfl,hr1,hr2,hr3,hr4⟩:=hcut.one bz;simp only[maxLen] at hr2;rw[<-hl2] at hcut hr4;refine(rJ)<|(cF)<|aS eA call350 (HA (n:=4-1) (g:=g2) (cap:=cap2) (cur:=cur2) (l:=l2) aa aa aa (by rw[hl2l];exact hr4)) λv Fs' L' ⟨⟨e1,e2⟩,e3⟩=>?_;subst e1;subst e2;subst e3;rw[<-hj];refine(zh) ?_;refine cC O (qi (size:=2) ab O O O O .none (.some O (l:=j) O) aa aa aa O)<|(oO) ?_;refine cC O (xI (size:=2) ab O O O O (.some O (l:=j+1) aa) .none aa aa O)<|(dT) ?_;refine di (e:=79) (size:=2) (k:=j) (m:=3-(j+1)) (xs:=bl (l2.take j)) (news:=bl (l2.drop (j+1))) ab O O O O O O O (B:=[(g2,.cells cur2 79 (0,0))]) tA (xl (n:=3) (k:=j) hcut hl2l aa) O (yo (n:=3) (i:=j) (cap:=cap2) mA hr4 hl2l aa aa O) (by rw[mY,jx,hl2l];omega) (xN _) dp (by show _*16<=_;omega) O λv191 B191 hs191=>?_;have hcut:=yq (n:=3) hs191 hl2l aa aa;obtain⟨g3,cap3,cur3,rfl,rfl,ht1,ht2,ht3,ht4⟩:=hcut.one bz;rw[<-hl3,hp] at hcut ht4;refine(ui) ?_;refine ac O (aK ab O O O (fK (F:=λp:Pt=>[aw p.1,aw p.2]) (k:=2) (j:=0) (xs:=[p0,p1]) (iI mA ht4) (jG _) O aa) O O)<|(bh)<|(JD) ?_;refine ac O (aK ab O O O (fK (F:=λp:Pt=>[aw p.1,aw p.2]) (k:=2) (j:=1) (xs:=[p0,p1]) (iI mA ht4) (jG _) O aa) O O)<|(I8) ?_;exact⟨⟨by rw[hmid];rfl,O⟩,O⟩
theorem agV (h1:cH a b c=some o1) (h2:cH a b d=some o2) (h3:cH c d a=some o3) (h4:cH c d b=some o4) (h5:o1=o2) (ho1:o1=2) (g1:eu a b c=false) (g2:eu a b d=false) (g3:eu c d a=false) (g4:eu c d b=true):ai prog 288 [dM a b,dM c d].toArray [] [] (Is (qg (some (nU a b c d)))):=by
 refine am func288 λ_=>(au) ?_;intro _;refine(cg) ?_;intro _;refine(aq) ?_;intro _;refine(uc) ?_;intro _;refine(lM) ?_;intro _;refine(lM) ?_;intro _;refine(lM) ?_;intro _;refine(Jo)<|aj eA call347 (dk h1)<|(fq)<|aj eA call347 (dk h2)<|(fq)<|aj eA call347 (dk h3)<|(fq)<|aj eA call347 (dk h4)<|(jL) ?_;refine aL O O (by show some (decide (o1≠o2))=some false;simp[h5]) O<|(Fq) ?_;refine aL O O (by show some (decide (o1=2))=some true;simp[ho1]) O<|(ic) ?_;refine ah O O (aL O O (by show some (decide (o2=2))=some true;simp[<-h5,ho1]) O<|(uh)<|aj eA call348 (qO (p:=a) (q:=b) (r:=c)) ?_);refine qY O (by show(!eu a b c)=true;rw[g1];rfl) O<|(AV) ?_;refine ah O O (aj eA call348 (qO (p:=a) (q:=b) (r:=d)) ?_);refine ah O O (qY O (by show(!eu a b d)=true;rw[g2];rfl) O<|(fD)<|(AV) ?_);refine ah O O (aj eA call348 (qO (p:=c) (q:=d) (r:=a)) ?_);refine ah O O (qY O (by show(!eu c d a)=true;rw[g3];rfl) O<|(fN)<|(Jm)<|(zw) ?_);refine ah O O (aj eA call348 (qO (p:=c) (q:=d) (r:=b)) ?_);refine ah O O (qY O (by show(!eu c d b)=false;rw[g4];rfl) O<|(C3)<|(fD)<|(wI)<|(JE) ?_);intro v164 B164 hs164;refine(ol) ?_;intro b170;refine di (e:=79) (size:=2) (xs:=jA [aw 0,aw 0] 2 0) ab O O O O O O O (B:=B164) tA hs164 O (bD mA) O O bz bz O λv171 B171 hs171=>?_
 replace hs171:aJ 79 2 v171 4 (bl [a,b,c,d]) B171:=hs171
 obtain⟨g,cap,cur,rfl,rfl,hq1,hq2,hq3,hq4⟩:=hs171.one bz;simp only[maxLen] at hq2;have h4l:[a,b,c,d].length=4:=rfl;obtain⟨i,hi⟩:∃i,i=oc me [a,b,c,d]:=⟨_,rfl⟩;have hi3:i<=3:=hi▸u7 me [a,b,c,d] 3;obtain⟨l2,hl2⟩:∃l2,l2=[a,b,c,d].eraseIdx i:=⟨_,rfl⟩;have hl2l:l2.length=3:=by rw[hl2,rV (by show i<4;omega)];rfl
 obtain⟨j,hj⟩:∃j,j=oc jc l2:=⟨_,rfl⟩;have hj2:j<=2:=by have:=u7 jc l2 (l2.length-1);rw[hj];unfold oc;omega
 obtain⟨l3,hl3⟩:∃l3,l3=l2.eraseIdx j:=⟨_,rfl⟩;have hl3l:l3.length=2:=by rw[hl3,rV aa];omega
 obtain⟨p0,p1,hp⟩:∃p0 p1,l3=[p0,p1]:=Gs hl3l;have hmid:nU a b c d=(p0,p1):=by simp only[nU,<-hi,<-hl2,<-hj,<-hl3,hp];rfl
 refine(cF)<|aS eA call349 (G1 (g:=g) (cap:=cap) (cur:=cur) (l:=[a,b,c,d]) (lT O) (lT O) hq4) λv Fs' L' ⟨⟨e1,e2⟩,e3⟩=>?_;subst e1;subst e2;subst e3;rw[<-hi];refine(zh) ?_;refine cC O (qi (size:=2) ab O O O O .none (.some O (l:=i) O) aa aa aa O)<|(oO) ?_;refine cC O (xI (size:=2) ab O O O O (.some O (l:=i+1) aa) .none aa aa O)<|(dT) ?_;refine di (e:=79) (size:=2) (k:=i) (m:=4-(i+1)) (xs:=bl ([a,b,c,d].take i)) (news:=bl ([a,b,c,d].drop (i+1))) ab O O O O O O O (B:=[(g,.cells cur 79 (0,0))]) tA (xl (n:=4) (k:=i) hs171 h4l aa) O (yo (n:=4) (i:=i) (cap:=cap) mA hq4 h4l aa aa O) (by rw[mY,jx,h4l];omega) (xN _) dp (by show _*16<=_;omega) O λv181 B181 hs181=>?_;have hcut:=yq (n:=4) hs181 h4l aa aa;obtain⟨g2,cap2,cur2,rfl,rfl,hr1,hr2,hr3,hr4⟩:=hcut.one bz;simp only[maxLen] at hr2;rw[<-hl2] at hcut hr4;refine(rJ)<|(cF)<|aS eA call350 (HA (n:=4-1) (g:=g2) (cap:=cap2) (cur:=cur2) (l:=l2) aa aa aa (by rw[hl2l];exact hr4)) λv Fs' L' ⟨⟨e1,e2⟩,e3⟩=>?_;subst e1;subst e2;subst e3;rw[<-hj];refine(zh) ?_;refine cC O (qi (size:=2) ab O O O O .none (.some O (l:=j) O) aa aa aa O)<|(oO) ?_;refine cC O (xI (size:=2) ab O O O O (.some O (l:=j+1) aa) .none aa aa O)<|(dT) ?_;refine di (e:=79) (size:=2) (k:=j) (m:=3-(j+1)) (xs:=bl (l2.take j)) (news:=bl (l2.drop (j+1))) ab O O O O O O O (B:=[(g2,.cells cur2 79 (0,0))]) tA (xl (n:=3) (k:=j) hcut hl2l aa) O (yo (n:=3) (i:=j) (cap:=cap2) mA hr4 hl2l aa aa O) (by rw[mY,jx,hl2l];omega) (xN _) dp (by show _*16<=_;omega) O λv191 B191 hs191=>?_;have hcut:=yq (n:=3) hs191 hl2l aa aa;obtain⟨g3,cap3,cur3,rfl,rfl,ht1,ht2,ht3,ht4⟩:=hcut.one bz;rw[<-hl3,hp] at hcut ht4;refine(ui) ?_;refine ac O (aK ab O O O (fK (F:=λp:Pt=>[aw p.1,aw p.2]) (k:=2) (j:=0) (xs:=[p0,p1]) (iI mA ht4) (jG _) O aa) O O)<|(bh)<|(JD) ?_;refine ac O (aK ab O O O (fK (F:=λp:Pt=>[aw p.1,aw p.2]) (k:=2) (j:=1) (xs:=[p0,p1]) (iI mA ht4) (jG _) O aa) O O)<|(I8) ?_;exact⟨⟨by rw[hmid];rfl,O⟩,O⟩
end Go.Proofs
namespace Go.Proofs
open Tryz
open Go.V
variable {a b c d p q:Pt} {r:Option (Pt×Pt)} {l:List Pt}
theorem TR (h:EJ a b c d=some r):ai prog 288 [dM a b,dM c d].toArray [] [] (Is (qg r)):=by
 simp only[EJ,jO] at h;obtain⟨o1,h1,o2,h2,o3,h3,o4,h4,h⟩:=h;by_cases h5:o1=o2
 ·rw[if_neg (λx=>x.1 h5)] at h;by_cases ho1:o1=2
  ·rw[if_pos ⟨ho1,h5▸ho1⟩] at h;cases g1:eu a b c with
   |true=>simp[yV,g1] at h;subst h;exact agY h1 h2 h3 h4 h5 ho1 g1
   |false=>
   cases g2:eu a b d with
   |true=>simp[yV,g1,g2] at h;subst h;exact agX h1 h2 h3 h4 h5 ho1 g1 g2
   |false=>
   cases g3:eu c d a with
   |true=>simp[yV,g1,g2,g3] at h;subst h;exact agW h1 h2 h3 h4 h5 ho1 g1 g2 g3
   |false=>
   cases g4:eu c d b with
   |true=>simp[yV,g1,g2,g3,g4] at h;subst h;exact agV h1 h2 h3 h4 h5 ho1 g1 g2 g3 g4
   |false=>simp[yV,g1,g2,g3,g4] at h;subst h;exact agU h1 h2 h3 h4 h5 ho1 g1 g2 g3 g4
  ·rw[if_neg (λx=>ho1 x.1)] at h;cases h;exact agT h1 h2 h3 h4 h5 ho1
 ·by_cases h6:o3=o4
  ·rw[if_neg (λx=>x.2 h6),if_neg (λx=>h5 (x.1.trans x.2.symm))] at h;cases h;by_cases ho1:o1=2
   ·exact agR h1 h2 h3 h4 h5 h6 ho1
   ·exact agS h1 h2 h3 h4 h5 h6 ho1
  ·rw[if_pos ⟨h5,h6⟩] at h;by_cases ho1:o1=2
   ·rw[if_pos ho1] at h;cases h;exact ag4 h1 h2 h3 h4 h5 h6 ho1
   rw[if_neg ho1] at h;by_cases ho2:o2=2
   ·rw[if_pos ho2] at h;cases h;exact ag3 h1 h2 h3 h4 h5 h6 ho1 ho2
   rw[if_neg ho2] at h;by_cases ho3:o3=2
   ·rw[if_pos ho3] at h;cases h;exact ag2 h1 h2 h3 h4 h5 h6 ho1 ho2 ho3
   rw[if_neg ho3] at h;by_cases ho4:o4=2
   ·rw[if_pos ho4] at h;cases h;exact ag0 h1 h2 h3 h4 h5 h6 ho1 ho2 ho3 ho4
   rw[if_neg ho4] at h;simp only[iE] at h;obtain⟨p,hp,rfl⟩:=h;exact agZ h1 h2 h3 h4 h5 h6 ho1 ho2 ho3 ho4 hp
def nR (l m:Pt×Pt):Option (Option (Pt×Pt)):=EJ (xT l m).1.1 (xT l m).1.2 (xT l m).2.1 (xT l m).2.2
theorem QC (h:nR (a,b) (c,d)=some r):ai prog 198 [dM a b,dM c d].toArray [] [] (Is (qg r)):=by
 rcases r with _|⟨p,q⟩
 ·refine am func198 λ_=>(au) ?_;intro _;refine(cg) ?_;intro _;refine(aq) ?_;intro _;exact(eZ)<|(gq)<|(gq)<|aj eA call287 (Ws (a:=a) (b:=b) (c:=c) (d:=d))<|(CW)<|(de)<|(ug)<|(gq)<|(gq)<|aj eA call288 (TR h)<|rN
 ·refine am func198 λ_=>(au) ?_;intro _;refine(cg) ?_;intro _;refine(aq) ?_;intro _;exact(eZ)<|(gq)<|(gq)<|aj eA call287 (Ws (a:=a) (b:=b) (c:=c) (d:=d))<|(CW)<|(de)<|(ug)<|(gq)<|(gq)<|aj eA call288 (TR h)<|rN
end Go.Proofs
namespace Go.V
section
variable {P:Program} {c:bC} {n:Nat} {ops:Array Oper} {Fs:List an} {L:List ae} {f:Fm} {Q:bG} {rest:List Oper}
variable {d:Nat} {ty:TypeId} {ps:String} {aft:Array Edge} {aC:Nat->Option TI} {x y z:Operand} {T T':TypeId} {KT ET:TypeId} {S:World->Value->Prop}
variable {kvs kvs':List (Value×Value)} {r:Nat} {u v:Value}
theorem yK (Tb:bZ P aC) {ti te:TI} (ht:aC T=some ti) (hm:ti.desc= .map KT ET) (hte:aC ET=some te) {zv:Value} (hz:te.zero= .b zv) (K:qH P KT S) (hx:ap f x= .b (.map (some r))) (hy:ap f y= .b u)
  (hmap:vh Fs L r kvs) (hS:sZ S Fs L (u::kvs.map (·.1))) {o:Option Value} (hg:fe kvs u=o) (hd:Nat.blt d n=true)
  (k:ak P c n ops Fs L (aT f d (.tuple #[o.getD zv,.bool o.isSome])) rest Q):
  ak P c n ops Fs L f (⟨some d,.lookup T x y true,ty,ps,aft,none⟩::rest) Q:=by
 subst hg;exact ahP Tb ht hm hte hz K hx hy hmap hS hd k
theorem HR (Tb:bZ P aC) {ti te:TI} (ht:aC T=some ti) (hm:ti.desc= .map KT ET) (hte:aC ET=some te) {zv:Value} (hz:te.zero= .b zv) (K:qH P KT S) (hx:ap f x= .b (.map (some r))) (hy:ap f y= .b u)
  (hmap:vh Fs L r kvs) (hS:sZ S Fs L (u::kvs.map (·.1))) {o:Option Value} (hg:fe kvs u=o) (hd:Nat.blt d n=true)
  (k:ak P c n ops Fs L (aT f d (o.getD zv)) rest Q):
  ak P c n ops Fs L f (⟨some d,.lookup T x y false,ty,ps,aft,none⟩::rest) Q:=by
 subst hg;exact ahQ Tb ht hm hte hz K hx hy hmap hS hd k
theorem qZ (Tb:bZ P aC) {ti:TI} (ht:aC T=some ti) (hm:ti.desc= .map KT ET) (K:qH P KT S) (hx:ap f x= .b (.map (some r))) (hy:ap f y= .b u) (hv:ap f z= .b v)
  {L':List ae} (hp:jS kvs u v=kvs') (hU:cf L r (bW kvs) (bW kvs') L') (hS:sZ S Fs L (u::kvs.map (·.1)))
  (k:ak P c n ops Fs L' f rest Q):
  ak P c n ops Fs L f (⟨none,.mapUpdate T x y z,ty,ps,aft,none⟩::rest) Q:=by
 subst hp;exact ahL Tb ht hm K hx hy hv hU hS k
end
theorem Ap {κ β:Type} [DecidableEq κ] {K:κ->Value} {V:β->Value} (hK:∀a b,K a=K b->a=b):∀(m:List (κ×β)) (k:κ),fe (m.map λe=>(K e.1,V e.2)) (K k)=((m.find? λe=>decide (e.1=k)).map λe=>V e.2)
 |[],k=>rfl
 |e::m,k=>by
  by_cases h:e.1=k
  ·subst h;simp[fe]
  ·have h':¬K k=K e.1:=λx=>h (hK _ _ x).symm;simp[fe,h,h',Ap hK m k]
theorem NF.of_eq {α:Type} {l m:List α} (h:l=m):NF l m:=h▸NF.refl l
theorem MB {kvs:List (Value×Value)} {u:Value} (h:fe kvs u=none):iK kvs u=none:=by
 have:=MC kvs u;rw[h] at this;cases hk:iK kvs u with
 |none=>rfl
 |some k=>rw[hk] at this;cases this
theorem HC {κ β:Type} {K:κ->Value} {V:β->Value} {m:List (κ×β)} {k:κ} {v:β} (h:fe (m.map λe=>(K e.1,V e.2)) (K k)=none):jS (m.map λe=>(K e.1,V e.2)) (K k) (V v)=(m++[(k,v)]).map λe=>(K e.1,V e.2):=by
 rw[EE _ _ _ (MB h)];simp
end Go.V
namespace Go.Proofs
open Tryz
open Go.V
abbrev Bk:=Int×Int
abbrev NM:=List (Bk×Pt)
abbrev wm (b:Bk):Value:=lu b.1 b.2
abbrev oE (m:NM):List (Value×Value):=m.map λe=>(wm e.1,pv e.2)
theorem ak0 (a b:Bk) (h:wm a=wm b):a=b:=by
 simp only[wm,lu,F6] at h;have h1:a.1=b.1/\a.2=b.2:=by simpa using h
 exact mN h1.1 h1.2
theorem MG {Fs:List an} {L:List ae} (b:Bk) (m:NM):sZ TB Fs L (wm b::(oE m).map (·.1)):=λ_ _ _ _ u hu=>by
 rcases bm.1 hu with rfl|h
 ·exact⟨_,_,O⟩
 ·rw[w8] at h;obtain⟨e,he,rfl⟩:=aM.1 h;exact⟨_,_,O⟩
def offs (b:Bk):List Bk:=[b,(b.1-1,b.2-1),(b.1-1,b.2),(b.1-1,b.2+1),(b.1,b.2-1),(b.1,b.2+1),(b.1+1,b.2-1),(b.1+1,b.2),(b.1+1,b.2+1)]
def qc (m:NM) (k:Bk):Option Pt:=(m.find? λe=>decide (e.1=k)).map (·.2)
def eM (m:NM) (b:Bk) (p:Pt):Pt×NM:=match (offs b).findSome? (qc m) with
 |some q=>(q,m)
 |none=>(p,m++[(b,p)])
theorem LU (m:NM) (b:Bk):fe (oE m) (wm b)=(qc m b).map pv:=by
 rw[Ap ak0];simp only[qc,Py,uG]
def xU (w x:Nat):Option Int:=(fdiv x w).bind λq=>if Ieee.Datum.isNaN (FloatKind.f64.decode q) then none else(Ieee.double.read (Cj q)).toInt .zero
def kN (w:Nat) (p:Pt):Option Bk:=(xU w p.1).bind λa=>(xU w p.2).bind λb=>some (a,b)
theorem Sp {q:Nat} (h:¬Ieee.Datum.isNaN (FloatKind.f64.decode q)=true):notNaN q:=λs t e=>by
 rw[e] at h;exact h rfl
abbrev xu (w rm:Nat):Value:= .agg #[aw w,.map (some rm)]
abbrev hG (rm:Nat) (m:NM):ae:=(rm,bW (oE m))
def xB (a:Int):Prop:= -4611686018427387904<=a/\a<=4611686018427387904
theorem aev {b b':Bk} {i:Nat} (h:(offs b)[i]? =some b'):((((offs b).flatMap λb=>[iv b.1,iv b.2]).toArray).extract (i*2) (i*2+2))= #[iv b'.1,iv b'.2]:=by
 have h1:=Ck (F:=λb:Bk=>[iv b.1,iv b.2]) (k:=2) (λ_ _=>rfl) h;apply xc;simp only[Array.toList_extract,List.extract_eq_take_drop,Nat.add_sub_cancel_left];simpa using h1
theorem aja {α β:Type} {g:α->Option β} {l:List α} {i:Nat} {x:α} (h:(l.take i).findSome? g=none) (hx:l[i]? =some x) (hg:g x=none):(l.take (i+1)).findSome? g=none:=by
 rw[Gf,hx,List.findSome?_append,h];simp[hg]
theorem ajc {α β:Type} {g:α->Option β} {l:List α} {i:Nat} {x:α} {y:β} (h:(l.take i).findSome? g=none) (hx:l[i]? =some x) (hg:g x=some y):l.findSome? g=some y:=by
 rw[<-gf i l,List.findSome?_append,h];have:l.drop i=x::l.drop (i+1):=by
  have hl:=da hx;rw[Bq hl];congr 1;rw[aG hl] at hx;exact iD hx
 rw[this];simp[hg]
variable {w rm:Nat} {m:NM} {p:Pt} {b:Bk}
theorem T4 (h:kN w p=some b) (hb:xB b.1/\xB b.2):ai prog 182 [xu w rm,pv p].toArray [] [hG rm m]
  (λv Fs' L'=>(v=pv (eM m b p).1/\Fs'=[])/\L'=[hG rm (eM m b p).2]):=by
 unfold xB at hb;simp only[kN,xU,jO,xd] at h;obtain⟨b1,⟨q1,h1,h2⟩,b2,⟨q2,h3,h4⟩,rfl⟩:=h;by_cases hn1:Ieee.Datum.isNaN (FloatKind.f64.decode q1)=true
 ·rw[if_pos hn1] at h2;cases h2
 by_cases hn2:Ieee.Datum.isNaN (FloatKind.f64.decode q2)=true
 ·rw[if_pos hn2] at h4;cases h4
 rw[if_neg hn1] at h2;rw[if_neg hn2] at h4;dsimp only at hb;refine am func182 λ_=>(au) ?_;intro _;refine(cg) ?_;intro _;refine(aq) ?_;intro r4;refine(cn) ?_;refine cz cw 16 [15] []<|(oo) ?_;refine ac O (fh O O (h1) O) ?_;refine ac O (λkX=>aj eA call273 (Va (Sp hn1)) kX) ?_;refine ac O (Uu ab O O O O h2 iA O)<|(oo) ?_;refine ac O (fh O O (h3) O) ?_;refine ac O (λkX=>aj eA call273 (Va (Sp hn2)) kX) ?_;refine ac O (Uu ab O O O O h4 iA O)<|(ny)<|(dT)<|(aq) ?_;intro r5;refine(iy)<|(dS)<|(cR)<|(dW)<|(jg)<|(dW)<|(jg)<|(cN)<|(dW)<|(jg)<|(dW)<|(cN)<|(dW)<|(jg)<|(dW)<|(dm)<|(cN)<|(zk)<|(jg)<|(cN)<|(zk)<|(dm)<|(cN)<|(dW)<|(dm)<|(dW)<|(jg)<|(cN)<|(dW)<|(dm)<|(dW)<|(cN)<|(dW)<|(dm)<|(dW)<|(dm)<|(cN) ?_;refine HX ab O O O pA br (cs:=(offs (b1,b2)).flatMap λb=>[iv b.1,iv b.2]) (NF.of_eq br) br O<|(aB)<|(dF)<|aU [(7,9),(79,91)] (λ(i:Nat)=>i<=9/\((offs (b1,b2)).take i).findSome? (qc m)=none) (λi=>[(79,iv i)]) (λ_=>[]) (λ_=>[]) (λi=>9-i) (0) (⟨bf _,O⟩) λi fr ⟨h5,h6⟩=>?_;refine(cM)<|ao ?_ ?_
 ·intro hc80;have hlt:i<9:=by have:=of_decide_eq_true hc80;omega
  obtain⟨b',hb'⟩:∃b',(offs (b1,b2))[i]? =some b':=⟨_,aG (by show i<9;exact hlt)⟩;refine(ix) ?_;refine HU ab O O O O O O (i:=i) O (by show i<9;exact hlt) O O (aev hb') O<|(aq) ?_;intro _;refine(dS) ?_;rcases hg:qc m b' with _|q
  ·refine(qB)<|(eH) ?_;refine yK ab O O O O MO O (u:=wm b') O (eo (kvs:=oE m) mA) (MG b' m) (o:=none) (by rw[LU,hg];rfl) O<|(x5) ?_;intro _;refine(de)<|(cF)<|(gH)<|(lO) ?_;exact⟨i+1,oA,⟨oA,aja h6 hb' hg⟩,lA,kA,fA,hA⟩
  ·refine(qB)<|(eH) ?_;refine yK ab O O O O MO O (u:=wm b') O (eo (kvs:=oE m) mA) (MG b' m) (o:=some (pv q)) (by rw[LU,hg];rfl) O<|(x5) ?_;intro _;refine(de)<|(cF)<|(vE)<|(cR)<|(eF)<|(ul)<|(vv)<|aH [] [hG rm m] ?_;exact(by have e:eM m (b1,b2) p=(q,m):=by{unfold eM;rw[ajc h6 hb' hg]};rw[e];exact⟨⟨O,O⟩,O⟩)
 ·intro hc80;have hge:i=9:=by have:=of_decide_eq_false hc80;omega
  subst hge;have h6':(offs (b1,b2)).findSome? (qc m)=none:=h6;have hno:qc m (b1,b2)=none:=F7.1 h6' _ (.head _);refine(eG)<|(fR)<|(eH)<|(eH) ?_;refine qZ ab O O MO O (u:=wm (b1,b2)) (v:=pv p) O O (kvs:=oE m) (kvs':=oE (m++[((b1,b2),p)])) (HC (by rw[LU,hno];rfl)) uA (MG _ m)<|(gu)<|(eF)<|aH [] [hG rm (m++[((b1,b2),p)])] ?_;exact(by have e:eM m (b1,b2) p=(p,m++[((b1,b2),p)]):=by{unfold eM;rw[h6']};rw[e];exact⟨⟨O,O⟩,O⟩)
end Go.Proofs
namespace Go.Proofs
open Tryz
open Go.V
inductive jT {α:Type} (R:α->Pt->α->Prop):α->List Pt->α->Prop where
 |nil {s}:jT R s [] s
 |cons {s m s' p l}:R s p m->jT R m l s'->jT R s (p::l) s'
theorem jT.app {α:Type} {R:α->Pt->α->Prop} {s m s':α} {l l':List Pt} (h:jT R s l m) (k:jT R m l' s'):jT R s (l++l') s':=by
 induction h with
 |nil=>exact k
 |cons a _ ih=>exact .cons a (ih k)
theorem jT.one {α:Type} {R:α->Pt->α->Prop} {s s':α} {p:Pt} (h:R s p s'):jT R s [p] s':= .cons h .nil
theorem dO {α:Type} {l:List α} {i:Nat} {x:α} (h:l[i]? =some x):l.take (i+1)=l.take i++[x]:=by
 rw[Gf,h];rfl
def yW {α:Type} (LL:α->List ae) (R:α->Pt->α->Prop) (G:List an) (fn:Nat) (fv cv:List Value) (ok:Pt->Prop) (res:Pt->Value):Prop:=
 ∀(s:α) (p:Pt),ok p->ai prog fn (fv++([pv p]++cv)).toArray G (LL s) (λv Fs' L'=>∃s',R s p s'/\v=res p/\Fs'=[]/\L'=LL s')
variable {α:Type} {LL:α->List ae} {R:α->Pt->α->Prop} {G:List an} {fn:Nat} {fv cv:List Value} {ok:Pt->Prop} {s:α}
variable {p:Option Addr} {cp:Nat} {l:List Pt}
abbrev gE (fn:Nat) (fv cv:List Value):Value:= .func (.func fn) fv.toArray cv.toArray
theorem Qv (hc:∀(args:Array Value) (w:World),(callFunc fn args).run prog w= .ok (.enter fn args) w) (hcb:yW LL R G fn fv cv ok pv) (hok:∀x∈l,ok x) (hb:l.length<=1048576):
  ai prog 274 [jF p l cp,gE fn fv cv].toArray (gF p l cp::G) (LL s) (λv Fs' L'=>∃(s':α) (q:Sq),jT R s l s'/\q.l=l/\v=q.v/\Fs'=[q.fact]/\L'=LL s'):=by
 refine am func274 λ_=>(au) ?_;intro _;refine(aq) ?_;intro r4;refine(cn) ?_;refine cz cw 7 [6] []<|(jf) ?_;refine ac O (λkX=>aj eA call135 (Rm) kX) ?_;refine ac O (λkX=>aj eA call136 (NN) kX)<|(jf) ?_;refine ac O (λkX=>aj eA call98 (jB (l:=l)) kX)<|(Fv)<|(dT) ?_;refine pk (e:=45) (size:=1) ab O O O O O O (zl:=[aw 0]) nA O (l:=0) (cp:=2*l.length) O (by rfl) (bf _) O (by show 2*l.length*8<=_;omega) O λv0 B0 hs0=>?_;obtain⟨p0,c0,rfl⟩:=hs0.shape;refine(iy)<|(rL)<|(Ji)<|(rL)<|(Oy)<|(oQ)<|aU [(5,5),(8,9),(21,88)] (λ(x:Nat×(Option Addr×Nat)×List ae×α)=>x.1<=l.length/\aJ 45 1 (.slice x.2.1.1 (2*x.1) x.2.1.2) (2*x.1) (bl (l.take x.1)) x.2.2.1/\jT R s (l.take x.1) x.2.2.2) (λx=>[(8,iv x.1),(5,.slice x.2.1.1 (2*x.1) x.2.1.2)]) (λ_=>[]) (λx=>x.2.2.1++LL x.2.2.2) (λx=>l.length-x.1) ((0,(p0,c0),B0,s)) (⟨bf _,hs0,.nil⟩) λ⟨i,⟨p1,c1⟩,B1,t⟩ fr ⟨h5,h6,h7⟩=>?_;dsimp only at h5 h6 h7;refine(lN)<|ao ?_ ?_
 ·intro hc23;have hlt:i<l.length:=by have:=of_decide_eq_true hc23;dsimp only at this;omega
  obtain⟨x,hx⟩:∃x,l[i]? =some x:=⟨_,aG hlt⟩;refine(mB)<|aj eA call102 (H0 hx)<|(aq) ?_;intro r9;refine(cu)<|(bJ)<|(eK) ?_;refine dj O eA hc (NF.refl _) (hcb t x (hok x (bn hx))) λv Fs' L' ⟨t',hR,e1,e2,e3⟩=>?_;subst e1;subst e2;subst e3;refine(cQ)<|(cu)<|(bJ)<|(dF)<|(dY)<|(pF)<|(aY)<|(pN)<|(eD) ?_;intro b46;refine di (e:=45) (size:=1) ab O O O O O O O (B:=B1) tA h6 O (bD mA) O O dp (by show(2*i+2)*8<=_;omega) O λv' B' hs'=>?_;have hs2:aJ 45 1 v' (2*(i+1)) (bl (l.take (i+1))) B':=by rw[<-Vh hx];exact hs'
  obtain⟨p2,c2,rfl⟩:=hs2.shape;refine(iR)<|(jM) ?_;exact⟨(i+1,(p2,c2),B',t'),oA,⟨oA,hs2,by dsimp only;rw[dO hx];exact h7.app (.one hR)⟩,lA,kA,fA,hA⟩
 ·intro hc23;have hge:i=l.length:=by have:=of_decide_eq_false hc23;dsimp only at this;omega
  subst hge;rw[dg] at h6 h7;refine(jh) ?_;refine eN h6 tA<|(cO)<|(OO)<|(eF)<|aH [gF p1 l c1] (LL t) ?_;exact⟨t,⟨p1,l,c1⟩,h7,O,O,O,O⟩
end Go.Proofs
namespace Go.Proofs
open Tryz
open Go.V
inductive kx {α:Type} (R:α->Pt->α->Prop):α->GM->α->Prop where
 |ls {s s' l}:jT R s l s'->kx R s (.ls l) s'
 |mls {s s' l}:jT R s l.flatten s'->kx R s (.mls l) s'
 |gc0 {s}:kx R s (.gc []) s
 |gcc {s m s' g gs}:kx R s g m->kx R m (.gc gs) s'->kx R s (.gc (g::gs)) s'
theorem kx.snoc {α:Type} {R:α->Pt->α->Prop} {gs:List GM} {g:GM}:∀{s m s':α},kx R s (.gc gs) m->kx R m g s'->kx R s (.gc (gs++[g])) s':=by
 induction gs with
 |nil=>
  intro s m s' h k;cases h with
  |gc0=>exact .gcc k .gc0
 |cons a gs ih=>
  intro s m s' h k;cases h with
  |gcc h1 h2=>exact .gcc h1 (ih h2 k)
inductive wV (ok:Pt->Prop):GM->Prop where
 |ls {l}:(∀x∈l,ok x)->l.length<=1048576->wV ok (.ls l)
 |mls {lss}:(∀l∈lss,(∀x∈l,ok x)/\l.length<=1048576)->wV ok (.mls lss)
 |gc {gs}:(∀g∈gs,wV ok g)->wV ok (.gc gs)
variable {α:Type} {LL:α->List ae} {R:α->Pt->α->Prop} {G:List an} {fn:Nat} {fv cv:List Value} {ok:Pt->Prop} {s:α}
variable {p:Option Addr} {cp:Nat} {l:List Pt} {q:Sq} {lss:List (List Pt)} {gs:List GM} {g:GM} {v:Value}
theorem afk (hc:∀(args:Array Value) (w:World),(callFunc fn args).run prog w= .ok (.enter fn args) w) (hcb:yW LL R G fn fv cv ok pv) (hok:∀x∈q.l,ok x) (hb:q.l.length<=1048576):
  ai prog 269 [q.v,gE fn fv cv].toArray (q.fact::G) (LL s) (λv Fs' L'=>∃(s':α) (q':Sq),jT R s q.l s'/\q'.l=q.l/\v=q'.v/\Fs'=[q'.fact]/\L'=LL s'):=by
 refine am func269 λ_=>(au) ?_;intro _;refine(aq) ?_;intro _;refine(eZ)<|(eK)<|(aB)<|aS eA call274 (Qv (p:=q.p) (l:=q.l) (cp:=q.cp) (s:=s) hc hcb hok hb) λv Fs' L' ⟨s',q',h1,h2,e1,e2,e3⟩=>?_;subst e1;subst e2;subst e3;refine(aq) ?_;intro _;refine(wO)<|(Fo)<|(eF)<|aH [q'.fact] (LL s') ?_;exact⟨s',q',h1,h2,O,O,O⟩
theorem SO (hc:∀(args:Array Value) (w:World),(callFunc fn args).run prog w= .ok (.enter fn args) w) (hcb:yW LL R G fn fv cv ok pv) (hok:∀l∈lss,(∀x∈l,ok x)/\l.length<=1048576):
  ai prog 183 [jb p lss cp,gE fn fv cv].toArray (bQ p lss cp::G) (LL s) (λv Fs' L'=>∃(s':α) (p':Option Addr) (cp':Nat),jT R s lss.flatten s'/\v=jb p' lss cp'/\Fs'=[bQ p' lss cp']/\L'=LL s'):=by
 rcases xe lss.length with h0|hpos
 ·have e:lss=[]:=ow h0;subst e;refine nT (bQ none [] 0) (λhp _=>⟨[],⟨O,bf _⟩,⟨O,.inl ⟨none,0,O,O⟩⟩,λ_ h=>nomatch h⟩) ?_;refine am func183 λ_=>(au) ?_;intro _;refine(aq) ?_;intro _;refine(gu)<|(IZ)<|(iC)<|(kT)<|(vq)<|(cN)<|(eH)<|(Ov)<|aI eA call108 (Md (p:=none) (lss:=[]) (cp:=0)) λv3 Fs3 ⟨p3,cp3,e6,e7⟩=>?_;subst e6;subst e7;refine(wM)<|aH [bQ p3 [] cp3] (LL s) ?_;exact⟨s,p3,cp3,.nil,O,O,O⟩
 ·refine(wK) ?_;intro qs hq hb;have hql:qs.length=lss.length:=by rw[<-hq];simp
  refine am func183 λ_=>(au) ?_;intro _;refine(aq) ?_;intro _;refine(gu)<|aj eA call58 (xr (lss:=lss))<|(iC)<|(kT)<|(aN) ?_;refine gz O (λhc12=>absurd hc12 (by have:=of_decide_eq_true hc12;omega)) (λhc12=>(Fu) ?_);refine pk (e:=90) (size:=2) ab O O O O O O nA O O O (bg _) O (by show lss.length*32<=_;omega) O λv0 B0 hs=>?_;rw[rX (F:=Sq.cells) (zl:=[.int .u8 0,.slice none 0 0]) (k:=2) (⟨none,[],0⟩:Sq) rfl rfl bz] at hs;obtain⟨p0,cap,e0⟩:=hs.shape;subst e0;refine(oQ)<|aU [(7,8),(19,34)] (λ(x:Nat×List ae×List Sq×α)=>x.1<=lss.length/\x.2.2.1.length=lss.length/\(∀j,j<x.1->(x.2.2.1[j]?).map (·.l)=lss[j]?)/\aJ 90 2 (.slice p0 lss.length cap) lss.length (x.2.2.1.flatMap Sq.cells) x.2.1/\jT R s (lss.take x.1).flatten x.2.2.2) (λx=>[(7,iv x.1)]) (λx=>(x.2.2.1.take x.1).map Sq.fact) (λx=>x.2.1++LL x.2.2.2) (λx=>lss.length-x.1) ((0,B0,List.replicate lss.length ⟨none,[],0⟩,s)) (⟨bf _,by simp,λ_ h=>absurd h (iZ _),hs,.nil⟩) λ⟨i,B1,ws,t⟩ fr ⟨hi,hwl,hag,hs1,hst⟩=>?_;dsimp only at hi hwl hag hs1 hst;refine(lN)<|ao ?_ ?_
  ·intro hc21;have hlt:i<lss.length:=by have:=of_decide_eq_true hc21;dsimp only at this;omega
   obtain⟨l,hli⟩:∃l,lss[i]? =some l:=⟨_,aG hlt⟩;obtain⟨w0,hwi⟩:∃w0,ws[i]? =some w0:=⟨_,aG aa⟩;obtain⟨g,cap',cur,e5,rfl,hc1,hc2,hc3,hc4⟩:=hs1.one aa;cases e5;obtain⟨hok1,hok2⟩:=hok l (bn hli);refine(mB)<|aI eA call59 (vW hli) λv1 Fs1 ⟨q1,e1,e2,e3⟩=>?_;subst e1;subst e2;subst e3;refine aj eA call84 (tN (q:=q1))<|(aB)<|aS eA call274 (Qv (p:=q1.p) (l:=q1.l) (cp:=q1.cp) (s:=t) hc hcb hok1 hok2) λv Fs' L' ⟨t',q',h1,h2,e1,e2,e3⟩=>?_;subst e1;subst e2;subst e3;refine(aq) ?_;intro _;refine(cu)<|(cO)<|(eH)<|(Fo) ?_;refine bp (s:=2) (i:=i) ab O O O O O aa aa O ?_;refine uQ (i:=i) (size:=2) (vs:=q'.cells) ab O hs1 O O O O O O hlt (λ_=>uA) λcur2 hs2=>?_;rw[tI (F:=Sq.cells) q' (λ_ _=>rfl) hwi] at hs2;refine(Jb) ?_;exact⟨(i+1,_,ws.set i q',t'),oA,⟨oA,by simpa using hwl,Lz hag (by rw[hli,h2]) aa,hs2,by dsimp only;rw[dO hli,o0];exact hst.app (by simpa using h1)⟩,lA,kA,BR mA sA,hA⟩
  ·intro hc21;have hge:i=lss.length:=by have:=of_decide_eq_false hc21;dsimp only at this;omega
   have hws:ws.map (·.l)=lss:=BG hag aa aa;have hti:ws.take i=ws:=eQ aa;have hst':jT R s lss.flatten t:=by rw[hge,dg] at hst;exact hst
   refine(jh) ?_;refine eN hs1 tA ?_;refine cI (bQ p0 lss cap) (λhp al=>⟨ws,⟨hws,hb⟩,al _ (.head _),λy hy=>al y.fact (.tail _ (bq _ (aM.2 ⟨y,by dsimp only;rw[hti];exact hy,O⟩)))⟩)<|(aY)<|aI eA call109 (BN (p:=p0) (lss:=lss) (cp:=cap)) λv3 Fs3 ⟨p3,cp3,e6,e7⟩=>?_;subst e6;subst e7;refine(eF)<|aH [bQ p3 lss cp3] (LL t) ?_;exact⟨t,p3,cp3,hst',O,O,O⟩
end Go.Proofs
