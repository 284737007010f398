/- Part 14 of the proof that FnMapBorders returns true for every input that its row lets in. No further condition. -/
import Derived.Test.YtpddkliglnoaaaaGreatDoorA13
set_option linter.all false
set_option autoImplicit true
set_option relaxedAutoImplicit true
namespace Go.Proofs
open Tryz
open Go.V Go.Tiles Go.Edges
abbrev zE (i:Int):List Value:=[iv i]
abbrev pp (p:Option Addr) (l:List Int) (cp:Nat):an:=bF 1 (.slice p l.length cp) l.length (l.flatMap zE)
theorem Gi {Fs:List an} {L:List ae} {g o j:Nat} {l:List Int} {y:Int} (h:fS Fs L g o (l.flatMap zE)) (hj:l[j]? =some y):uz Fs L g (o+j*1) (iv y):=by
 have e:∀l:List Int,l.flatMap zE=l.map λi=>iv i:=λl=>by induction l with|nil=>rfl|cons a l ih=>simp[ih]
 rw[e] at h;rw[vK];exact cY h (by rw[iY,hj];rfl)
theorem Kq {q:Option Addr} {c:Nat} {l:List Int} {hp:PH} (h0:0<l.length) (h:(pp q l c).p hp):∃z:Nat×Nat,(q=some ⟨z.1,z.2,none⟩/\l.length<=c/\c<=maxLen)/\cr [aO z.1 z.2 (l.flatMap zE)] hp:=by
 rcases h.2 with⟨_,_,_,e⟩|⟨g,o,cap,e,hc,hf⟩
 ·omega
 ·cases e;exact⟨(g,o),⟨O,hc⟩,.cons hf (λ_ h=>nomatch h)⟩
def nb (x:IP×IP):IP×IP:=if x.2.1<x.1.1\/(x.2.1=x.1.1/\x.2.2<x.1.2) then(x.2,x.1) else x
abbrev wn (b:IP×IP):Value:=xH b.1.1 b.1.2 b.2.1 b.2.2
abbrev iP (l:List (IP×IP)):List (Value×Value):=l.map λb=>(wn b,.bool true)
theorem N8 (a b:IP×IP) (h:wn a=wn b):a=b:=by
 simp only[wn,xH,F6] at h;have h1:(a.1.1=b.1.1/\a.1.2=b.1.2)/\a.2.1=b.2.1/\a.2.2=b.2.2:=by simpa[and_assoc] using h
 exact mN (mN h1.1.1 h1.1.2) (mN h1.2.1 h1.2.2)
theorem MI {Fs:List an} {L:List ae} (b:IP×IP) (l:List (IP×IP)):sZ TC Fs L (wn b::(iP l).map (·.1)):=λ_ _ _ _ u hu=>by
 rcases bm.1 hu with rfl|h
 ·exact⟨_,_,_,_,O⟩
 ·rw[w8] at h;obtain⟨e,he,rfl⟩:=aM.1 h;exact⟨_,_,_,_,O⟩
def sF (l:List (IP×IP)):List (IP×IP):=(l.map nb).foldl fX []
theorem Wx (l:List (IP×IP)) (x:IP×IP):sF (l++[x])=fX (sF l) (nb x):=by simp[sF]
theorem RY {α:Type} [DecidableEq α] {l:List α} (h:l.Nodup) (x:α):(fX l x).Nodup:=by
 unfold fX;split
 ·exact h
 ·rename_i hx;refine uF.2 ⟨h,by simp,λa ha b hb e=>?_⟩;simp at hb;subst hb;subst e;exact hx ha
theorem U8 {α:Type} [DecidableEq α]:∀(l a:List α),a.Nodup->(l.foldl fX a).Nodup/\∀y,y∈l.foldl fX a↔y∈a\/y∈l
 |[],a,h=>⟨h,λy=>by simp⟩
 |x::l,a,h=>by
  obtain⟨h1,h2⟩:=U8 l (fX a x) (RY h x);refine⟨h1,λy=>?_⟩;rw[Dy,h2,qd,bm,or_assoc]
theorem IA (l:List (IP×IP)):(sF l).Nodup/\∀b,b∈sF l↔∃x∈l,b=nb x:=by
 obtain⟨h1,h2⟩:=U8 (l.map nb) [] Gd;refine⟨h1,λb=>?_⟩;rw[sF,h2,aM];simp only[oY,false_or];exact⟨λ⟨x,a,b⟩=>⟨x,a,b.symm⟩,λ⟨x,a,b⟩=>⟨x,a,b.symm⟩⟩
structure Oo (ofl:List Int) (part:List Nat) (k:Int):Prop where
 yes:∀j∈part,ofl[j]? =some k
 no:∀j,j∉part->∀y,ofl[j]? =some y->y≠k
theorem ak9 {w h n e:Nat} {ofl:List Int} {part:List Nat} {k:Int} (hs:(w,h)∈gJ) (hn:n<4*w*h) (he:e<3) (h1:ofl.length=4*w*h) (hk:Oo ofl part k):
  (bey (w:Int) h n e= -1/\kM w h (Sm part) n e=some (eC w n e))\/(∃(j:Nat) (y:Int),bey (w:Int) h n e=(j:Int)/\ofl[j]? =some y/\y≠k/\j<ofl.length/\kM w h (Sm part) n e=some (eC w n e))\/
   ∃j:Nat,bey (w:Int) h n e=(j:Int)/\ofl[j]? =some k/\j<ofl.length/\kM w h (Sm part) n e=none:=by
 rcases N6 hs hn he with⟨h2,h3⟩|⟨j,h2,h3,h4⟩
 ·exact .inl ⟨h3,by unfold kM;rw[h2];rfl⟩
 ·by_cases hj:j∈part
  ·exact .inr (.inr ⟨j,h3,hk.yes j hj,aa,by unfold kM;rw[h2];exact if_pos (show Sm part j=true by simp[Sm,hj])⟩)
  ·obtain⟨y,hy⟩:∃y,ofl[j]? =some y:=⟨_,aG aa⟩;exact .inr (.inl ⟨j,y,h3,hy,hk.no j hj y hy,aa,by unfold kM;rw[h2];exact if_neg (show¬(Sm part j=true) by simp[Sm,hj])⟩)
theorem SB (A B:IP):(B.1<A.1/\nb (A,B)=(B,A))\/(B.1=A.1/\B.2<A.2/\nb (A,B)=(B,A))\/(A.1<=B.1/\¬B.1=A.1/\nb (A,B)=(A,B))\/(A.1<=B.1/\B.1=A.1/\A.2<=B.2/\nb (A,B)=(A,B)):=by
 unfold nb;dsimp only;by_cases h1:B.1<A.1
 ·exact .inl ⟨h1,if_pos (.inl h1)⟩
 ·by_cases h2:B.1=A.1
  ·by_cases h3:B.2<A.2
   ·exact .inr (.inl ⟨h2,h3,if_pos (.inr ⟨h2,h3⟩)⟩)
   ·exact .inr (.inr (.inr ⟨aa,h2,aa,if_neg aa⟩))
  ·exact .inr (.inr (.inl ⟨aa,h2,if_neg aa⟩))
variable {w h n ci co cp:Nat} {pi po p:Option Addr} {ofl:List Int} {part:List Nat} {v5:Value} {k:Int}
theorem akZ (hs:(w,h)∈gJ) (hw:1<=w/\w<=5) (hh:1<=h/\h<=5) (hn:n=4*w*h) (h5:v5.oneCell'=true) (hof:ofl.length=n) (hok:AM n part) (hk:Oo ofl part k):
  ai prog 5 [NX w h (.slice pi n ci) (.slice po ofl.length co) v5,.slice p part.length cp].toArray [pp po ofl co,E0 p part cp] []
   (λv Fs' L'=>∃rm,v= .map (some rm)/\Fs'=[]/\L'=[(rm,bW (iP (sF (fk w h (Sm part) part))))]):=by
 have hwh:w*h<=5*5:=uD hw.2 hh.2;have hn100:n<=100:=by rw[hn,nK];omega
 have hn0:0<n:=by
  have:1*1<=w*h:=uD hw.1 hh.1;rw[hn,nK];omega
 have hxl:=uN hok.nd hok.lt;refine am func5 λ_=>(au) ?_;intro b2;refine(bR) ?_;refine dl (r:=b2) tA<|(cJ)<|(AZ) ?_;intro rm;refine(nu)<|aU [(7,12),(16,81)] (λ(y:Nat×List (IP×IP))=>y.1<=part.length/\y.2=sF (fk w h (Sm part) (part.take y.1))) (λy=>[(16,iv y.1)]) (λ_=>[]) (λy=>[(rm,bW (iP y.2))]) (λy=>part.length-y.1) ((0,[])) (⟨bf _,O⟩) λ⟨i,l⟩ fr ⟨h6,h7⟩=>?_;dsimp only at h6 h7;refine(cM)<|ao ?_ ?_
 ·intro hc17;have hlt:i<part.length:=by have:=of_decide_eq_true hc17;dsimp only at this;omega
  obtain⟨m,hm⟩:∃m,part[i]? =some m:=⟨_,aG hlt⟩;have hmm:=bn hm;have hmn:m<n:=hok.lt m hmm;refine(ix) ?_;refine cU (size:=1) (i:=i) ab O O O O O aa mA aa (flat_take (F:=iq) (λ_ _=>O) hm) O λ_ _=>(fM)<|(fo)<|(cQ) ?_;refine aK ab O O O (jp (k:=0) (m:=3) (aR (xs:=[iv w,iv h,.slice pi n ci,.slice po ofl.length co,v5]) mA)) O O<|(aB)<|aj eA call11 (Wc (w:=w) (h:=h) (n:=m) (p:=pi) (k:=n) (cp:=ci) hw aa)<|(aq) ?_;intro r8;refine(dS) ?_;refine dl (r:=r8) tA<|(aY)<|(dF)<|aU [(9,12),(24,80)] (λ(y:Nat×List (IP×IP))=>y.1<=3/\y.2=sF (fk w h (Sm part) (part.take i)++qu w h (Sm part) m y.1)) (λy=>[(24,iv y.1)]) (λ_=>[]) (λy=>[(rm,bW (iP y.2))]) (λy=>3-y.1) ((0,l)) (⟨bf _,by simpa[qu] using h7⟩) λ⟨e,l2⟩ fr2 ⟨l5,l6⟩=>?_;dsimp only at l5 l6;refine(cM)<|ao ?_ ?_
  ·intro hc25;have he:e<3:=by have:=of_decide_eq_true hc25;dsimp only at this;omega
   have hj:=ak9 (n:=m) (e:=e) (ofl:=ofl) hs (by rw[<-hn];exact hmn) he (by rw[hof];exact hn) hk;have hce:=Iv w m he;have hce2:=Iv w m (show(e+1)%3<3 from nI _ bz);have hmk:=hk.yes m hmm;obtain⟨A,B,hAB⟩:∃A B,eC w m e=(A,B):=⟨_,_,rfl⟩;have hcA:dQ w m e=A:=congrArg Prod.fst hAB;have hcB:dQ w m ((e+1)%3)=B:=congrArg Prod.snd hAB;rw[hcA] at hce;rw[hcB] at hce2;rw[hAB] at hj;refine(rK)<|(rD)<|(cQ) ?_;refine aK ab O O O (jp (k:=0) (m:=3) (aR (xs:=[iv w,iv h,.slice pi n ci,.slice po ofl.length co,v5]) mA)) O O<|(dG)<|aj eA call12 (N5 (w:=w) (h:=h) (n:=m) (e:=e) (p:=pi) (k:=n) (cp:=ci) aa aa aa)<|(bR) ?_;rcases hj with⟨hj,hed⟩|⟨j,y,hj,hy,hne,hjn,hed⟩|⟨j,hj,hy,hjn,hed⟩<;>rw[hj]
   ·refine yL (φ:=λ(z:Nat×Nat)=>po=some ⟨z.1,z.2,none⟩/\ofl.length<=co/\co<=maxLen) (G:=λz=>[aO z.1 z.2 (ofl.flatMap zE)]) (λhp al=>Kq aa (al (pp po ofl co) mA)) (λz hz=>?_);obtain⟨g6,o6⟩:=z;obtain⟨rfl,hc6,hm6⟩:=hz;refine(OH)<|(bh) ?_;refine ac O (aL O O (by show some (decide ((-1:Int)>=0))=some false;rfl) O)<|(Jn)<|(vw)<|(pT)<|(jN)<|(jY)<|(gH)<|(ce)<|jl ([]) [(11,12),(47,54)] (λ(_:Nat×Nat)=>True) (λz=>[(11,aF z.1),(12,aF z.2)]) (λ_=>[]) (λz=>[bL z.1 34 (bT A),bL z.2 34 (bT B)]) ?_ ?_
    ·refine cz cw 11 [8,9,10] [10]<|(bh) ?_;refine ac O (fg (s:=2) (i:=e) ab O O O O O aa (by show _<3;omega) O) ?_;refine ac O (aK ab O O O (fK (F:=bT) (k:=2) (xs:=[dQ w m 0,dQ w m 1,dQ w m 2]) (aR mA) (λ_ _=>O) hce aa) O O)<|(kQ) ?_;refine cC O (dD (m:=((e+1:Nat):Int)) O O aa ⟨aa,aa⟩ O) ?_;refine cC O (uR (i:=e+1) (m:=3) O O O O aa O) ?_;refine cC O (fg (s:=2) (i:=(e+1)%3) ab O O O O O aa (by show _<3;omega) O) ?_;refine cC O (aK ab O O O (fK (F:=bT) (k:=2) (xs:=[dQ w m 0,dQ w m 1,dQ w m 2]) (aR mA) (λ_ _=>O) hce2 aa) O O)<|(zo) ?_;refine so (i:=8) (j:=9) br yA ?_ ?_
     ·refine(Jk) ?_;intro r11;refine(dU)<|(aq) ?_;intro r12;refine(dU)<|(de) ?_;refine mj (.norm ⟨⟨undef,O⟩,(um)<|(cu) ?_⟩);exact⟨(r11,r12),trivial,lA,kA,fA,hA⟩
     ·refine(Jk) ?_;intro r12;refine(dU)<|(aq) ?_;intro r11;refine(dU)<|(de) ?_;refine mj (.norm ⟨⟨undef,O⟩,(um)<|(cu) ?_⟩);exact⟨(r11,r12),trivial,lA,kA,fA,hA⟩
    ·intro⟨r11,r12⟩ fj2 _;refine(ce)<|jl ([bL r11 34 (bT A),bL r12 34 (bT B)]) [(55,75)] (λ(_:Unit)=>True) (λ_=>[]) (λ_=>[]) (λ_=>[bL r11 34 (bT (nb (A,B)).1),bL r12 34 (bT (nb (A,B)).2)]) ?_ ?_
     ·refine(ce) ?_;rcases SB A B with⟨q1,hnb⟩|⟨q1,q2,hnb⟩|⟨q1,q2,hnb⟩|⟨q1,q2,q3,hnb⟩<;>rw[hnb]
      ·refine(jt) ?_;refine aL O O (iT (p:=B.1<A.1) q1) O<|(Jh)<|(pK)<|Jj
      ·refine(jt) ?_;refine aL O O (iF (p:=B.1<A.1) aa) O<|(ze) ?_;refine ah O O (aL O O (iT (p:=B.1=A.1) q1) O<|(Je) ?_);refine ah O O (aL O O (iT (p:=B.2<A.2) q2) O<|(C3)<|(gm)<|(vE)<|Jj)
      ·refine(jt) ?_;refine aL O O (iF (p:=B.1<A.1) aa) O<|(ze) ?_;refine ah O O (aL O O (iF (p:=B.1=A.1) q2) O<|(fN)<|(zc)<|(jK)<|(OP)<|(pJ)<|A1)
      ·refine(jt) ?_;refine aL O O (iF (p:=B.1<A.1) aa) O<|(ze) ?_;refine ah O O (aL O O (iT (p:=B.1=A.1) q2) O<|(Je) ?_);refine ah O O (aL O O (iF (p:=B.2<A.2) aa) O<|(C3)<|(pJ)<|A1)
     ·intro _ fj3 _;refine(aY)<|(lQ)<|(lQ)<|(cN) ?_;refine qZ ab O O MP O (u:=wn (nb (A,B))) (v:= .bool true) O O (kvs:=iP l2) (kvs':=iP (fX l2 (nb (A,B)))) (Ao N8 _ _ _) uA (MI _ _)<|(rM) ?_;exact⟨(e+1,fX l2 (nb (A,B))),oA,⟨by dsimp only;omega,by dsimp only;rw[Cs he,hed,<-cG,l6];exact(Wx _ _).symm⟩,lA,kA,fA,hA⟩
   ·refine yL (φ:=λ(z:Nat×Nat)=>po=some ⟨z.1,z.2,none⟩/\ofl.length<=co/\co<=maxLen) (G:=λz=>[aO z.1 z.2 (ofl.flatMap zE)]) (λhp al=>Kq aa (al (pp po ofl co) mA)) (λz hz=>?_);obtain⟨g6,o6⟩:=z;obtain⟨rfl,hc6,hm6⟩:=hz;refine(OH)<|(bh) ?_;refine ac O (aL O O (iT (p:=(j:Int)>=0) aa) O)<|(bh) ?_;refine ac O (λkX=>ah O O (b9 ab O O O O kX)) ?_;refine ac O (λkX=>ah O O (az ab O O O (cY (j:=3) (aR (xs:=[iv w,iv h,.slice pi n ci,.slice (some ⟨g6,o6,none⟩) ofl.length co,v5]) mA) O) O kX)) ?_;refine ac O (λkX=>ah O O (eV O O kX)) ?_;refine ac O (λkX=>ah O O (bp (s:=1) (i:=j) ab O O O O O aa aa O kX)) ?_;refine ac O (λkX=>ah O O (az ab O O O (Gi (aR (xs:=ofl.flatMap zE) mA) hy) O kX)) ?_;refine ac O (λkX=>ah O O (b9 ab O O O O kX)) ?_;refine ac O (λkX=>ah O O (az ab O O O (cY (j:=3) (aR (xs:=[iv w,iv h,.slice pi n ci,.slice (some ⟨g6,o6,none⟩) ofl.length co,v5]) mA) O) O kX)) ?_;refine ac O (λkX=>ah O O (eV O O kX)) ?_;refine ac O (λkX=>ah O O (bp (s:=1) (i:=m) ab O O O O O aa aa O kX)) ?_;refine ac O (λkX=>ah O O (az ab O O O (Gi (aR (xs:=ofl.flatMap zE) mA) hmk) O kX)) ?_;refine ac O (λkX=>ah O O (aL O O (iF (p:=y=k) hne) O kX))<|(iV)<|(jY)<|(gH)<|(ce)<|jl ([]) [(11,12),(47,54)] (λ(_:Nat×Nat)=>True) (λz=>[(11,aF z.1),(12,aF z.2)]) (λ_=>[]) (λz=>[bL z.1 34 (bT A),bL z.2 34 (bT B)]) ?_ ?_
    ·refine cz cw 11 [8,9,10] [10]<|(bh) ?_;refine ac O (fg (s:=2) (i:=e) ab O O O O O aa (by show _<3;omega) O) ?_;refine ac O (aK ab O O O (fK (F:=bT) (k:=2) (xs:=[dQ w m 0,dQ w m 1,dQ w m 2]) (aR mA) (λ_ _=>O) hce aa) O O)<|(kQ) ?_;refine cC O (dD (m:=((e+1:Nat):Int)) O O aa ⟨aa,aa⟩ O) ?_;refine cC O (uR (i:=e+1) (m:=3) O O O O aa O) ?_;refine cC O (fg (s:=2) (i:=(e+1)%3) ab O O O O O aa (by show _<3;omega) O) ?_;refine cC O (aK ab O O O (fK (F:=bT) (k:=2) (xs:=[dQ w m 0,dQ w m 1,dQ w m 2]) (aR mA) (λ_ _=>O) hce2 aa) O O)<|(zo) ?_;refine so (i:=8) (j:=9) br yA ?_ ?_
     ·refine(Jk) ?_;intro r11;refine(dU)<|(aq) ?_;intro r12;refine(dU)<|(de) ?_;refine mj (.norm ⟨⟨undef,O⟩,(um)<|(cu) ?_⟩);exact⟨(r11,r12),trivial,lA,kA,fA,hA⟩
     ·refine(Jk) ?_;intro r12;refine(dU)<|(aq) ?_;intro r11;refine(dU)<|(de) ?_;refine mj (.norm ⟨⟨undef,O⟩,(um)<|(cu) ?_⟩);exact⟨(r11,r12),trivial,lA,kA,fA,hA⟩
    ·intro⟨r11,r12⟩ fj2 _;refine(ce)<|jl ([bL r11 34 (bT A),bL r12 34 (bT B)]) [(55,75)] (λ(_:Unit)=>True) (λ_=>[]) (λ_=>[]) (λ_=>[bL r11 34 (bT (nb (A,B)).1),bL r12 34 (bT (nb (A,B)).2)]) ?_ ?_
     ·refine(ce) ?_;rcases SB A B with⟨q1,hnb⟩|⟨q1,q2,hnb⟩|⟨q1,q2,hnb⟩|⟨q1,q2,q3,hnb⟩<;>rw[hnb]
      ·refine(jt) ?_;refine aL O O (iT (p:=B.1<A.1) q1) O<|(Jh)<|(pK)<|Jj
      ·refine(jt) ?_;refine aL O O (iF (p:=B.1<A.1) aa) O<|(ze) ?_;refine ah O O (aL O O (iT (p:=B.1=A.1) q1) O<|(Je) ?_);refine ah O O (aL O O (iT (p:=B.2<A.2) q2) O<|(C3)<|(gm)<|(vE)<|Jj)
      ·refine(jt) ?_;refine aL O O (iF (p:=B.1<A.1) aa) O<|(ze) ?_;refine ah O O (aL O O (iF (p:=B.1=A.1) q2) O<|(fN)<|(zc)<|(jK)<|(OP)<|(pJ)<|A1)
      ·refine(jt) ?_;refine aL O O (iF (p:=B.1<A.1) aa) O<|(ze) ?_;refine ah O O (aL O O (iT (p:=B.1=A.1) q2) O<|(Je) ?_);refine ah O O (aL O O (iF (p:=B.2<A.2) aa) O<|(C3)<|(pJ)<|A1)
     ·intro _ fj3 _;refine(aY)<|(lQ)<|(lQ)<|(cN) ?_;refine qZ ab O O MP O (u:=wn (nb (A,B))) (v:= .bool true) O O (kvs:=iP l2) (kvs':=iP (fX l2 (nb (A,B)))) (Ao N8 _ _ _) uA (MI _ _)<|(rM) ?_;exact⟨(e+1,fX l2 (nb (A,B))),oA,⟨by dsimp only;omega,by dsimp only;rw[Cs he,hed,<-cG,l6];exact(Wx _ _).symm⟩,lA,kA,fA,hA⟩
   ·refine yL (φ:=λ(z:Nat×Nat)=>po=some ⟨z.1,z.2,none⟩/\ofl.length<=co/\co<=maxLen) (G:=λz=>[aO z.1 z.2 (ofl.flatMap zE)]) (λhp al=>Kq aa (al (pp po ofl co) mA)) (λz hz=>?_);obtain⟨g6,o6⟩:=z;obtain⟨rfl,hc6,hm6⟩:=hz;refine(OH)<|(bh) ?_;refine ac O (aL O O (iT (p:=(j:Int)>=0) aa) O)<|(bh) ?_;refine ac O (λkX=>ah O O (b9 ab O O O O kX)) ?_;refine ac O (λkX=>ah O O (az ab O O O (cY (j:=3) (aR (xs:=[iv w,iv h,.slice pi n ci,.slice (some ⟨g6,o6,none⟩) ofl.length co,v5]) mA) O) O kX)) ?_;refine ac O (λkX=>ah O O (eV O O kX)) ?_;refine ac O (λkX=>ah O O (bp (s:=1) (i:=j) ab O O O O O aa aa O kX)) ?_;refine ac O (λkX=>ah O O (az ab O O O (Gi (aR (xs:=ofl.flatMap zE) mA) hy) O kX)) ?_;refine ac O (λkX=>ah O O (b9 ab O O O O kX)) ?_;refine ac O (λkX=>ah O O (az ab O O O (cY (j:=3) (aR (xs:=[iv w,iv h,.slice pi n ci,.slice (some ⟨g6,o6,none⟩) ofl.length co,v5]) mA) O) O kX)) ?_;refine ac O (λkX=>ah O O (eV O O kX)) ?_;refine ac O (λkX=>ah O O (bp (s:=1) (i:=m) ab O O O O O aa aa O kX)) ?_;refine ac O (λkX=>ah O O (az ab O O O (Gi (aR (xs:=ofl.flatMap zE) mA) hmk) O kX)) ?_;refine ac O (λkX=>ah O O (aL O O (iT (p:=k=k) O) O kX))<|(iV)<|(jY)<|(vE)<|(zi)<|(lO) ?_;exact⟨(e+1,l2),oA,⟨by dsimp only;omega,by dsimp only;rw[Cs he,hed];simpa using l6⟩,lA,kA,fA,hA⟩
  ·intro hc25;have he3:e=3:=by have:=of_decide_eq_false hc25;dsimp only at this;omega
   subst he3;refine(eG)<|(lO) ?_;exact⟨(i+1,l2),oA,⟨by dsimp only;omega,by dsimp only;rw[dO hm,VG];exact l6⟩,lA,kA,fA,hA⟩
 ·intro hc17;have hge:i=part.length:=by have:=of_decide_eq_false hc17;dsimp only at this;omega
  subst hge;rw[dg] at h7;subst h7;refine(CU)<|(bO)<|aH [] [(rm,bW (iP (sF (fk w h (Sm part) part))))] ?_;exact⟨rm,O,O,O⟩
end Go.Proofs
namespace Go.Proofs
open Tryz
open Go.V Go.Tiles Go.Edges
abbrev DH (g:Nat) (l:List Int):ae:=(g,.cells (l.flatMap zE++[]).toArray 3 (0,0))
theorem XR (n:Nat):jA [iv 0] 1 n=(List.replicate n (0:Int)).flatMap zE++[]:=(rX (F:=zE) (0:Int) rfl rfl bz n).trans (jz _).symm
def XJ (v:Value):Prop:=∃(a b:Int) (v3 v4 v5:Value),(v3.oneCell'=true/\v4.oneCell'=true/\v5.oneCell'=true)/\v= .tuple #[.agg #[iv a,iv b,v3,v4,v5],.bool false]
structure vg (n:Nat) (ofl:List Int) (acc:List (List Nat)) (tk:List Nat):Prop where
 len:ofl.length=n
 yes:∀(k:Nat) (l:List Nat),acc[k]? =some l->∀j∈l,ofl[j]? =some (k:Int)
 now:∀j∈tk,ofl[j]? =some (acc.length:Int)
 no:∀j,j<n->j∉acc.flatten->j∉tk->ofl[j]? =some (-1)
theorem vg.set {n m:Nat} {ofl:List Int} {acc:List (List Nat)} {tk:List Nat} (h:vg n ofl acc tk) (hm:m<n) (hno:m∉acc.flatten):vg n (ofl.set m (acc.length:Int)) acc (tk++[m]):=by
 have hl:=h.len;refine⟨by rw[Ko];exact hl,λk l hk j hj=>?_,λj hj=>?_,λj hjn hj1 hj2=>?_⟩
 ·have hne:m≠j:=λe=>hno (by subst e;exact xb.2 ⟨l,bn hk,hj⟩);rw[pe hne];exact h.yes k l hk j hj
 ·by_cases e:m=j
  ·subst e;exact yk aa
  ·rw[pe e];rcases bB.1 hj with hj|hj
   ·exact h.now j hj
   ·simp at hj;exact absurd hj.symm e
 ·have hne:m≠j:=λe=>hj2 (by subst e;simp);rw[pe hne];exact h.no j hjn hj1 (λhh=>hj2 (bq _ hh))
theorem vg.close {n:Nat} {ofl:List Int} {acc:List (List Nat)} {tk:List Nat} (h:vg n ofl acc tk):vg n ofl (acc++[tk]) []:=by
 refine⟨h.len,λk l hk j hj=>?_,(λ_ h=>nomatch h),λj hjn hj1 _=>?_⟩
 ·rw[List.getElem?_append] at hk;split at hk
  ·exact h.yes k l hk j hj
  ·rename_i hge;have hk0:k-acc.length=0:=by
    rcases xe (k-acc.length) with e|e
    ·exact e
    ·rw[gZ qK] at hk;cases hk
   rw[hk0] at hk;cases hk;have:k=acc.length:=by omega
   rw[this];exact h.now j hj
 ·rw[o0,bB] at hj1;exact h.no j hjn (λhh=>hj1 (.inl hh)) (λhh=>hj1 (.inr (by simpa using hh)))
structure A9 (n:Nat) (lab:List Int) (c:Int) (acc:List (List Nat)):Prop where
 nd:acc.flatten.Nodup
 mem:∀j,j∈acc.flatten↔∃y,lab[j]? =some y/\0<=y/\y<c
 ne:∀l∈acc,l≠[]
theorem A9.next {n:Nat} {lab:List Int} {c:Int} {acc new:List (List Nat)} {m:List Bool} (h:A9 n lab c acc) (hc:0<=c) (hm:∀j:Nat,m[j]? =some true↔lab[j]? =some c) (hp:IV m new):A9 n lab (c+1) (acc++new):=by
 refine⟨?_,λj=>?_,λl hl=>(bB.1 hl).elim (h.ne l) (hp.ne l)⟩
 ·rw[o0];refine uF.2 ⟨h.nd,hp.nd,λa ha b hb e=>?_⟩;subst e;obtain⟨y,h1,h2,h3⟩:=(h.mem a).1 ha;have h4:=(hm a).1 ((hp.mem a).1 hb);rw[h1] at h4;cases h4;omega
 ·rw[o0,bB,h.mem,hp.mem,hm];constructor
  ·rintro(⟨y,h1,h2,h3⟩|h1)
   ·exact⟨y,h1,h2,aa⟩
   ·exact⟨c,h1,hc,aa⟩
  ·rintro⟨y,h1,h2,h3⟩;by_cases e:y=c
   ·subst e;exact .inr h1
   ·exact .inl ⟨y,h1,h2,aa⟩
variable {w h cp:Nat} {p:Option Addr} {lab:List Int}
theorem akJ {w h:Int} (hb:w<1\/(1<=w/\5<w)\/((1<=w/\w<=5)/\h<1)\/((1<=w/\w<=5)/\1<=h/\5<h)\/((1<=w/\w<=5)/\(1<=h/\h<=5)/\(lab.length:Int)≠4*w*h)):
  ai prog 4 [iv w,iv h,.slice p lab.length cp].toArray [pp p lab cp] [] (λv Fs' L'=>(XJ v/\Fs'=[])/\L'=[]):=by
 refine am func4 λ_=>(wL) ?_;intro r6;refine(ub) ?_;rcases hb with hb|hb|hb|hb|hb
 ·refine(aY) ?_;refine aL O O (iT (p:=w<1) hb) O<|(zj)<|(zj)<|(zj)<|fO
 ·refine(aY) ?_;refine aL O O (iF (p:=w<1) aa) O<|(ic) ?_;refine ah O O (aL O O (iT (p:=w>5) aa) O<|(gm)<|(zj)<|(zj)<|fO)
 ·refine(aY) ?_;refine aL O O (iF (p:=w<1) aa) O<|(ic) ?_;refine ah O O (aL O O (iF (p:=w>5) aa) O<|(gm)<|(ic) ?_);refine ah O O (aL O O (iT (p:=h<1) aa) O<|(gm)<|(zj)<|fO)
 ·refine(aY) ?_;refine aL O O (iF (p:=w<1) aa) O<|(ic) ?_;refine ah O O (aL O O (iF (p:=w>5) aa) O<|(gm)<|(ic) ?_);refine ah O O (aL O O (iF (p:=h<1) aa) O<|(gm)<|(ic) ?_);refine ah O O (aL O O (iT (p:=h>5) aa) O<|(gm)<|fO)
 ·refine(aY) ?_;refine aL O O (iF (p:=w<1) aa) O<|(ic) ?_;refine ah O O (aL O O (iF (p:=w>5) aa) O<|(gm)<|(ic) ?_);refine ah O O (aL O O (iF (p:=h<1) aa) O<|(gm)<|(ic) ?_);refine ah O O (aL O O (iF (p:=h>5) aa) O<|(gm)<|(ic)<|(zq)<|(fN) ?_);refine ah O O (iM (m:=4*w) O O O ⟨aa,aa⟩ O ?_);refine(fN) ?_;refine ah O O (iM (m:=4*w*h) O O O (ahg aa aa aa aa) O ?_);refine ah O O (aL O O (iT (p:=(lab.length:Int)≠4*w*h) hb.2.2) O<|(gm)<|(vq)<|(lQ)<|(de)<|(jZ)<|Xk)
end Go.Proofs
namespace Go.Proofs
open Tryz
open Go.V Go.Tiles Go.Edges
structure Dg (n:Nat) (lab ofl:List Int) (ps:List (List Nat)):Prop where
 ch:A9 n lab 8 ps
 of:vg n ofl ps []
 few:ps.length<=60
theorem Eh {α:Type} {l:List α} {f:Nat->α} {i:Nat} (hi:i<l.length) (h:∀j,j<i->l[j]? =some (f j)):∀j,j<i+1->(l.set i (f i))[j]? =some (f j):=by
 intro j hj;by_cases e:i=j
 ·subst e;exact yk hi
 ·rw[pe e];exact h j aa
theorem akK {n:Nat} {lab:List Int} {c:Int} {acc:List (List Nat)} (h:A9 n lab c acc) (hl:lab.length=n):acc.length<=n:=by
 have h1:=uN h.nd (n:=n) (λx hx=>by obtain⟨y,hy,_⟩:=(h.mem x).1 hx;rw[<-hl];exact da hy);have h2:∀acc:List (List Nat),(∀l∈acc,l≠[])->acc.length<=acc.flatten.length:=by
  intro acc
  induction acc with
  |nil=>intro _;simp
  |cons l acc ih=>
   intro hne;have:=ih λx hx=>hne x (.tail _ hx);have:=DD.2 (hne l (.head _));simp only[cE,oX,aW];omega
 have:=h2 acc h.ne;omega
theorem ad5 {n:Nat} {m:List Bool} {new:List (List Nat)} (hp:IV m new) (hm:m.length=n):new.length<=n/\∀l∈new,(∀j∈l,j<n)/\l.length<=n:=by
 have hlt:∀x∈new.flatten,x<n:=λx hx=>by rw[<-hm];exact da ((hp.mem x).1 hx)
 have h1:=uN hp.nd hlt;have h2:∀acc:List (List Nat),(∀l∈acc,l≠[])->acc.length<=acc.flatten.length:=by
  intro acc
  induction acc with
  |nil=>intro _;simp
  |cons l acc ih=>
   intro hne;have:=ih λx hx=>hne x (.tail _ hx);have:=DD.2 (hne l (.head _));simp only[cE,oX,aW];omega
 have:=h2 new hp.ne;refine⟨aa,λl hl=>⟨λj hj=>hlt j (xb.2 ⟨l,hl,hj⟩),?_⟩⟩;obtain⟨i,hi⟩:=lg hl;have h3:l.length<=new.flatten.length:=by
  rw[xM hi,o0,oX];simp only[aW];omega
 omega
theorem aey {ps qs:List PI} {i:Nat} {x:PI} (h:(ps.map PI.l++qs.map PI.l).flatten.Nodup) (hx:qs[i]? =some x):∀m∈x.l,m∉((ps++qs.take i).map PI.l).flatten:=by
 intro m hm hin;rw[<-dX,xM hx,<-cG,dX,o0] at h;have h2:=(uF.1 h).2.2 m hin m (by simp[hm]);exact h2 O
theorem XQ {g n:Nat} {l:List Int} {hp:PH} (hl:l.length=n) (h0:0<n) (hb:n<=100) (h:(aO g 0 (l.flatMap zE++[])).p hp):(pp (some ⟨g,0,none⟩) l n).p hp:=by
 rw[jz] at h;exact⟨kJ (F:=zE) λ_ _=>O,.inr ⟨g,0,n,by rw[hl],⟨aa,by simp only[maxLen];omega⟩,h⟩⟩
theorem ae6 {n:Nat} {lab:List Int} {c:Int} {m:List Bool} (hl:lab.length=n) (hm:m.length=n) (h:∀j,j<n->m[j]? =some (decide (lab.getD j (-5)=c))):∀j:Nat,m[j]? =some true↔lab[j]? =some c:=by
 intro j;rcases dL j n with hj|hj
 ·rw[h j hj];have e:lab[j]? =some (lab.getD j (-5)):=by
   rw[j7];rw[aG aa];rfl
  rw[e];simp
 ·rw[gZ aa,gZ aa];constructor<;>intro h<;>cases h
variable {w h cp:Nat} {p:Option Addr} {lab:List Int}
abbrev AD (w h:Nat) (v3 v4 v5:Value):List Value:=[iv w,iv h,v3,v4,v5]
theorem akI (hs:(w,h)∈gJ) (hw:1<=w/\w<=5) (hh:1<=h/\h<=5) (hl:lab.length=4*w*h) (h64:∀y∈lab,oS y):
  ai prog 4 [iv w,iv h,.slice p lab.length cp].toArray [pp p lab cp] [] (λv Fs' L'=>((XJ v/\Fs'=[])\/∃(pi po pc:Option Addr) (ci co cc:Nat) (ofl:List Int) (ps:List PI),Dg (4*w*h) lab ofl (ps.map PI.l)/\v= .tuple #[NX w h (.slice pi (4*w*h) ci) (.slice po ofl.length co) (.slice pc ps.length cc),.bool true]/\Fs'=[pp po ofl co,q8 pc ps cc])/\L'=[]):=by
 obtain⟨n,hn⟩:∃n,n=4*w*h:=⟨_,rfl⟩;rw[<-hn] at hl ⊢;have hwh:w*h<=5*5:=uD hw.2 hh.2;have hn100:n<=100:=by rw[hn,nK];omega
 have hn0:0<n:=by
  have:1*1<=w*h:=uD hw.1 hh.1;rw[hn,nK];omega
 have hz:(4*(w:Int)*(h:Int))=(n:Int):=by rw[hn];simp
 refine am func4 λ_=>(wL) ?_;intro r6;refine(iC) ?_;refine aL O O (iF (p:=(w:Int)<1) aa) O<|(ic) ?_;refine ah O O (aL O O (iF (p:=(w:Int)>5) aa) O<|(gm)<|(ic) ?_);refine ah O O (aL O O (iF (p:=(h:Int)<1) aa) O<|(gm)<|(ic) ?_);refine ah O O (aL O O (iF (p:=(h:Int)>5) aa) O<|(gm)<|(ic)<|(zq)<|(fN) ?_);refine ah O O (iM (m:=4*(w:Int)) O O O ⟨aa,aa⟩ O ?_);refine(fN) ?_;refine ah O O (iM (m:=(n:Int)) O O hz ⟨aa,aa⟩ O ?_);refine ah O O (aL O O (iF (p:=(lab.length:Int)≠(n:Int)) (by simp[hl])) O<|(pJ)<|(OC) ?_);refine iM (m:=4*(w:Int)) O O O ⟨aa,aa⟩ O ?_;refine(aB) ?_;refine iM (m:=(n:Int)) O O hz ⟨aa,aa⟩ O ?_;refine ml (e:=4) (size:=1) ab O O O O O O (zl:=[.bool false]) nA O (l:=n) (cp:=n) O O (bg _) O (by show n*1<=_;omega) O λgs=>?_;rw[DG];refine(cN)<|(cQ) ?_;refine cS ab O (cs:=[iv 0,iv 0,.slice none 0 0,.slice none 0 0,.slice none 0 0]) (cs':=[iv w,iv h,.slice (some ⟨gs,0,none⟩) n n,.slice none 0 0,.slice none 0 0]) O O O O O O O uA<|(qC) ?_;refine iM (m:=4*(w:Int)) O O O ⟨aa,aa⟩ O ?_;refine(aB) ?_;refine iM (m:=(n:Int)) O O hz ⟨aa,aa⟩ O ?_;refine ml (e:=3) (size:=1) ab O O O O O O (zl:=[iv 0]) nA O (l:=n) (cp:=n) O O (bg _) O (by show n*8<=_;omega) O λga=>?_;rw[XR];refine(cQ) ?_;refine cS ab O (cs:=[iv w,iv h,.slice (some ⟨gs,0,none⟩) n n,.slice none 0 0,.slice none 0 0]) (cs':=[iv w,iv h,.slice (some ⟨gs,0,none⟩) n n,.slice (some ⟨ga,0,none⟩) n n,.slice none 0 0]) O O O O O O O uA<|(AU)<|(gW)<|aU [(7,9),(59,78)] (λ(y:Nat×List Int×List Bool)=>y.1<=n/\(y.2.1.length=n/\∀j,j<y.1->y.2.1[j]? =some (-1))/\y.2.2.length=n) (λy=>[(59,iv y.1)]) (λ_=>[]) (λy=>[u9 gs y.2.2,DH ga y.2.1,bL r6 28 (AD w h (.slice (some ⟨gs,0,none⟩) n n) (.slice (some ⟨ga,0,none⟩) n n) (.slice none 0 0))]) (λy=>n-y.1) ((0,List.replicate n 0,List.replicate n false)) (⟨bf _,⟨by simp,(λj hj=>absurd hj (iZ _))⟩,by simp⟩) λ⟨i,ofl,bs⟩ fr ⟨h5,⟨h6,h7⟩,h8⟩=>?_;dsimp only at h5 h6 h7 h8;refine(cM)<|ao ?_ ?_
 ·intro hc60;have hlt:i<n:=by have:=of_decide_eq_true hc60;dsimp only at this;omega
  obtain⟨y,hy⟩:∃y,lab[i]? =some y:=⟨_,aG aa⟩;have hy64:=h64 y (bn hy);refine(rK) ?_;refine cU (size:=1) (i:=i) ab O O O O O aa mA aa (flat_take (F:=zE) (λ_ _=>O) hy) O λ_ _=>(fM)<|(gb)<|(iC)<|(sJ)<|ao ?_ ?_
  ·intro hc65;refine(ba)<|(lQ)<|(de)<|(bO)<|(ul)<|(ul)<|(kS) ?_;exact⟨.inl ⟨⟨w,h,_,_,_,⟨O,O,O⟩,O⟩,O⟩,O⟩
  ·intro hc65;refine(bX)<|(ba)<|(cQ)<|(Xj)<|(aB) ?_;refine bp (s:=1) (i:=i) ab O O O O O aa aa O ?_;refine sp (F:=zE) (k:=1) (l:=ofl) (j:=i) (tl:=[]) ab O (λ_=>O) (-1) O aa O O O O aa uA<|(aN)<|(rI)<|(cQ)<|(FA)<|(dG)<|(OM) ?_;refine bp (s:=1) (i:=i) ab O O O O O aa aa O ?_;refine sp (F:=bE) (k:=1) (l:=bs) (j:=i) (tl:=[]) ab O (λ_=>O) (decide (y>=0)) O aa O O O O aa uA<|(rM) ?_;exact⟨(i+1,ofl.set i (-1),bs.set i (decide (y>=0))),oA,⟨by dsimp only;omega,⟨by simp[h6],Eh (f:=λ_=>(-1:Int)) aa h7⟩,by simp[h8]⟩,lA,kA,fA,hA⟩
 ·intro hc60;have hge:i=n:=by have:=of_decide_eq_false hc60;dsimp only at this;omega
  have hof0:vg n ofl [] []:=⟨h6,(λk l hk=>by simp at hk),(λ_ h=>nomatch h),λj hj _ _=>h7 j aa⟩;have hch0:A9 n lab 0 []:=⟨Gd,λj=>⟨(λh=>by simp at h),(λ⟨y,_,h1,h2⟩=>by omega)⟩,(λ_ h=>nomatch h)⟩;refine(jh)<|(ce) ?_;refine cI (oH []) (λhp al=>λx hx=>nomatch hx) ?_;refine(cJ)<|(nz)<|aU [(10,13),(15,15),(17,17),(79,133)] (λ(y:Nat×List Int×List PI×Value×List ae)=>y.1<=8/\vg n y.2.1 (y.2.2.1.map PI.l) []/\A9 n lab (y.1:Int) (y.2.2.1.map PI.l)/\PB y.2.2.2.1 y.2.2.1 y.2.2.2.2) (λy=>[(10,iv y.1)]) (λy=>[oH y.2.2.1]) (λy=>y.2.2.2.2++[u9 gs bs,DH ga (y.2.1),bL r6 28 (AD w h (.slice (some ⟨gs,0,none⟩) n n) (.slice (some ⟨ga,0,none⟩) n n) (y.2.2.2.1))]) (λy=>8-y.1) ((0,ofl,[],.slice none 0 0,[])) (⟨bf _,hof0,hch0,aJ.nil 22 1⟩) λ⟨c,ofl1,ps,pv,pB⟩ fr1 ⟨c5,c6,c7,c8⟩=>?_;dsimp only at c5 c6 c7 c8;obtain⟨p4,c4,rfl⟩:=c8.shape;have hpsn:=akK c7 hl;rw[cP] at hpsn;refine(eE)<|(C5)<|(aN)<|ao ?_ ?_
  ·intro hc80;have hlt8:c<8:=by have:=of_decide_eq_true hc80;dsimp only at this;omega
   refine(j5)<|(OC) ?_;refine iM (m:=4*(w:Int)) O O O ⟨aa,aa⟩ O ?_;refine(aB) ?_;refine iM (m:=(n:Int)) O O hz ⟨aa,aa⟩ O ?_;refine ml (e:=4) (size:=1) ab O O O O O O (zl:=[.bool false]) nA O (l:=n) (cp:=n) O O (bg _) O (by show n*1<=_;omega) O λg16=>?_;rw[DG];refine(cN)<|(aq) ?_;intro r11;refine(cu)<|(eE)<|(gW)<|aU [(12,13),(93,105)] (λ(y:Nat×List Bool)=>y.1<=n/\y.2.length=n/\∀j,j<y.1->y.2[j]? =some (decide (lab.getD j (-5)=(c:Int)))) (λy=>[(93,iv y.1)]) (λ_=>[]) (λy=>pB++[u9 g16 y.2,bL r11 25 [iv w,iv h,.slice (some ⟨g16,0,none⟩) n n],u9 gs bs,DH ga (ofl1),bL r6 28 (AD w h (.slice (some ⟨gs,0,none⟩) n n) (.slice (some ⟨ga,0,none⟩) n n) (.slice p4 ps.length c4))]) (λy=>n-y.1) ((0,List.replicate n false)) (⟨bf _,by simp,(λj hj=>absurd hj (iZ _))⟩) λ⟨i,mk⟩ fr2 ⟨d5,d6,d7⟩=>?_;dsimp only at d5 d6 d7;refine(cM)<|ao ?_ ?_
   ·intro hc94;have hlt:i<n:=by have:=of_decide_eq_true hc94;dsimp only at this;omega
    obtain⟨y,hy⟩:∃y,lab[i]? =some y:=⟨_,aG aa⟩;have hyd:lab.getD i (-5)=y:=by simp[List.getD,hy]
    refine(rK) ?_;refine cU (size:=1) (i:=i) ab O O O O O aa mA aa (flat_take (F:=zE) (λ_ _=>O) hy) O λ_ _=>(fM)<|(gb)<|(bt)<|(rI)<|(FA)<|(mD)<|(kT) ?_;refine bp (s:=1) (i:=i) ab O O O O O aa aa O ?_;refine sp (F:=bE) (k:=1) (l:=mk) (j:=i) (tl:=[]) ab O (λ_=>O) (decide (y=(c:Int))) O aa O O O O aa uA<|(rM) ?_;exact⟨(i+1,mk.set i (decide (y=(c:Int)))),oA,⟨by dsimp only;omega,by simp[d6],by dsimp only;rw[<-hyd];exact Eh (f:=λj=>decide (lab.getD j (-5)=(c:Int))) aa d7⟩,lA,kA,fA,hA⟩
   ·intro hc94;have hge2:i=n:=by have:=of_decide_eq_false hc94;dsimp only at this;omega
    have hmi:=ae6 (lab:=lab) (c:=(c:Int)) hl d6 (by rw[<-hge2];exact d7);refine(jh) ?_;refine dl (r:=g16) tA ?_;refine cI (Ay (some ⟨g16,0,none⟩) mk n) (λhp al=>Wy d6 aa aa (al _ (.head _))) ?_;have hpa:=ad4 (p:=some ⟨g16,0,none⟩) (cp:=n) (bs:=mk) hs hw hh (by rw[d6];exact hn);rw[d6] at hpa;refine(cJ)<|(lQ)<|aI eA call10 (hpa) λv1 Fs1 ⟨p1,qs,c1,hP,e1,e2⟩=>?_;subst e1;subst e2;obtain⟨hqn,hql⟩:=ad5 hP d6;rw[cP] at hqn;have hnext:=c7.next aa hmi hP;refine cL (bF 1 (.slice p1 qs.length c1) qs.length (qs.flatMap PI.c)) (λhp al=>(al (q8 p1 qs c1) mA).1) ?_;refine cL (oH qs) (λhp al=>(al (q8 p1 qs c1) mA).2)<|(gW)<|aU [(15,15),(17,17),(109,133)] (λ(y:Nat×List Int×Value×List ae)=>y.1<=qs.length/\vg n y.2.1 ((ps++qs.take y.1).map PI.l) []/\PB y.2.2.1 (ps++qs.take y.1) y.2.2.2) (λy=>[(109,iv y.1)]) (λ_=>[]) (λy=>y.2.2.2++[bL r11 25 [iv w,iv h,.slice (some ⟨g16,0,none⟩) n n],u9 gs bs,DH ga (y.2.1),bL r6 28 (AD w h (.slice (some ⟨gs,0,none⟩) n n) (.slice (some ⟨ga,0,none⟩) n n) (y.2.2.1))]) (λy=>qs.length-y.1) ((0,ofl1,.slice p4 ps.length c4,pB)) (⟨bf _,by simpa using c6,by simpa using c8⟩) λ⟨i3,ofl3,pv3,pB3⟩ fr3 ⟨e5,e6,e7⟩=>?_;dsimp only at e5 e6 e7;obtain⟨p7,c7',rfl⟩:=e7.shape;refine(cM)<|ao ?_ ?_
    ·intro hc110;have hlt3:i3<qs.length:=by have:=of_decide_eq_true hc110;dsimp only at this;omega
     obtain⟨x,hx⟩:∃x,qs[i3]? =some x:=⟨_,aG hlt3⟩;have hxm:=bn hx;obtain⟨hxl,hxlen⟩:=hql x.l (aM.2 ⟨x,hxm,rfl⟩);have hxno:=aey hnext.nd hx;have hlen3:(ps++qs.take i3).length=ps.length+i3:=by rw[aW,lV];omega
     refine cI x.fact (λhp al=>al (oH qs) mA x hxm)<|(ix) ?_;refine cU (size:=1) (i:=i3) ab O O O O O aa mA aa (flat_take (F:=PI.c) (λ_ _=>O) hx) O λ_ _=>?_;refine az ab O O O (cY (j:=0) (aR (xs:=[.slice x.p x.l.length x.cp]) mA) O) O<|(nu)<|aU [(17,17),(115,126)] (λ(y:Nat×List Int)=>y.1<=x.l.length/\vg n y.2 ((ps++qs.take i3).map PI.l) (x.l.take y.1)) (λy=>[(115,iv y.1)]) (λ_=>[]) (λy=>pB3++[bL r11 25 [iv w,iv h,.slice (some ⟨g16,0,none⟩) n n],u9 gs bs,DH ga (y.2),bL r6 28 (AD w h (.slice (some ⟨gs,0,none⟩) n n) (.slice (some ⟨ga,0,none⟩) n n) (.slice p7 (ps++qs.take i3).length c7'))]) (λy=>x.l.length-y.1) ((0,ofl3)) (⟨bf _,e6⟩) λ⟨k,ofl4⟩ fr4 ⟨f5,f6⟩=>?_;dsimp only at f5 f6;have f7:=f6.len;refine(cM)<|ao ?_ ?_
     ·intro hc116;have hlk:k<x.l.length:=by have:=of_decide_eq_true hc116;dsimp only at this;omega
      obtain⟨m,hm⟩:∃m,x.l[k]? =some m:=⟨_,aG hlk⟩;have hmn:=hxl m (bn hm);have hst:=f6.set hmn (hxno m (bn hm));rw[cP] at hst;refine(ix) ?_;refine cU (size:=1) (i:=k) ab O O O O O aa mA aa (flat_take (F:=iq) (λ_ _=>O) hm) O λ_ _=>(fM)<|(bt)<|(rI)<|(Xj)<|(aB)<|(cQ)<|(Jp)<|(dH) ?_;refine bp (s:=1) (i:=m) ab O O O O O aa aa O ?_;refine sp (F:=zE) (k:=1) (l:=ofl4) (j:=m) (tl:=[]) ab O (λ_=>O) ((ps++qs.take i3).length:Int) O aa O O O O aa uA<|(rM) ?_;exact⟨(k+1,ofl4.set m ((ps++qs.take i3).length:Int)),oA,⟨by dsimp only;omega,by dsimp only;rw[dO hm];exact hst⟩,lA,kA,fA,hA⟩
     ·intro hc116;have hgek:k=x.l.length:=by have:=of_decide_eq_false hc116;dsimp only at this;omega
      rw[hgek,dg] at f6;have hcl:=f6.close;refine(eG)<|(rI)<|(Jp)<|(aB)<|(eD) ?_;intro b130;refine di (e:=22) (size:=1) (news:=[.slice x.p x.l.length x.cp]) ab O O O O O O O (B:=pB3) tA e7 O (bD mA) O O dp (by show((ps++qs.take i3).length+1)*24<=_;omega) O λv' B' hs'=>?_;have hs2:PB v' (ps++qs.take (i3+1)) B':=by rw[dO hx,<-cG];exact PB.snoc (x:=x) hs'
      obtain⟨p8,c8',rfl⟩:=hs2.shape;refine(cQ) ?_;refine cS ab O (cs:=AD w h (.slice (some ⟨gs,0,none⟩) n n) (.slice (some ⟨ga,0,none⟩) n n) (.slice p7 (ps++qs.take i3).length c7')) (cs':=AD w h (.slice (some ⟨gs,0,none⟩) n n) (.slice (some ⟨ga,0,none⟩) n n) (.slice p8 (ps++qs.take (i3+1)).length c8')) O O O O O O O uA<|(rM) ?_;exact⟨(i3+1,ofl4,_,B'),oA,⟨by dsimp only;omega,by dsimp only;rw[dO hx,<-cG,dX];exact hcl,hs2⟩,lA,kA,fA,hA⟩
    ·intro hc110;have hge3:i3=qs.length:=by have:=of_decide_eq_false hc110;dsimp only at this;omega
     rw[hge3,dg] at e6 e7;rw[hge3,dg];refine cI (oH (ps++qs)) (λhp al=>λx hx=>by{rcases bB.1 hx with hx|hx;exact al (oH ps) mA x hx;exact al (oH qs) mA x hx})<|(eG)<|(jM) ?_;exact⟨(c+1,ofl3,ps++qs,.slice p7 (ps++qs).length c7',pB3),oA,⟨by dsimp only;omega,e6,by dsimp only;rw[dX];exact hnext,e7⟩,lA,kA,fA,hA⟩
  ·intro hc80;have hc8:c=8:=by have:=of_decide_eq_false hc80;dsimp only at this;omega
   subst hc8;refine(jh) ?_;rcases dL 60 ps.length with h60|h60
   ·refine(cJ)<|(lQ)<|(cQ)<|(Jp)<|(dH) ?_;refine aL O O (iF (p:=(ps.length:Int)<=60) aa) O<|(de)<|(gw) ?_;exact⟨.inl ⟨⟨w,h,_,_,_,⟨O,O,O⟩,O⟩,O⟩,O⟩
   ·refine dl (r:=ga) tA ?_;refine cI (pp (some ⟨ga,0,none⟩) ofl1 n) (λhp al=>XQ c6.len aa aa (al _ (.head _))) ?_;refine eN c8 tA ?_;refine cI (q8 p4 ps c4) (λhp al=>⟨al _ (.head _),al (oH ps) mA⟩) ?_;have hfin:Dg n lab ofl1 (ps.map PI.l):=⟨c7,c6,by rw[cP];exact h60⟩;have hol:=c6.len;refine(cJ)<|(lQ)<|(cQ)<|(Jp)<|(dH) ?_;refine aL O O (iT (p:=(ps.length:Int)<=60) aa) O<|(de)<|(bO)<|aH [pp (some ⟨ga,0,none⟩) ofl1 n,q8 p4 ps c4] [] ?_;exact⟨.inr ⟨some ⟨gs,0,none⟩,some ⟨ga,0,none⟩,p4,n,n,c4,ofl1,ps,hfin,by rw[hol];rfl,O⟩,O⟩
end Go.Proofs
namespace Go.Proofs
open Tryz
open Go.V Go.Tiles Go.Edges
theorem Rr {α:Type} {X:List α} {seen:List Nat} (hs:eO X.length seen) (hall:∀i,i<X.length->i∈seen):(seen.filterMap λi=>X[i]?).Perm X:=by
 have hp:seen.Perm (List.range X.length):=(zS hs.nd PF).2 λa=>⟨λh=>nL.2 (hs.lt a h),λh=>hall a (nL.1 h)⟩;refine(hp.filterMap _).trans ?_;have key:∀X:List α,(List.range X.length).filterMap (λi=>X[i]?)=X:=by
  intro X
  induction X with
  |nil=>rfl
  |cons a X ih=>
   rw[cE,List.range_succ_eq_map,Dr,List.filterMap_map];simp only[List.getElem?_cons_zero,uG];congr 1
 rw[key X]
variable {p:Option Addr} {cp:Nat} {lab:List Int}
def Fa (lab:List Int) (w h:Int):cZ:=λv Fs' L'=>(∃(a b:Int) (v3 v4 v5:Value) (ok:Bool),(v3.oneCell'=true/\v4.oneCell'=true/\v5.oneCell'=true)/\v= .tuple #[.agg #[iv a,iv b,v3,v4,v5],.bool ok]/\
 ((ok=false/\Fs'=[])\/(ok=true/\∃(w' h':Nat) (pi po pc:Option Addr) (ci co cc:Nat) (ofl:List Int) (ps:List PI),((w=(w':Int)/\h=(h':Int))/\(1<=w'/\w'<=5)/\(1<=h'/\h'<=5)/\lab.length=4*w'*h')/\Dg (4*w'*h') lab ofl (ps.map PI.l)/\
  (a=(w':Int)/\b=(h':Int)/\v3= .slice pi (4*w'*h') ci/\v4= .slice po ofl.length co/\v5= .slice pc ps.length cc)/\Fs'=[pp po ofl co,q8 pc ps cc])))/\L'=[]
theorem akH {w h:Int} (h64:∀y∈lab,oS y):ai prog 4 [iv w,iv h,.slice p lab.length cp].toArray [pp p lab cp] [] (Fa lab w h):=by
 by_cases hg:(1<=w/\w<=5)/\(1<=h/\h<=5)/\(lab.length:Int)=4*w*h
 ·obtain⟨hw,hh,hl⟩:=hg;obtain⟨w',rfl⟩:∃w':Nat,w=(w':Int):=⟨w.toNat,aa⟩;obtain⟨h',rfl⟩:∃h':Nat,h=(h':Int):=⟨h.toNat,aa⟩;have hl':lab.length=4*w'*h':=by
   have e:(4*(w':Int)*(h':Int))=((4*w'*h':Nat):Int):=by simp
   rw[e] at hl;exact Int.ofNat.inj hl
  refine pg (akI (K7 aa aa aa aa) aa aa hl' h64) λv Fs' L' hQ=>?_;obtain⟨hQ,e3⟩:=hQ;refine⟨?_,e3⟩;rcases hQ with⟨⟨a,b,v3,v4,v5,h1,h2⟩,h3⟩|⟨pi,po,pc,ci,co,cc,ofl,ps,h1,h2,h3⟩
  ·exact⟨a,b,v3,v4,v5,false,h1,h2,.inl ⟨O,h3⟩⟩
  ·exact⟨_,_,_,_,_,true,⟨O,O,O⟩,h2,.inr ⟨O,w',h',pi,po,pc,ci,co,cc,ofl,ps,⟨⟨O,O⟩,aa,aa,hl'⟩,h1,⟨O,O,O,O,O⟩,h3⟩⟩
 ·refine pg (akJ aa) ?_;intro v Fs' L' hQ;obtain⟨⟨⟨a,b,v3,v4,v5,h1,h2⟩,h3⟩,e3⟩:=hQ;exact⟨⟨a,b,v3,v4,v5,false,h1,h2,.inl ⟨O,h3⟩⟩,e3⟩
def qf (b:IP×IP):Bool:=decide (b.1.1=b.2.1)||decide (b.1.2=b.2.2)
def nV (l:List (IP×IP)):Nat:=(l.filter qf).length
def nS (l:List (IP×IP)):Nat:=(l.filter λb=>!qf b).length
theorem afe {l m:List (IP×IP)} (h:l.Perm m):nV l=nV m/\nS l=nS m:=⟨(h.filter _).length_eq,(h.filter _).length_eq⟩
def yX (w h:Nat) (ps:List (List Nat)) (U:List (IP×IP)):Prop:=U.Nodup/\∀b,b∈U↔∃l∈ps,∃x∈fk w h (Sm l) l,b=nb x
def NC (y level steep:Nat):Option Nat:=(jd y (FloatKind.f64.nearest ((2*level:Nat):Int))).bind λt=>(jm (FloatKind.f64.nearest ((steep:Nat):Int)) 4609047870845172685).bind λm=>jd t m
def O0 (y level steep:Nat):Prop:=∃f,NC y level steep=some f/\jn f 4517110426252607488=true/\fJ f 13740482463107383296=true
def E3 (xs:List IG):an where
 p h:=∀x∈xs,(wj x).p h
 mono:=λhle h x hx=>(wj x).mono hle (h x hx)
theorem Wo {n:Nat} {lab ofl:List Int} {ps:List (List Nat)} (hl:lab.length=n) (h:Dg n lab ofl ps):∀l∈ps,AM n l:=λl hl'=>by
 refine⟨?_,λm hm=>?_⟩
 ·obtain⟨i,hi⟩:=lg hl';have hnd:=h.ch.nd;rw[xM hi,o0,oX] at hnd;exact(uF.1 (uF.1 hnd).2.1).1
 ·obtain⟨y,hy,_⟩:=(h.ch.mem m).1 (xb.2 ⟨l,hl',hm⟩);rw[<-hl];exact da hy
theorem akN {n:Nat} {lab ofl:List Int} {ps:List (List Nat)} (h:Dg n lab ofl ps) {k:Nat} {l:List Nat} (hk:ps[k]? =some l):Oo ofl l (k:Int):=by
 refine⟨λj hj=>h.of.yes k l hk j hj,λj hj y hy e=>?_⟩;have hjn:j<n:=by rw[<-h.of.len];exact da hy
 by_cases hf:j∈ps.flatten
 ·obtain⟨l',hl',hj'⟩:=xb.1 hf;obtain⟨i,hi⟩:=lg hl';have:=h.of.yes i l' hi j hj';rw[hy,e] at this;have hik:i=k:=by cases this;rfl
  subst hik;rw[hi] at hk;cases hk;exact hj hj'
 ·have:=h.of.no j hjn hf (λhh=>nomatch hh);rw[hy,e] at this;have:(k:Int)= -1:=iD this;omega
theorem yX.snoc {w h:Nat} {ps:List (List Nat)} {l:List Nat} {U U':List (IP×IP)} (h1:yX w h ps U) (hn:U'.Nodup) (hm:∀b,b∈U'↔b∈U\/b∈sF (fk w h (Sm l) l)):yX w h (ps++[l]) U':=by
 refine⟨hn,λb=>?_⟩;rw[hm,h1.2,(IA _).2];constructor
 ·rintro(⟨l',h2,h3⟩|h3)
  ·exact⟨l',bq _ h2,h3⟩
  ·exact⟨l,bI _ (.head _),h3⟩
 ·rintro⟨l',h2,h3⟩;rcases bB.1 h2 with h2|h2
  ·exact .inl ⟨l',h2,h3⟩
  ·simp at h2;subst h2;exact .inr h3
def WY (a:Addr) (lab:List Int):Prop:=∀(w h:Nat) (ofl:List Int) (ps:List (List Nat)) (xs:List LG),(1<=w/\w<=5)->(1<=h/\h<=5)->lab.length=4*w*h->Dg (4*w*h) lab ofl ps->iX (A3 w h) xs ps->
 ∀(igs:List IG) (q:Option Addr) (c:Nat),igs.map (·.ls)=xs.map LG.lss->
  ai prog 8 [.slice q igs.length c].toArray [Cp q igs c,aO 1 0 [iH a]] [] (λv Fs' L'=>(∃lss w',(lx lss/\∀U,yX w h ps U->∃y,ED lss=some y/\O0 y (nV U) (nS U))/\tY lss w' Fs'/\v= .tuple #[w',.bool true])/\L'=[])
def Wm (w h n:Nat):Bool:=match Go.Tiles.bey w h n (if n%4=0 then 0 else 2) with
 |some j=>Nat.blt j n
 |none=>true
def akB:Bool:=gJ.all λs=>(List.range (4*s.1*s.2)).all λn=>Wm s.1 s.2 n
theorem akA:akB=true:=by decide+kernel
theorem Tn:∀(l:List Nat),l≠[]->∃m∈l,∀j∈l,m<=j
 |[],h=>absurd rfl h
 |[a],_=>⟨a,.head _,λj hj=>by simp at hj;omega⟩
 |a::b::l,_=>by
  obtain⟨m,h1,h2⟩:=Tn (b::l) dK;by_cases h:a<=m
  ·refine⟨a,.head _,λj hj=>?_⟩;rcases bm.1 hj with rfl|hj
   ·exact bg _
   ·have:=h2 j hj;omega
  ·refine⟨m,.tail _ h1,λj hj=>?_⟩;rcases bm.1 hj with rfl|hj
   ·omega
   ·exact h2 j hj
theorem ajL {w h:Nat} (hs:(w,h)∈gJ) {l:List Nat} (hp:AM (4*w*h) l) (h0:l≠[]):fk w h (Sm l) l≠[]:=by
 obtain⟨m,h1,h2⟩:=Tn l h0;have h3:=kD.1 (kD.1 akA _ hs) m (nL.2 (hp.lt m h1));have hmem:eC w m (if m%4=0 then 0 else 2)∈fk w h (Sm l) l:=by
  rw[Im];refine aM.2 ⟨(m,if m%4=0 then 0 else 2),uJ.2 ⟨Ey.2 ⟨h1,by dsimp only;split<;>decide⟩,?_⟩,O⟩;unfold sk;dsimp only;unfold Wm at h3;cases hb:Go.Tiles.bey w h m (if m%4=0 then 0 else 2) with
  |none=>rfl
  |some j=>
   rw[hb] at h3;rw[vM] at h3;have:j∉l:=λhj=>by have:=h2 j hj;omega
   simp[Sm,this]
 intro e;rw[e] at hmem;cases hmem
theorem af6 {w h:Nat} (hs:(w,h)∈gJ) (hn:w*h<=25) {x:LG} {l:List Nat} (hx:A3 w h x l) (hp:AM (4*w*h) l) (h0:l≠[]):lx x.lss/\0<x.lss.length:=by
 have h1:=uN hp.nd hp.lt;have h2:l.length<=100:=by rw[nK] at h1;omega
 obtain⟨h3,h4⟩:=Mq hx (yP (w:=w) (h:=h) (S:=Sm l) l);have hll:x.lss.length=x.ls.length:=cP _;refine⟨⟨aa,λy hy=>?_⟩,?_⟩
 ·obtain⟨z,hz,rfl⟩:=aM.1 hy;have h5:=hx.len z hz;have h6:=h4 z hz;rw[cP];omega
 ·rw[hll];apply DD.2;intro e;have hpp:=hx.perm;rw[e] at hpp;exact ajL hs hp h0 (List.Perm.eq_nil hpp.symm)
end Go.Proofs
namespace Go.Proofs
open Tryz
open Go.V Go.Tiles Go.Edges
variable {p:Option Addr} {cp:Nat} {lab:List Int} {a:Addr}
abbrev NY (w h n:Nat) (pi po pc:Option Addr) (ci co cc k m:Nat):List Value:=[iv w,iv h,.slice pi n ci,.slice po k co,.slice pc m cc]
theorem yX.len {w h k:Nat} {ps:List (List Nat)} {U:List (IP×IP)} (h1:yX w h ps U) (hk:∀l∈ps,l.length<=k):U.length<=3*k*ps.length:=by
 have hsub:∀b∈U,b∈ps.flatMap λl=>(fk w h (Sm l) l).map nb:=λb hb=>by
  obtain⟨l,hl,x,hx,e⟩:=(h1.2 b).1 hb;exact mO.2 ⟨l,hl,aM.2 ⟨x,hx,e.symm⟩⟩
 have h2:=tj h1.1 hsub;refine tc h2 ?_;clear h2 hsub h1
 induction ps with
 |nil=>simp
 |cons l ps ih=>
  have h3:=ih λl hl=>hk l (.tail _ hl);have h4:=yP (w:=w) (h:=h) (S:=Sm l) l;have h5:=hk l (.head _);rw[dC,aW,cP,cE,Nat.mul_succ];omega
theorem afg (b:IP×IP):(b.1.1=b.2.1/\qf b=true)\/(¬b.1.1=b.2.1/\b.1.2=b.2.2/\qf b=true)\/(¬b.1.1=b.2.1/\¬b.1.2=b.2.2/\qf b=false):=by
 unfold qf;by_cases h1:b.1.1=b.2.1
 ·exact .inl ⟨h1,by simp[h1]⟩
 ·by_cases h2:b.1.2=b.2.2
  ·exact .inr (.inl ⟨h1,h2,by simp[h2]⟩)
  ·exact .inr (.inr ⟨h1,h2,by simp[h1,h2]⟩)
theorem Hw {b:IP×IP} {xs:List (IP×IP)} {l s:Nat} (h:qf b=true) (h1:l=nV xs) (h2:s=nS xs):l+1=nV (xs++[b])/\s=nS (xs++[b]):=by
 subst h1;subst h2;unfold nV nS;simp[Pv,h]
theorem QW {b:IP×IP} {xs:List (IP×IP)} {l s:Nat} (h:qf b=false) (h1:l=nV xs) (h2:s=nS xs):l=nV (xs++[b])/\s+1=nS (xs++[b]):=by
 subst h1;subst h2;unfold nV nS;simp[Pv,h]
theorem iX.length_eq {α β:Type} {R:α->β->Prop} {l:List α} {m:List β} (h:iX R l m):l.length=m.length:=by
 induction h with
 |nil=>rfl
 |cons _ _ ih=>simp[ih]
theorem iX.left {α β:Type} {R:α->β->Prop} {l:List α} {m:List β} (h:iX R l m):∀x∈l,∃y∈m,R x y:=by
 induction h with
 |nil=>intro x hx;cases hx
 |cons h1 _ ih=>
  intro x hx;rcases bm.1 hx with rfl|hx
  ·exact⟨_,.head _,h1⟩
  ·obtain⟨y,hy,hr⟩:=ih x hx;exact⟨y,.tail _ hy,hr⟩
theorem af5 {w h:Nat} {xs:List LG} {ps:List (List Nat)} (hs:(w,h)∈gJ) (hn:w*h<=25) (hA:iX (A3 w h) xs ps) (hp:∀l∈ps,AM (4*w*h) l) (h0:∀l∈ps,l≠[]):∀x∈xs,lx x.lss/\0<x.lss.length:=λx hx=>by
 obtain⟨l,hl,hr⟩:=hA.left x hx;exact af6 hs hn hr (hp l hl) (h0 l hl)
theorem aer {a b:Int} {p3 p4:Value} (h3:p3.oneCell'=true) (h4:p4.oneCell'=true):gN [iv a,iv b,p3,p4]=true:=by
 refine kD.2 ?_;intro x hx;simp only[bm,oY,or_false] at hx;rcases hx with rfl|rfl|rfl|rfl
 ·rfl
 ·rfl
 ·exact h3
 ·exact h4
theorem afb {w h:Int} (h64:∀y∈lab,oS y) (hU:WY a lab):ai prog 3 [iv w,iv h,.slice p lab.length cp].toArray [pp p lab cp,aO 1 0 [iH a]] [] (Is (.bool true)):=by
 refine am func3 λ_=>(wB)<|(dH)<|(sJ)<|ao ?_ ?_
 ·intro hc24;exact(ba)<|mG
 ·intro hc24;refine(bX)<|(OC)<|aI eA call4 (akH (p:=p) (cp:=cp) (lab:=lab) (w:=w) (h:=h) h64) λv1 Fs1 ⟨a1,b1,v3,v4,v5,ok,⟨o3,o4,o5⟩,e1,hcase⟩=>?_;subst e1;refine(x5) ?_;intro r7;refine(de)<|(iC)<|(Ja)<|ao ?_ ?_
  ·intro hc33;exact(ba)<|mG
  ·intro hc33;have hok:ok=true:=by simpa using hc33
   rcases hcase with⟨e2,_⟩|⟨_,w',h',pi,po,pc,ci,co,cc,ofl,ps,⟨⟨rfl,rfl⟩,hw,hh,hl⟩,hch,⟨rfl,rfl,rfl,rfl,rfl⟩,e2⟩
   ·rw[hok] at e2;cases e2
   subst e2;have hs:=K7 hw.1 hw.2 hh.1 hh.2;have hwh:w'*h'<=5*5:=uD hw.2 hh.2;have hpt:=Wo hl hch;have hfew:=hch.few;rw[cP] at hfew;have hofl:=hch.of.len;obtain⟨n,hn⟩:∃n,n=4*w'*h':=⟨_,rfl⟩;have hn100:n<=100:=by rw[hn,nK];omega
   refine(om) ?_;refine dl (r:=r7) tA ?_;refine cI (bF 1 (.slice pc ps.length cc) ps.length (ps.flatMap PI.c)) (λhp al=>(al (q8 pc ps cc) mA).1) ?_;refine cI (oH ps) (λhp al=>(al (q8 pc ps cc) mA).2)<|(cJ)<|(AZ) ?_;intro rm;refine(rD)<|(cQ) ?_;refine az ab O O O (cY (j:=4) (aR (xs:=NY w' h' (4*w'*h') pi po pc ci co cc ofl.length ps.length) mA) O) O<|(gW)<|aU [(11,12),(38,52)] (λ(y:Nat×List (IP×IP))=>y.1<=ps.length/\yX w' h' ((ps.take y.1).map PI.l) y.2) (λy=>[(38,iv y.1)]) (λ_=>[]) (λy=>[(rm,bW (iP y.2))]) (λy=>ps.length-y.1) ((0,[])) (⟨bf _,Gd,λb=>⟨(λh=>nomatch h),(λ⟨_,h,_⟩=>nomatch h)⟩⟩) λ⟨i,U⟩ fr ⟨h5,h6⟩=>?_;dsimp only at h5 h6;refine(cM)<|ao ?_ ?_
   ·intro hc39;have hlt:i<ps.length:=by have:=of_decide_eq_true hc39;dsimp only at this;omega
    obtain⟨x,hx⟩:∃x,ps[i]? =some x:=⟨_,aG hlt⟩;have hxm:=bn hx;have hxp:=hpt x.l (aM.2 ⟨x,hxm,rfl⟩);have hxo:=akN hch (k:=i) (l:=x.l) (by rw[iY,hx];rfl);refine cI x.fact (λhp al=>al (oH ps) mA x hxm) ?_;have hbs:=IA (fk w' h' (Sm x.l) x.l);obtain⟨bs,hbe⟩:∃bs,bs=sF (fk w' h' (Sm x.l) x.l):=⟨_,rfl⟩;refine(ix) ?_;refine cU (size:=1) (i:=i) ab O O O O O aa mA aa (flat_take (F:=PI.c) (λ_ _=>O) hx) O λ_ _=>?_;refine az ab O O O (cY (j:=0) (aR (xs:=[.slice x.p x.l.length x.cp]) mA) O) O<|(fo) ?_;refine aK ab O O O (aR (xs:=NY w' h' (4*w'*h') pi po pc ci co cc ofl.length ps.length) mA) O O<|(aB)<|aS eA call5 (akZ (w:=w') (h:=h') (pi:=pi) (ci:=ci) (po:=po) (co:=co) (ofl:=ofl) (v5:= .slice pc ps.length cc) (p:=x.p) (cp:=x.cp) (part:=x.l) (k:=(i:Int)) hs hw hh O O hofl hxp hxo) λv2 Fs2 L2 ⟨rb,e3,e4,e5⟩=>?_;subst e3;subst e4;subst e5;rw[<-hbe];have hbl:(iP bs).length=bs.length:=cP _;refine uS ab O O O (eo (kvs:=iP bs) mA) O λri=>(dF)<|aU [(12,12),(46,51)] (λ(y:List Nat×List (IP×IP))=>eO (iP bs).length y.1/\(y.2.Nodup/\∀b,b∈y.2↔b∈U\/b∈(y.1.filterMap λi=>bs[i]?))) (λ_=>[]) (λ_=>[]) (λy=>(ri,jH rb (iP bs).length y.1)::[(rb,bW (iP bs)),(rm,bW (iP y.2))]) (λy=>(iP bs).length-y.1.length) (([],U)) (⟨eO.nil,h6.1,λb=>by simp⟩) λ⟨seen,U2⟩ fr2 ⟨l5,l6,l7⟩=>?_;dsimp only at l5 l6 l7;refine(ba) ?_;refine uU (m:=rb) (kvs:=iP bs) (seen:=seen) O (eo mA) mA (λ_=>uA) O O λo ho=>?_;refine sC O (uM o) O<|(cn)<|ao ?_ ?_
    ·intro hc47;obtain⟨⟨i2,q⟩,rfl⟩:=uE.1 hc47;obtain⟨hq,hns,hil⟩:=ho.one i2 q rfl;have hlt2:=l5.lt_of hns hil;obtain⟨b,hb,rfl⟩:=sd (F:=λb:IP×IP=>(wn b,Value.bool true)) rfl hq;refine(uf) ?_;refine uV (m:=rb) (kvs:=iP bs) (seen:=seen) (i:=i2) O (eo mA) mA hq O<|(kR)<|(aq) ?_;intro r12;refine(cu)<|(aY)<|(lQ) ?_;refine qZ ab O O MP O (u:=wn b) (v:= .bool true) O O (kvs:=iP U2) (kvs':=iP (fX U2 b)) (Ao N8 _ _ _) uA (MI _ _)<|(aN)<|(ir) ?_;exact⟨(seen++[i2],fX U2 b),by dsimp only;rw[aW];simp only[dZ];omega,⟨l5.snoc hns hil,RY l6 b,λy=>by{dsimp only;rw[qd,l7,XO,bB];simp only[Dr,hb,Pu,List.mem_singleton,or_assoc]}⟩,lA,kA,fA,hA⟩
    ·intro hc47;have hall:=ho.all (by cases o with|none=>rfl|some y=>cases hc47);have hpm:=Rr (X:=bs) (by rw[<-hbl];exact l5) (by rw[<-hbl];exact hall);have hnx:yX w' h' ((ps.take (i+1)).map PI.l) U2:=by rw[dO hx,dX];exact h6.snoc l6 (λb=>by rw[l7,hpm.mem_iff,hbe])
     refine(eG)<|(lO) ?_;exact⟨(i+1,U2),oA,⟨by dsimp only;omega,hnx⟩,lA,kA,fA,hA⟩
   ·intro hc39;have hge:i=ps.length:=by have:=of_decide_eq_false hc39;dsimp only at this;omega
    rw[hge,dg] at h6;have hUl:(iP U).length=U.length:=cP _;have hUlen:=h6.len (k:=100) (λl hl'=>by have:=hpt l hl';have:=uN this.nd this.lt;omega);rw[cP] at hUlen;refine(y9)<|(gb)<|(iC) ?_;refine uS ab O O O (eo (kvs:=iP U) mA) O λrj=>(dF)<|aU [(13,15),(55,78)] (λ(y:List Nat×List (IP×IP)×Nat×Nat)=>eO (iP U).length y.1/\y.2.1=(y.1.filterMap λi=>U[i]?)/\y.2.2.1=nV y.2.1/\y.2.2.2=nS y.2.1/\y.2.2.1+y.2.2.2<=y.1.length) (λy=>[(13,iv y.2.2.1),(14,iv y.2.2.2)]) (λ_=>[]) (λy=>(rj,jH rm (iP U).length y.1)::[(rm,bW (iP U))]) (λy=>(iP U).length-y.1.length) (([],[],0,0)) (⟨eO.nil,O,O,O,bg _⟩) λ⟨seen3,xs3,lc,sc⟩ fr3 ⟨m5,m6,m7,m8,m9⟩=>?_;dsimp only at m5 m6 m7 m8 m9;have hle3:=m5.le;rw[hUl] at hle3;have hlc:lc+sc<=18000:=by omega
    refine(ba) ?_;refine uU (m:=rm) (kvs:=iP U) (seen:=seen3) O (eo mA) mA (λ_=>uA) O O λo ho=>?_;refine sC O (uM o) O<|(cn)<|ao ?_ ?_
    ·intro hc56;obtain⟨⟨i3,q⟩,rfl⟩:=uE.1 hc56;obtain⟨hq,hns,hil⟩:=ho.one i3 q rfl;have hlt3:=m5.lt_of hns hil;obtain⟨b,hb,rfl⟩:=sd (F:=λb:IP×IP=>(wn b,Value.bool true)) rfl hq;have hfm:(seen3++[i3]).filterMap (λi=>U[i]?)=xs3++[b]:=by rw[XO,m6];simp only[Dr,hb,Pu]
     have hcase:(b.1.1=b.2.1/\qf b=true)\/(¬b.1.1=b.2.1/\b.1.2=b.2.2/\qf b=true)\/(¬b.1.1=b.2.1/\¬b.1.2=b.2.2/\qf b=false):=afg b;refine(uf) ?_;refine uV (m:=rm) (kvs:=iP U) (seen:=seen3) (i:=i3) O (eo mA) mA hq O<|(kR)<|(aq) ?_;intro r15;refine(dS) ?_;rcases hcase with⟨k1,k3⟩|⟨k1,k2,k3⟩|⟨k1,k2,k3⟩
     ·refine(rF) ?_;refine aL O O (iT (p:=b.1.1=b.2.1) k1) O<|(oq)<|(jK)<|(pK)<|(aY) ?_;refine dD (a:=(lc:Int)) (b:=1) (m:=((lc+1:Nat):Int)) O O aa ⟨aa,aa⟩ O ?_;refine(iR) ?_;exact⟨(seen3++[i3],xs3++[b],lc+1,sc),by dsimp only;rw[aW];simp only[dZ];omega,⟨m5.snoc hns hil,hfm.symm,(Hw k3 m7 m8).1,(Hw k3 m7 m8).2,by dsimp only;rw[aW,dZ];omega⟩,lA,kA,fA,hA⟩
     ·refine(rF) ?_;refine aL O O (iF (p:=b.1.1=b.2.1) k1) O<|(aB)<|(iQ)<|(iQ)<|(Jq)<|(iQ)<|(iQ)<|(Xi) ?_;refine ah O O (aL O O (iT (p:=b.1.2=b.2.2) k2) O<|(gm)<|(vE)<|(aY) ?_);refine dD (a:=(lc:Int)) (b:=1) (m:=((lc+1:Nat):Int)) O O aa ⟨aa,aa⟩ O ?_;refine(iR) ?_;exact⟨(seen3++[i3],xs3++[b],lc+1,sc),by dsimp only;rw[aW];simp only[dZ];omega,⟨m5.snoc hns hil,hfm.symm,(Hw k3 m7 m8).1,(Hw k3 m7 m8).2,by dsimp only;rw[aW,dZ];omega⟩,lA,kA,fA,hA⟩
     ·refine(rF) ?_;refine aL O O (iF (p:=b.1.1=b.2.1) k1) O<|(aB)<|(iQ)<|(iQ)<|(Jq)<|(iQ)<|(iQ)<|(Xi) ?_;refine ah O O (aL O O (iF (p:=b.1.2=b.2.2) k2) O<|(vt)<|(gL)<|(aY) ?_);refine dD (a:=(sc:Int)) (b:=1) (m:=((sc+1:Nat):Int)) O O aa ⟨aa,aa⟩ O ?_;refine(iR) ?_;exact⟨(seen3++[i3],xs3++[b],lc,sc+1),by dsimp only;rw[aW];simp only[dZ];omega,⟨m5.snoc hns hil,hfm.symm,(QW k3 m7 m8).1,(QW k3 m7 m8).2,by dsimp only;rw[aW,dZ];omega⟩,lA,kA,fA,hA⟩
    ·intro hc56;have hall:=ho.all (by cases o with|none=>rfl|some y=>cases hc56);have hpm:=Rr (X:=U) (by rw[<-hUl];exact m5) (by rw[<-hUl];exact hall);rw[<-m6] at hpm;have hlvu:=afe hpm;rw[<-m7,<-m8] at hlvu;refine(y9)<|(rD) ?_;refine aK ab O O O (aR (xs:=NY w' h' (4*w'*h') pi po pc ci co cc ofl.length ps.length) mA) O O ?_;refine aI eA call6 (af4 (w:=w') (h:=h') (pi:=pi) (ci:=ci) (ov:= .slice po ofl.length co) (p:=pc) (cp:=cc) (ps:=ps) hs hw hh O O (λx hx=>hpt x.l (aM.2 ⟨x,hx,O⟩)) aa) λv7 Fs7 ⟨p5,xs,c5,hAll,e6,e7⟩=>?_;subst e6;subst e7;have hxg:=af5 hs aa hAll hpt hch.ch.ne;have hxl:=hAll.length_eq;rw[cP] at hxl;refine cL (bF 4 (.slice p5 xs.length c5) xs.length (xs.flatMap LG.c)) (λhp al=>(al (EZ p5 xs c5) mA).1) ?_;refine cL (xP xs) (λhp al=>(al (EZ p5 xs c5) mA).2) ?_;refine cL (E3 []) (λhp al=>λx hx=>nomatch hx) ?_;refine(gW)<|aU [(16,16),(18,18),(82,91)] (λ(y:Nat×Value×List ae×List IG)=>y.1<=xs.length/\y.2.2.2.map (·.ls)=(xs.take y.1).map LG.lss/\aJ 41 4 y.2.1 y.2.2.2.length (y.2.2.2.flatMap IG.cells) y.2.2.1) (λy=>[(82,iv y.1),(16,y.2.1)]) (λy=>[E3 y.2.2.2]) (λy=>y.2.2.1) (λy=>xs.length-y.1) ((0,.slice none 0 0,[],[])) (⟨bf _,O,aJ.nil 41 4⟩) λ⟨i,gv,gB,igs⟩ fr4 ⟨n5,n6,n7⟩=>?_;dsimp only at n5 n6 n7;obtain⟨gp,gc,rfl⟩:=n7.shape;have hil:igs.length=i:=by have:=congrArg List.length n6;simp only[cP,lV] at this;omega
     refine(cM)<|ao ?_ ?_
     ·intro hc83;have hlt4:i<xs.length:=by have:=of_decide_eq_true hc83;dsimp only at this;omega
      obtain⟨x,hx⟩:∃x,xs[i]? =some x:=⟨_,aG hlt4⟩;have hxm:=bn hx;obtain⟨hg1,hg2⟩:=hxg x hxm;refine cI (nj x.p x.lss x.cp) (λhp al=>al (xP xs) mA x hxm)<|(ix) ?_;refine cU (size:=4) (i:=i) ab O O O O O aa mA aa (flat_take (F:=LG.c) (λ_ _=>O) hx) O λ_ _=>?_;refine aK ab O O O (aR (xs:=LG.c x) mA) O O<|(aq) ?_;intro r18;refine(cu)<|(aY)<|(lQ)<|aI eA call7 (ahi (lss:=x.lss) (p:=x.p) (cp:=x.cp) hg1 hg2) λv8 Fs8 hw8=>?_;obtain⟨x1,x2,x3,x4,e9,o6,o7⟩:=BH hw8;subst e9;refine cL (wj ⟨x.lss,x1,x2,x3,x4⟩) (λhp al=>⟨Fs8,hw8,λy hy=>al y (bq _ hy)⟩)<|(eD) ?_;intro b89;refine di (e:=41) (size:=4) (news:=IG.cells ⟨x.lss,x1,x2,x3,x4⟩) ab O O O O O O O (B:=gB) tA n7 O (bD mA) O (aer o6 o7) dp (by show(igs.length+1)*64<=_;omega) O λv' B' hs'=>?_;have hs2:aJ 41 4 v' (igs++[(⟨x.lss,x1,x2,x3,x4⟩:IG)]).length ((igs++[(⟨x.lss,x1,x2,x3,x4⟩:IG)]).flatMap IG.cells) B':=by rw[aW,ft,zT];exact hs'
      refine cL (E3 (igs++[⟨x.lss,x1,x2,x3,x4⟩])) (λhp al=>λy hy=>by{rcases bB.1 hy with hy|hy;exact al (E3 igs) mA y hy;simp at hy;rw[hy];exact al (wj ⟨x.lss,x1,x2,x3,x4⟩) mA})<|(jr) ?_;exact⟨(i+1,v',B',igs++[⟨x.lss,x1,x2,x3,x4⟩]),oA,⟨by dsimp only;omega,by dsimp only;rw[dO hx,dX,dX,n6];rfl,hs2⟩,lA,kA,fA,hA⟩
     ·intro hc83;have hge4:i=xs.length:=by have:=of_decide_eq_false hc83;dsimp only at this;omega
      rw[hge4,dg] at n6;have hunion:=hU w' h' ofl (ps.map PI.l) xs hw hh hl hch hAll igs gp gc n6;refine(jh) ?_;refine eN n7 tA ?_;refine cI (Cp gp igs gc) (λhp al=>⟨al _ (.head _),al (E3 igs) mA⟩)<|(aY)<|aI eA call8 (hunion) λv9 Fs9 ⟨lss,w9,⟨hgl,hfar⟩,hpl,e10⟩=>?_;subst e10;obtain⟨z1,z2,z3,z4,e11,o8,o9⟩:=BH hpl;obtain⟨y,hy,f7,hf7,hf8,hf9⟩:=hfar U h6;rw[<-hlvu.1,<-hlvu.2] at hf7;simp only[NC,jO] at hf7;obtain⟨t1,ht1,t2,ht2,ht3⟩:=hf7;have hlen:=afG hgl hpl hy;subst e11;refine(x5) ?_;intro r19;refine(de)<|(fo)<|(lQ)<|aj eA call9 (hlen)<|(aB) ?_;refine iM (a:=2) (b:=(lc:Int)) (m:=((2*lc:Nat):Int)) O O aa ⟨aa,aa⟩ O ?_;refine(Jr) ?_;refine fh O O (ht1) O<|(aB)<|(Jr) ?_;refine fh O O (ht2) O ?_;refine fh O O (ht3) O<|(iz)<|(fN) ?_;refine ah O O (ly O O (by show some (jn f7 4517110426252607488)=some true;rw[hf8]) O<|(fD)<|(ic) ?_);refine ah O O (ly O O (by show some (fJ f7 13740482463107383296)=some true;rw[hf9]) O<|(fD)<|cV)
end Go.Proofs
namespace Go.Proofs
open Go.V Go.Flt Go.Tiles Go.Sort Go.Edges
variable {A B:IP} {K K':Int} {a b p q:Pt} {l:List Pt} {lss:List (List Pt)}
def ε1:Rat:=159/70368744177664
def ε2:Rat:=167/70368744177664
structure vd (s:Pt×Pt):Prop where
 seg:∃y z,GV s.1 s.2=some y/\FV y z/\0<=z/\Abt ε1 z (wt s)
 nn:0<=wt s
 top:wt s<=3
theorem ajU (A B:IP):1<=qv A B/\qv A B<=2:=by
 unfold qv s2;split<;>constructor<;>decide+kernel
theorem ajT (h:TE A B):Abt (1/1125899906842624) (((B.1-A.1)*(B.1-A.1)+(B.2-A.2)*(B.2-A.2):Int):Rat) (qv A B*qv A B):=by
 unfold qv s2 Abt;rcases h.dir with⟨e1,e2⟩|⟨e1,e2⟩|⟨e1,e2⟩|⟨e1,e2⟩|⟨e1|e1,e2|e2⟩<;>rw[e1,e2]
 ·rw[if_pos (.inr aa)];constructor<;>decide+kernel
 ·rw[if_pos (.inr aa)];constructor<;>decide+kernel
 ·rw[if_pos (.inl aa)];constructor<;>decide+kernel
 ·rw[if_pos (.inl aa)];constructor<;>decide+kernel
 all_goals rw[if_neg aa];constructor<;>decide+kernel
theorem abM (h:TE A B) (hf:Fr K) (hf':Fr K') (hlt:K<K') (ha:dJ a (bP A B K)) (hb:dJ b (bP A B K')):vd (a,b)/\vd (b,a):=by
 have hw:wt (a,b)=qv A B*(cd K'-cd K):=by
  unfold wt;dsimp only;rw[Ix ha,Ix hb];exact P6 h hlt
 have hw':wt (b,a)=qv A B*(cd K'-cd K):=by rw[<-hw];exact P3 (a,b)
 have g:=GQ hf hf' hlt;have l1:=DQ hf;have l2:=DQ hf';obtain⟨u1,u2⟩:=ajU A B;obtain⟨q1,q2⟩:=ajT h;obtain⟨d1,d2⟩:=VP h hf hf' hlt ha hb;generalize hs:cd K'-cd K=s at*;have s1:s<=1:=by grind
 generalize (((B.1-A.1)*(B.1-A.1)+(B.2-A.2)*(B.2-A.2):Int):Rat)=U at*;generalize qv A B=E at*;have hs0:0<s:=by grind
 have hE0:0<E:=by grind
 have hD:0<E*s:=F0 hE0 hs0;have m1:=cj (show 0<=E-1 by grind) (fT hs0);have m2:=cj (show 0<=2-E by grind) (fT hs0);have hDs:s<=E*s:=by grind
 have hD2:E*s<=2:=by grind
 have hss:=Q2 s;have ss1:=cj (show 0<=1-s by grind) (fT hs0);have key:∀v:Rat,Abt (24/70368744177664*s+1/211106232532992) v (U*(s*s))->Abt (158/70368744177664*(E*s)) v ((E*s)*(E*s)):=by
  rintro v ⟨v1,v2⟩;have x1:=gg q1 hss;have x2:=gg q2 hss;have x3:(E*s)*(E*s)=E*E*(s*s):=by grind
  rw[x3];have x1':U*(s*s)<=E*E*(s*s)+1/1125899906842624*(s*s):=by rw[Px] at x1;exact x1
  have x2':E*E*(s*s)<=U*(s*s)+1/1125899906842624*(s*s):=by rw[Px] at x2;exact x2
  have ss2:s*s<=s:=by grind
  clear x1 x2 x3 m1 m2 ss1 hss hw hw' d1 d2 q1 q2;generalize E*s=D at*;generalize U*(s*s)=Y at*;generalize E*E*(s*s)=Z at*;constructor<;>grind
 have fin:∀x y:Pt,(∃d r z,jE x y=some d/\mo d d=some r/\FV r z/\Abt (24/70368744177664*s+1/211106232532992) z (U*(s*s))/\0<=z/\z<=11)->wt (x,y)=E*s->vd (x,y):=by
  rintro x y ⟨d,r,z,e1,e2,e3,e4,e5⟩ hw;obtain⟨t,u,e6,e7,e8,e9⟩:=ac1 e3 e5 hD df (key z e4) (by decide+kernel);refine⟨⟨t,u,?_,e7,e8,?_⟩,by rw[hw];exact fT hD,by rw[hw];grind⟩
  ·unfold GV;have e6':Av r=some t:=e6;rw[e1,lh,e2,lh];exact e6'
  ·rw[hw];have:ε1=158/70368744177664+1/70368744177664:=by unfold ε1;decide+kernel
   rw[this];exact e9
 exact⟨fin a b d1 hw,fin b a d2 hw'⟩
theorem DM:∀{l:List Rat},(∀x∈l,0<=x)->0<=eJ l
 |[],_=>PN
 |a::l,h=>by
  have h1:=h a (.head _);have h2:=DM (l:=l) λx hx=>h x (.tail _ hx);simp only[eJ];grind
theorem abD {l:List Rat} (h:∀x∈l,0<=x) (k:Nat):eJ (l.take k)<=eJ l:=by
 have e:eJ l=eJ (l.take k)+eJ (l.drop k):=by rw[<-Bz,gf]
 have:=DM (l:=l.drop k) λx hx=>h x (List.mem_of_mem_drop hx);rw[e];grind
theorem BF:∀l:List Pt,(aD l).length=l.length-1
 |[]=>rfl
 |[_]=>rfl
 |a::b::l=>by
  have:=BF (b::l);simp only[aD,cE] at this ⊢;omega
theorem R5:∀{l:List Pt} {k:Nat},k+1<l.length->∃a b,l[k]? =some a/\l[k+1]? =some b/\(aD l)[k]? =some (a,b)
 |[],k,h=>by simp at h
 |[_],k,h=>by simp at h
 |a::b::l,0,_=>⟨a,b,rfl,rfl,rfl⟩
 |a::b::l,k+1,h=>by
  obtain⟨x,y,h1,h2,h3⟩:=R5 (l:=b::l) (k:=k) (by simp only[cE] at h ⊢;omega);exact⟨x,y,h1,h2,h3⟩
theorem eps2s:ε2=ε1+8/70368744177664:=by unfold ε2 ε1;decide+kernel
theorem HH {k:Nat} (h:k<=262144):0<=(k:Rat)*ε2/\(k:Rat)*ε2<=1:=by
 have h1:(0:Rat)<=(k:Rat):=zI;have h2:(k:Rat)<=((262144:Nat):Rat):=lj.2 h;have h3:(0:Rat)<=ε2:=by unfold ε2;decide+kernel
 have h4:((262144:Nat):Rat)*ε2<=1:=by unfold ε2;decide+kernel
 have h5:=gg h2 h3;exact⟨cj h1 h3,by grind⟩
theorem He:p2 (10-54)=4/70368744177664:=oC 44 _ (by decide+kernel)
theorem vU:p2 10=1024:=Ah 10 _ (by decide+kernel)
theorem GG (k:Nat):((k+1:Nat):Rat)=(k:Rat)+1:=by rw[yj];rfl
theorem Tg (hs:∀s∈aD l,vd s) (hS:eJ ((aD l).map wt)<=900) (hb:l.length<=262144):∀k:Nat,k<=l.length-1->∃Y Z,xE l k=some Y/\FV Y Z/\0<=Z/\Abt ((k:Rat)*ε2) Z (eJ (((aD l).map wt).take k))
 |0,_=>⟨0,0,rfl,Dd,PN,by simp only[FU,eJ,Abt];have:((0:Nat):Rat)=0:=rfl;rw[this,Rat.zero_mul];decide+kernel⟩
 |k+1,hk=>by
  obtain⟨Y,Z,h1,h2,h3,h4,h5⟩:=Tg hs hS hb k aa;obtain⟨a,b,g1,g2,g3⟩:=R5 (l:=l) (k:=k) aa;obtain⟨⟨y,z,s1,s2',s3,s4,s5⟩,w1,w2⟩:=hs (a,b) (bn g3);have hnn:∀x∈(aD l).map wt,0<=x:=λx hx=>by obtain⟨s,h,rfl⟩:=aM.1 hx;exact(hs s h).nn
  have ht:=abD hnn (k+1);have et:((aD l).map wt).take (k+1)=((aD l).map wt).take k++[wt (a,b)]:=dO (by rw[iY,g3];rfl);rw[et,Bz] at ht;rw[et,Bz];have e1:eJ [wt (a,b)]=wt (a,b):=by simp only[eJ];grind
  rw[e1] at ht ⊢;obtain⟨k1,k2⟩:=HH (k:=k) aa;obtain⟨k3,k4⟩:=HH (k:=k+1) aa;have hε:=eps2s;have hε1:ε1<=1:=by unfold ε1;decide+kernel
  generalize eJ (((aD l).map wt).take k)=S at*;rw[GG] at k3 k4 ⊢;have e2:((k:Rat)+1)*ε2=(k:Rat)*ε2+ε2:=by grind
  rw[e2] at k3 k4 ⊢;generalize (k:Rat)*ε2=c at*;obtain⟨r,v,e3,n1⟩:=CA h2 s2' (k:=10) ⟨⟨by decide,by decide⟩,by rw[vU];grind,by rw[vU];grind⟩;have n2:=n1.up;have n3:=n1.dn;rw[He] at n2 n3;have e3':qm Y y=some r:=e3;refine⟨r,v,?_,n1.val,n1.nn df,by grind,by grind⟩;simp only[xE,h1,g1,g2,s1,e3',lh]
end Go.Proofs
namespace Go.Proofs
open Go.V Go.Flt Go.Tiles Go.Sort Go.Edges
variable {A B:IP} {K K':Int} {a b p q:Pt} {l:List Pt} {lss:List (List Pt)}
theorem Tk (hs:∀s∈aD l,vd s) (hS:eJ ((aD l).map wt)<=900) (hb:l.length<=262144):∃Y Z,EC l=some Y/\FV Y Z/\0<=Z/\Abt (((aD l).length:Rat)*ε2) Z (eJ ((aD l).map wt)):=by
 obtain⟨Y,Z,h1,h2,h3,h4⟩:=Tg hs hS hb (l.length-1) (bg _);refine⟨Y,Z,h1,h2,h3,?_⟩;rw[<-BF,eQ (by rw[cP];exact bg _)] at h4;exact h4
theorem aiU {k:Nat} (h:lss[k]? =some l):(lss.take (k+1)).flatMap aD=(lss.take k).flatMap aD++aD l:=by rw[dO h,ft,zT]
theorem aiX (l:List (Pt×Pt)) {m:List (Pt×Pt)} (h:∃r,m=l++r) (hnn:∀s∈m,0<=wt s):eJ (l.map wt)<=eJ (m.map wt):=by
 obtain⟨r,rfl⟩:=h;rw[dX,Bz];have:=DM (l:=r.map wt) (λx hx=>by obtain⟨s,hs,rfl⟩:=aM.1 hx;exact hnn s (bI _ hs));grind
theorem Ti (hs:∀s∈lss.flatMap aD,vd s) (hS:eJ ((lss.flatMap aD).map wt)<=900) (hb:(lss.flatMap aD).length<=131071) (hm:lss.length<=131072):
  ∀k:Nat,k<=lss.length->∃Y Z,uP lss k=some Y/\FV Y Z/\0<=Z/\Abt (((((lss.take k).flatMap aD).length+k:Nat):Rat)*ε2) Z (eJ (((lss.take k).flatMap aD).map wt))
 |0,_=>⟨0,0,rfl,Dd,PN,by simp only[FU,Dn,th,eJ,Abt,kC];have:((0+0:Nat):Rat)=0:=rfl;rw[this,Rat.zero_mul];decide+kernel⟩
 |k+1,hk=>by
  obtain⟨Y,Z,h1,h2,h3,h4,h5⟩:=Ti hs hS hb hm k aa;obtain⟨l,hl⟩:∃l,lss[k]? =some l:=⟨_,aG aa⟩;have hfull:lss.flatMap aD=(lss.take k).flatMap aD++(aD l++(lss.drop (k+1)).flatMap aD):=by
   conv=>lhs;rw[xM hl]
   rw[ft,dC]
  have hnn:∀s∈lss.flatMap aD,0<=wt s:=λs h=>(hs s h).nn;have hsl:∀s∈aD l,vd s:=λs h=>hs s (by rw[hfull];exact bI _ (bq _ h));have et:=aiU hl;have hpre:=aiX ((lss.take (k+1)).flatMap aD) (m:=lss.flatMap aD) ⟨(lss.drop (k+1)).flatMap aD,by rw[et,hfull,cG]⟩ hnn;have hlen:=congrArg List.length hfull;simp only[aW] at hlen;have hpl:=BF l;rw[et,dX,Bz] at hpre ⊢;have hn1:=DM (l:=((lss.take k).flatMap aD).map wt) (λx hx=>by obtain⟨s,h,rfl⟩:=aM.1 hx;exact hnn s (by rw[hfull];exact bq _ h));have hn2:=DM (l:=(aD l).map wt) (λx hx=>by obtain⟨s,h,rfl⟩:=aM.1 hx;exact(hsl s h).nn);obtain⟨y,z,s1,s2',s3,s4,s5⟩:=Tk hsl df aa;obtain⟨k1,k2⟩:=HH (k:=((lss.take k).flatMap aD).length+k) aa;obtain⟨k3,k4⟩:=HH (k:=(aD l).length) aa;have hε:(4:Rat)/70368744177664<=ε2:=by unfold ε2;decide+kernel
  have hε0:ε2<=1:=by unfold ε2;decide+kernel
  rw[aW];have ec:((((lss.take k).flatMap aD).length+(aD l).length+(k+1):Nat):Rat)*ε2=((((lss.take k).flatMap aD).length+k:Nat):Rat)*ε2+((aD l).length:Rat)*ε2+ε2:=by
   have:((lss.take k).flatMap aD).length+(aD l).length+(k+1)=(((lss.take k).flatMap aD).length+k)+(aD l).length+1:=by omega
   rw[this,GG,yj (_+k)];grind
  rw[ec];generalize eJ (((lss.take k).flatMap aD).map wt)=S at*;generalize eJ ((aD l).map wt)=T at*;generalize ((((lss.take k).flatMap aD).length+k:Nat):Rat)*ε2=c at*;generalize ((aD l).length:Rat)*ε2=c' at*;obtain⟨r,v,e3,n1⟩:=CA h2 s2' (k:=10) ⟨⟨by decide,by decide⟩,by rw[vU];grind,by rw[vU];grind⟩;have n2:=n1.up;have n3:=n1.dn;rw[He] at n2 n3;have e3':qm Y y=some r:=e3;refine⟨r,v,?_,n1.val,n1.nn df,by grind,by grind⟩;simp only[uP,h1,hl,s1,e3',lh]
theorem afK (hs:∀s∈lss.flatMap aD,vd s) (hS:eJ ((lss.flatMap aD).map wt)<=900) (hb:(lss.flatMap aD).length<=131071) (hm:lss.length<=131072):
  ∃y Z,ED lss=some y/\FV y Z/\Abt (7/10000000) Z (eJ ((lss.flatMap aD).map wt)):=by
 have hmx:∀n:Nat,n<=262144->(n:Rat)*ε2<=7/10000000:=λn hn=>by
  have h2:(n:Rat)<=((262144:Nat):Rat):=lj.2 hn;have h3:(0:Rat)<=ε2:=by unfold ε2;decide+kernel
  have h4:((262144:Nat):Rat)*ε2<=7/10000000:=by unfold ε2;decide+kernel
  have h5:=gg h2 h3;grind
 match lss,hs,hS,hb,hm with
 |[],_,_,_,_=>exact⟨0,0,rfl,Dd,by simp only[Dn,th,eJ,Abt];decide+kernel⟩
 |[l],hs,hS,hb,hm=>
  simp only[dC,Dn,jz] at hs hS hb ⊢;have hpl:=BF l;obtain⟨Y,Z,h1,h2,h3,h4⟩:=Tk hs hS aa;exact⟨Y,Z,h1,h2,h4.mono (hmx _ aa)⟩
 |a::b::l,hs,hS,hb,hm=>
  obtain⟨Y,Z,h1,h2,h3,h4⟩:=Ti hs hS hb hm _ (bg _);rw[eQ (bg _)] at h4;exact⟨Y,Z,h1,h2,h4.mono (hmx _ aa)⟩
theorem alP:FV 4609047870845172685 s2:=by
 refine⟨by decide,false,6369051672525773,-52,by decide+kernel,?_⟩;unfold Go.Flt.dv sg s2;rw[Hc];decide+kernel
theorem alR:FV 4517110426252607488 (1/1048576):=by
 refine⟨by decide,false,4503599627370496,-72,by decide+kernel,?_⟩;unfold Go.Flt.dv sg;have:p2 (-72)=1/4722366482869645213696:=oC 72 _ (by decide+kernel);rw[this];decide+kernel
theorem alQ:FV 13740482463107383296 (-(1/1048576)):=by
 refine⟨by decide,true,4503599627370496,-72,by decide+kernel,?_⟩;unfold Go.Flt.dv sg;have:p2 (-72)=1/4722366482869645213696:=oC 72 _ (by decide+kernel);rw[this];decide+kernel
theorem ajk {y lv st:Nat} {Z:Rat} (hy:FV y Z) (hb:lv+st<=300) (h:Abt (7/10000000) Z (2*(lv:Rat)+s2*(st:Rat))):O0 y lv st:=by
 have f1:=If (n:=((2*lv:Nat):Int)) aa;have f2:=If (n:=((st:Nat):Int)) aa;have e1:(((2*lv:Nat):Int):Rat)=2*(lv:Rat):=by
  have:(((2*lv:Nat):Int):Rat)=((2*lv:Nat):Rat):=rfl;rw[this,ja];rfl
 have e2:((st:Int):Rat)=(st:Rat):=rfl;unfold FI at f1 f2;rw[e1] at f1;rw[e2] at f2;have hl:(0:Rat)<=(lv:Rat)/\(lv:Rat)<=300:=⟨zI,by have:(lv:Rat)<=((300:Nat):Rat):=lj.2 aa;exact this⟩;have hs:(0:Rat)<=(st:Rat)/\(st:Rat)<=300:=⟨zI,by have:(st:Rat)<=((300:Nat):Rat):=lj.2 aa;exact this⟩;have hs2:(st:Rat)*s2<=450/\0<=(st:Rat)*s2:=by
  have a1:s2<=3/2:=by unfold s2;decide+kernel
  have a2:0<=s2:=by unfold s2;decide+kernel
  have:=cj (show 0<=3/2-s2 by grind) hs.1;exact⟨by grind,cj hs.1 a2⟩
 have e3:s2*(st:Rat)=(st:Rat)*s2:=Kk _ _;rw[e3] at h;obtain⟨h1,h2⟩:=h;generalize hm:(st:Rat)*s2=M at*;obtain⟨t,u,g1,n1⟩:=yp hy f1 (k:=10) ⟨⟨by decide,by decide⟩,by rw[vU];grind,by rw[vU];grind⟩;obtain⟨m,v,g2,n2⟩:=BP f2 alP (k:=10) ⟨⟨by decide,by decide⟩,by rw[vU,hm];grind,by rw[vU,hm];grind⟩;have a1:=n1.up;have a2:=n1.dn;have a3:=n2.up;have a4:=n2.dn;rw[He] at a1 a2 a3 a4;rw[hm] at a3 a4;obtain⟨f,x,g3,n3⟩:=yp n1.val n2.val (k:=10) ⟨⟨by decide,by decide⟩,by rw[vU];grind,by rw[vU];grind⟩;have a5:=n3.up;have a6:=n3.dn;rw[He] at a5 a6;refine⟨f,?_,?_,?_⟩
 ·unfold NC;have g1':jd y (FloatKind.f64.nearest ((2*lv:Nat):Int))=some t:=g1;have g2':jm (FloatKind.f64.nearest ((st:Nat):Int)) 4609047870845172685=some m:=g2;have g3':jd t m=some f:=g3;simp only[g1',g2',g3',lh]
 ·rw[H7 n3.val alR];apply decide_eq_true;grind
 ·rw[Nz n3.val alQ];apply decide_eq_true;grind
end Go.Proofs
namespace Go.Proofs
open Go.V Go.Flt Go.Tiles Go.Sort Go.Edges
variable {A B A' B':IP} {K K' I I' J J':Int} {a b p q:Pt} {l ch:List Pt} {lss:List (List Pt)} {lns:List Ln} {V:bH->List Int} {M:NM} {CH:IP->IP->List Pt->Prop}
theorem SA (h:TE A B) (hn:nb (A,B)=(A,B)):(B.1-A.1=2/\B.2-A.2=0)\/(B.1-A.1=0/\B.2-A.2=2)\/(B.1-A.1=1/\B.2-A.2=1)\/(B.1-A.1=1/\B.2-A.2= -1):=by
 have hne:=h.ne;unfold nb at hn;dsimp only at hn;split at hn
 ·exact absurd (Prod.mk.inj hn).1.symm hne
 ·rename_i hc;have:=h.dir;omega
theorem VH (h:TE A B) (h':TE A' B') (hn:nb (A,B)=(A,B)) (hn':nb (A',B')=(A',B')) (i0:0<=I) (i1:I<I') (i2:I'<=LL) (j0:0<=J) (j1:J<J') (j2:J'<=LL)
  (hk:(bP A B I=bP A' B' J/\bP A B I'=bP A' B' J')\/(bP A B I=bP A' B' J'/\bP A B I'=bP A' B' J)):A=A'/\B=B':=by
 have d:=SA h hn;have d':=SA h' hn';have pa:=h.pA;have pa':=h'.pA;unfold bP at hk;simp only[yg] at hk;unfold LL at hk i2 j2;have key:A.1=A'.1/\A.2=A'.2/\B.1=B'.1/\B.2=B'.2:=by
  rcases d with⟨e1,e2⟩|⟨e1,e2⟩|⟨e1,e2⟩|⟨e1,e2⟩<;>rcases d' with⟨f1,f2⟩|⟨f1,f2⟩|⟨f1,f2⟩|⟨f1,f2⟩<;>rw[e1,e2,f1,f2] at hk<;>rcases hk with⟨⟨k1,k2⟩,k3,k4⟩|⟨⟨k1,k2⟩,k3,k4⟩<;>omega
 exact⟨mN key.1 key.2.1,mN key.2.2.1 key.2.2.2⟩
theorem mw.nodup (hE:TE A B) (h:mw A B K l J):(aD l).Pairwise λp q=>p≠q/\p≠(q.2,q.1):=by
 induction h with
 |one _ _=>exact List.Pairwise.nil
 |@cons p K K' J l hc hf hlt h ih=>
  obtain⟨q,t,rfl,hq⟩:=h.head;refine oW.2 ⟨λs hs=>?_,ih⟩;obtain⟨I,I',a1,a2,a3,a4,a5,a6,a7⟩:=h.step s hs;constructor
  ·intro e;rw[<-e] at a4;have:=tF hE (pt hc a4);omega
  ·intro e;have:p=s.2:=congrArg Prod.fst e;rw[<-this] at a5;have:=tF hE (pt hc a5);omega
theorem akG (hu:∀A B ch ch',TE A B->CH A B ch->CH A B ch'->ch=ch') {L:List IP} (h:s8 CH L l):(∀x∈aD L,TE x.1 x.2)->(∃t,l=(aA (L.headD (0,0)))::t)/\(∀x∈aD L,∃ch,CH x.1 x.2 ch)/\∀s,s∈aD l↔∃A B ch,(A,B)∈aD L/\CH A B ch/\s∈aD (aA A::(ch++[aA B])):=by
 induction h with
 |one=>intro _;exact⟨⟨[],rfl⟩,(λ_ h=>nomatch h),λs=>⟨(λh=>nomatch h),λ⟨_,_,_,h,_⟩=>nomatch h⟩⟩
 |@cons A B L ch out h1 h2 ih=>
  intro ht;obtain⟨⟨t,ht'⟩,ih2,ih3⟩:=ih (λx hx=>ht x (.tail _ hx));simp only[List.headD_cons] at ht';subst ht';have hp:aD (aA A::(ch++aA B::t))=aD (aA A::(ch++[aA B]))++aD (aA B::t):=by
   have:=Af (aA A::ch) (aA B) t;simpa using this
  refine⟨⟨_,O⟩,λx hx=>?_,λs=>?_⟩
  ·rcases bm.1 hx with rfl|hx
   ·exact⟨ch,h1⟩
   ·exact ih2 x hx
  ·rw[hp,bB,ih3];constructor
   ·rintro(hs|⟨A',B',ch',h3,h4,h5⟩)
    ·exact⟨A,B,ch,.head _,h1,hs⟩
    ·exact⟨A',B',ch',.tail _ h3,h4,h5⟩
   ·rintro⟨A',B',ch',h3,h4,h5⟩;rcases bm.1 h3 with h3|h3
    ·cases h3;have:=hu A B ch ch' (ht (A,B) (.head _)) h1 h4;subst this;exact .inl h5
    ·exact .inr ⟨A',B',ch',h3,h4,h5⟩
theorem alg (hu:∀A B ch ch',TE A B->CH A B ch->CH A B ch'->ch=ch') {Ls:List (List IP)} (h:iX (s8 CH) Ls lss):(∀x∈Ls.flatMap aD,TE x.1 x.2)->(∀x∈Ls.flatMap aD,∃ch,CH x.1 x.2 ch)/\∀s,s∈lss.flatMap aD↔∃A B ch,(A,B)∈Ls.flatMap aD/\CH A B ch/\s∈aD (aA A::(ch++[aA B])):=by
 induction h with
 |nil=>intro _;exact⟨(λ_ h=>nomatch h),λs=>⟨(λh=>nomatch h),λ⟨_,_,_,h,_⟩=>nomatch h⟩⟩
 |@cons L l Ls lss h1 h2 ih=>
  intro ht;simp only[dC] at ht ⊢;obtain⟨_,i2,i3⟩:=akG hu h1 (λx hx=>ht x (bq _ hx));obtain⟨j2,j3⟩:=ih (λx hx=>ht x (bI _ hx));refine⟨λx hx=>(bB.1 hx).elim (i2 x) (j2 x),λs=>?_⟩;rw[bB,i3,j3];constructor
  ·rintro(⟨A,B,ch,k1,k2,k3⟩|⟨A,B,ch,k1,k2,k3⟩)
   ·exact⟨A,B,ch,bq _ k1,k2,k3⟩
   ·exact⟨A,B,ch,bI _ k1,k2,k3⟩
  ·rintro⟨A,B,ch,k1,k2,k3⟩;rcases bB.1 k1 with k1|k1
   ·exact .inl ⟨A,B,ch,k1,k2,k3⟩
   ·exact .inr ⟨A,B,ch,k1,k2,k3⟩
theorem NU (A B:IP) (ch ch':List Pt) (h:TE A B) (h1:pW lns V M A B ch) (h2:pW lns V M A B ch'):ch=ch':=rU.uniq h h1 h2
theorem NV (h:TE A B) (h1:pW lns V M A B ch):pW lns V M B A ch.reverse:=by
 unfold pW;rw[afW h.gA h.gB];exact rU.flip h h1
theorem RK (s:Pt×Pt):s∈aD (aA B::(ch.reverse++[aA A]))↔(s.2,s.1)∈aD (aA A::(ch++[aA B])):=by
 have e:aA B::(ch.reverse++[aA A])=(aA A::(ch++[aA B])).reverse:=by simp
 obtain⟨x,y⟩:=s;rw[e,Ex]
theorem LZ (x:IP×IP):nb x=x\/nb x=(x.2,x.1):=by
 unfold nb;split<;>simp
theorem Sz (x:IP×IP) (h:x.1≠x.2):nb (nb x)=nb x:=by
 obtain⟨⟨a,b⟩,c,d⟩:=x;have hne:¬(a=c/\b=d):=λ⟨e1,e2⟩=>h (by rw[e1,e2]);unfold nb;dsimp only;by_cases h1:c<a\/(c=a/\d<b)
 ·rw[if_pos h1];dsimp only;rw[if_neg aa]
 ·rw[if_neg h1];dsimp only;rw[if_neg h1]
end Go.Proofs
namespace Go.Proofs
open Go.V Go.Flt Go.Tiles Go.Sort Go.Edges
variable {lns:List Ln} {V:bH->List Int} {M:NM} {D U:List (IP×IP)} {K1 T:List (Pt×Pt)}
noncomputable def yS (lns:List Ln) (V:bH->List Int) (M:NM) (b:IP×IP):List Pt:=by classical exact if h:∃ch,pW lns V M b.1 b.2 ch then h.choose else []
theorem Wp {b:IP×IP} (h:∃ch,pW lns V M b.1 b.2 ch):pW lns V M b.1 b.2 (yS lns V M b):=by
 unfold yS;rw[dif_pos h];exact h.choose_spec
noncomputable abbrev NS (lns:List Ln) (V:bH->List Int) (M:NM) (b:IP×IP):List (Pt×Pt):=aD (aA b.1::(yS lns V M b++[aA b.2]))
theorem adt {α:Type} {R:α->α->Prop} {l:List α} (h:l.Pairwise R) {x y:α} (hx:x∈l) (hy:y∈l):x=y\/R x y\/R y x:=by
 induction h with
 |nil=>cases hx
 |@cons a l h1 h2 ih=>
  rcases bm.1 hx with e1|hx'<;>rcases bm.1 hy with e2|hy'
  ·exact .inl (e1.trans e2.symm)
  ·subst e1;exact .inr (.inl (h1 y hy'))
  ·subst e2;exact .inr (.inr (h1 x hx'))
  ·exact ih hx' hy'
theorem QI (f:IP×IP->List (Pt×Pt)):∀U:List (IP×IP),(∀b∈U,eJ ((f b).map wt)=qv b.1 b.2)->eJ ((U.flatMap f).map wt)=2*(nV U:Rat)+s2*(nS U:Rat)
 |[],_=>by
  simp only[Dn,th,eJ,nV,nS,List.filter_nil,kC];have:((0:Nat):Rat)=0:=rfl;rw[this];grind
 |b::U,h=>by
  have ih:=QI f U λx hx=>h x (.tail _ hx);have h1:=h b (.head _);rw[dC,dX,Bz,ih,h1];unfold qv nV nS;have ei:qf b=true↔(b.1.1=b.2.1\/b.1.2=b.2.2):=by unfold qf;simp
  by_cases hl:qf b=true
  ·rw[if_pos (ei.1 hl),Bi hl,Kp (by simp[hl]),cE,GG];grind
  ·rw[if_neg (λhh=>hl (ei.2 hh)),Kp hl,Bi (by simpa using hl),cE,GG];grind
theorem afX (hD:∀x∈D,TE x.1 x.2) (hU1:U.Nodup) (hU2:∀b,b∈U↔∃x∈D,b=nb x) (hch:∀x∈D,∃ch,pW lns V M x.1 x.2 ch)
  (hK:∀s,s∈K1↔∃A B ch,(A,B)∈D/\pW lns V M A B ch/\s∈aD (aA A::(ch++[aA B]))) (hT1:T.Pairwise λp q=>p≠q/\p≠(q.2,q.1)) (hT2:∀p∈T,p∈K1\/(p.2,p.1)∈K1) (hT3:∀p∈K1,p∈T\/(p.2,p.1)∈T) (hUl:U.length<=300):
  (∀s∈T,vd s)/\eJ (T.map wt)=2*(nV U:Rat)+s2*(nS U:Rat)/\T.length<=120000:=by
 classical
 have hb:∀b∈U,TE b.1 b.2/\nb b=b/\pW lns V M b.1 b.2 (yS lns V M b):=λb hb=>by
  obtain⟨x,hx,rfl⟩:=(hU2 b).1 hb;have hte:=hD x hx;obtain⟨ch,hc⟩:=hch x hx;rcases LZ x with e|e
  ·exact⟨by rw[e];exact hte,Sz x hte.ne,Wp (by rw[e];exact⟨ch,hc⟩)⟩
  ·exact⟨by rw[e];exact hte.flip,Sz x hte.ne,Wp (by rw[e];exact⟨_,NV hte hc⟩)⟩
 have onw:∀b∈U,mw b.1 b.2 0 (aA b.1::(yS lns V M b++[aA b.2])) LL:=λb h=>akL (hb b h).1 (hb b h).2.2;obtain⟨C,hC⟩:∃C,C=U.flatMap (NS lns V M):=⟨_,rfl⟩;have hCp:C.Pairwise λp q=>p≠q/\p≠(q.2,q.1):=by
  rw[hC,List.pairwise_flatMap];refine⟨λb h=>(onw b h).nodup (hb b h).1,?_⟩;rw[zR] at hU1;refine(Gg.1 hU1).imp ?_;rintro b b' ⟨h1,h2,hne⟩ s hs s' hs';obtain⟨I,I',a1,a2,a3,a4,a5,a6,a7⟩:=(onw b h1).step s hs;obtain⟨J,J',c1,c2,c3,c4,c5,c6,c7⟩:=(onw b' h2).step s' hs';obtain⟨t1,n1,_⟩:=hb b h1;obtain⟨t2,n2,_⟩:=hb b' h2;constructor
  ·intro e;subst e;obtain⟨k1,k2⟩:=VH t1 t2 n1 n2 a6 a3 a7 c6 c3 c7 (.inl ⟨pt a4 c4,pt a5 c5⟩);exact hne (mN k1 k2)
  ·intro e;subst e;dsimp only at a4 a5;obtain⟨k1,k2⟩:=VH t1 t2 n1 n2 a6 a3 a7 c6 c3 c7 (.inr ⟨pt a4 c5,pt a5 c4⟩);exact hne (mN k1 k2)
 have mC:∀c∈C,c∈T\/(c.2,c.1)∈T:=λc hc=>by
  rw[hC] at hc;obtain⟨b,hbU,hcb⟩:=mO.1 hc;obtain⟨t1,n1,hcn⟩:=hb b hbU;obtain⟨x,hx,e⟩:=(hU2 b).1 hbU;rcases LZ x with e'|e'
  ·rw[e'] at e;subst e;exact hT3 c ((hK c).2 ⟨b.1,b.2,_,hx,hcn,hcb⟩)
  ·rw[e'] at e;have hx':(b.2,b.1)∈D:=by rw[e];exact hx
   have:=hT3 (c.2,c.1) ((hK _).2 ⟨b.2,b.1,_,hx',NV t1 hcn,(RK (c.2,c.1)).2 hcb⟩);exact this.symm
 have mT:∀p∈T,p∈C\/(p.2,p.1)∈C:=by
  have go:∀p∈K1,p∈C\/(p.2,p.1)∈C:=λp hp=>by
   obtain⟨A,B,ch,hAB,hcn,hps⟩:=(hK p).1 hp;have hbU:=(hU2 (nb (A,B))).2 ⟨(A,B),hAB,rfl⟩;obtain⟨t1,n1,hcn'⟩:=hb _ hbU;have hte:=hD _ hAB;rcases LZ (A,B) with e|e
   ·rw[e] at hbU hcn';have:=NU A B ch _ hte hcn hcn';left;rw[hC];exact mO.2 ⟨(A,B),hbU,by show p∈aD _;rw[<-this];exact hps⟩
   ·rw[e] at hbU hcn';have:=NU B A ch.reverse _ hte.flip (NV hte hcn) hcn';right;rw[hC];exact mO.2 ⟨(B,A),hbU,by show(p.2,p.1)∈aD _;rw[<-this];exact(RK (p.2,p.1)).2 hps⟩
  intro p hp;rcases hT2 p hp with h|h
  ·exact go p h
  ·exact(go _ h).symm
 obtain⟨fn,hfn⟩:∃fn:Pt×Pt->Pt×Pt,fn=λc=>if c∈T then c else(c.2,c.1):=⟨_,rfl⟩
 have fn_or:∀c,fn c=c\/fn c=(c.2,c.1):=λc=>by rw[hfn];dsimp only;split<;>simp
 have hperm:T.Perm (C.map fn):=by
  refine(zS ?_ ?_).2 λx=>⟨λhx=>?_,λhx=>?_⟩
  ·rw[zR];exact hT1.imp λh=>h.1
  ·rw[zR,Dk];refine hCp.imp ?_;rintro c c' ⟨h1,h2⟩ e;rcases fn_or c with e1|e1<;>rcases fn_or c' with e2|e2<;>rw[e1,e2] at e
   ·exact h1 e
   ·exact h2 e
   ·exact h2 (by rw[<-e])
   ·have e3:=Prod.mk.inj e;exact h1 (mN e3.2 e3.1)
  ·rcases mT x hx with h|h
   ·exact aM.2 ⟨x,h,by rw[hfn];exact if_pos hx⟩
   ·refine aM.2 ⟨(x.2,x.1),h,?_⟩;rw[hfn];dsimp only;by_cases hr:(x.2,x.1)∈T
    ·rw[if_pos hr];rcases adt hT1 hx hr with e|⟨_,e⟩|⟨_,e⟩
     ·exact e.symm
     ·exact absurd O e
     ·exact absurd O e
    ·rw[if_neg hr]
  ·obtain⟨c,hc,e⟩:=aM.1 hx;rw[hfn] at e;dsimp only at e;by_cases hr:c∈T
   ·rw[if_pos hr] at e;rw[<-e];exact hr
   ·rw[if_neg hr] at e;rcases mC c hc with h|h
    ·exact absurd h hr
    ·rw[<-e];exact h
 have stC:∀c∈C,vd c/\vd (c.2,c.1):=λc hc=>by
  rw[hC] at hc;obtain⟨b,hbU,hcb⟩:=mO.1 hc;obtain⟨I,I',a1,a2,a3,a4,a5,a6,a7⟩:=(onw b hbU).step c hcb;exact abM (hb b hbU).1 a1 a2 a3 a4 a5
 refine⟨λs hs=>?_,?_,?_⟩
 ·rcases mT s hs with h|h
  ·exact(stC s h).1
  ·exact(stC _ h).2
 ·rw[abE (hperm.map wt),w8];have e:wt∘fn=wt:=by
   funext c;rcases fn_or c with e|e
   ·show wt (fn c)=wt c;rw[e]
   ·show wt (fn c)=wt c;rw[e];exact P3 c
  rw[e,hC];refine QI _ U λb hbU=>?_;rw[(onw b hbU).sum (hb b hbU).1,K9,acv];grind
 ·have h1:=hperm.length_eq;rw[cP] at h1;have h2:∀U':List (IP×IP),(∀b∈U',b∈U)->(U'.flatMap (NS lns V M)).length<=400*U'.length:=by
   intro U'
   induction U' with
   |nil=>intro _;simp
   |cons b U' ih=>
    intro hh;have h3:=ih λx hx=>hh x (.tail _ hx);have h4:=(onw b (hh b (.head _))).len;have h5:=BF (aA b.1::(yS lns V M b++[aA b.2]));rw[dC,aW,cE];have h6:(NS lns V M b).length<=400:=by
     show(aD (aA b.1::(yS lns V M b++[aA b.2]))).length<=400;rw[h5];generalize (aA b.1::(yS lns V M b++[aA b.2])).length=N at*;unfold LL at h4;omega
    omega
  have h3:=h2 U λb h=>h;rw[<-hC] at h3;omega
end Go.Proofs
namespace Go.Proofs
open Go.V Go.Flt Go.Tiles Go.Sort Go.Edges
variable {w C:Nat} {W:Rat} {lns:List Ln} {V:bH->List Int}
mutual
theorem Ad:∀g:GM,g.pts=g.lines.flatten
 |.ls l=>by simp[GM.pts,GM.lines]
 |.mls l=>rfl
 |.gc gs=>by simp only[GM.pts,GM.lines];exact Ae gs
theorem Ae:∀gs:List GM,fH gs=(ck gs).flatten
 |[]=>rfl
 |g::gs=>by simp only[fH,ck,o0];rw[Ad g,Ae gs]
end
mutual
theorem S3:∀g:GM,g.lns=g.lines.flatMap bK
 |.ls l=>by simp[GM.lns,GM.lines]
 |.mls l=>rfl
 |.gc gs=>by simp only[GM.lns,GM.lines];exact S5 gs
theorem S5:∀gs:List GM,nW gs=(ck gs).flatMap bK
 |[]=>rfl
 |g::gs=>by simp only[nW,ck,ft];rw[S3 g,S5 gs]
end
mutual
theorem Cg {Q:List Pt->Prop}:∀g:GM,(∀l∈g.lines,Q l)->mL Q g
 |.ls l,h=> .ls (h l (.head _))
 |.mls l,h=> .mls h
 |.gc gs,h=> .gc (UM gs h)
theorem UM {Q:List Pt->Prop}:∀gs:List GM,(∀l∈ck gs,Q l)->∀g∈gs,mL Q g
 |[],_=>λ_ h=>nomatch h
 |g::gs,h=>λg' hg=>by
  simp only[ck] at h;rcases bm.1 hg with e|hg
  ·rw[e];exact Cg g λl hl=>h l (bq _ hl)
  ·exact UM gs (λl hl=>h l (bI _ hl)) g' hg
end
theorem iX.mem_right {α β:Type} {R:α->β->Prop} {xs:List α} {ys:List β} (h:iX R xs ys):∀y∈ys,∃x∈xs,R x y:=by
 induction h with
 |nil=>intro _ h;cases h
 |cons h1 _ ih=>
  intro y hy;rcases bm.1 hy with rfl|hy
  ·exact⟨_,.head _,h1⟩
  ·obtain⟨x,hx,hr⟩:=ih y hy;exact⟨x,.tail _ hx,hr⟩
theorem Lp {α:Type} {R:α->Ln->List Pt->α->Prop} {D:List Pt->List Pt->Prop} {s s':α} {ls ls':List (List Pt)} (h:oK R s ls ls' s'):(∀l∈ls,∀s l' s',wq R s l l' s'->D l l')->iX D ls ls':=by
 induction h with
 |nil=>intro _;exact .nil
 |snoc h1 h2 ih=>intro hd;exact(ih λl hl=>hd l (bq _ hl)).app (.cons (hd _ (bI _ (.head _)) _ _ _ h2) .nil)
theorem G3 {α:Type} {R:α->Ln->List Pt->α->Prop} {D:List Pt->List Pt->Prop} {s s':α} {g g':GM} (h:jq R s g g' s'):(∀l∈g.lines,∀s l' s',wq R s l l' s'->D l l')->iX D g.lines g'.lines:=by
 induction h with
 |ls h=>intro hd;exact .cons (hd _ (.head _) _ _ _ h) .nil
 |mls h=>intro hd;exact Lp h hd
 |gc0=>intro _;exact .nil
 |snoc h1 h2 ih1 ih2=>
  intro hd;simp only[GM.lines,si,ck,jz] at hd ih1 ⊢;exact(ih1 λl hl=>hd l (bq _ hl)).app (ih2 λl hl=>hd l (bI _ hl))
theorem afu {α:Type} {R:α->Ln->List Pt->α->Prop} (hC:∀s ln cs s',R s ln cs s'->cs.length<=C) {s s':α} {sg:List Ln} {out:List Pt} (h:pU R s sg out s'):out.length<=sg.length*(C+1):=by
 induction h with
 |nil=>simp
 |@cons _ _ _ _ cs qs _ out' h1 h2 h3 ih=>
  have:=hC _ _ _ _ h1;have h4:=h2.perm.length_eq;have h5:=DJ qs;simp only[aW,cE,lU] at*;omega
theorem RR {α:Type} {R:α->Ln->List Pt->α->Prop} (hC:∀s ln cs s',R s ln cs s'->cs.length<=C) {s s':α} {l l':List Pt} (h:wq R s l l' s'):l'.length<=(bK l).length*(C+1)+1:=by
 obtain⟨out,h1,rfl⟩:=h;have:=afu hC h1;have h2:l.getLast?.toList.length<=1:=by cases l.getLast?<;>simp
 rw[aW];omega
theorem WS {lss lss':List (List Pt)} (h:iX (λl l'=>l'.length<=(bK l).length*(C+1)+1) lss lss'):lss'.flatten.length<=(lss.flatMap bK).length*(C+1)+lss.length:=by
 induction h with
 |nil=>simp
 |cons h1 _ ih=>
  simp only[oX,dC,aW,cE,Gh] at*;omega
structure IQ (C:Nat) (l l':List Pt):Prop where
 ne:l'≠[]
 nd:∀x∈l',eX x
 st:∀p∈aD l',ij p.1≠ij p.2
 len:l'.length<=(bK l).length*(C+1)+1
theorem RO (hW:nq w W) (hlE:∀o∈lns,aZ o.1/\aZ o.2/\aV o.1 o.2=false) (hV:∀q,(V q).length<=2*lns.length) (hC:C=4*lns.length) {s s':qy eX} {l l':List Pt} (hne:l≠[]) (hl:∀x∈l,aZ x) (h:wq (qG w eX lns V) s l l' s'):IQ C l l':=by
 have N:=Sn hW;have h5:=RR (C:=C) (λs ln cs s' hc=>by
  have h1:=Gq (w:=w) (lns:=lns) (ln:=ln) (V (ia ln)) ([],s.1);have hc':(cs,s'.1)=ji w lns ln (V (ia ln)) ([],s.1):=hc;rw[<-hc'] at h1;have:=hV (ia ln);simp only[kC] at h1;omega) h
 obtain⟨out,h1,rfl⟩:=h;cases l with
 |nil=>exact absurd rfl hne
 |cons a l=>
  obtain⟨⟨t,ht⟩,h3,h4⟩:=KW (R:=qG w eX lns V) (λs ln cs s' k1 k2 k3 hc x hx=>by
   have ok:xq eX lns ln:=⟨N.lat _ k1,λo ho=>N.ll ln o k1 k2 (hlE o ho).1 (hlE o ho).2.1 k3 (hlE o ho).2.2⟩;have e:=Qc (w:=w) (lns:=lns) (ln:=ln) (V (ia ln)) ([],s.1) (λ_ h=>nomatch h);have hc':(cs,s'.1)=ji w lns ln (V (ia ln)) ([],s.1):=hc;rw[<-hc'] at e;exact⟨S8 ok hc x hx,e x hx⟩) l a s s' out hl h1
  exact⟨by rw[ht];simp,h3,h4,h5⟩
theorem aha {α:Type} {a b:α} {l:List α} (h:[a,b]<:+:l):(a,b)∈aD l:=by
 obtain⟨s,t,rfl⟩:=h;have:=Af s a (b::t);rw[show s++[a,b]++t=s++a::b::t by simp,this];exact bI _ (.head _)
structure IN (Ls:List (List IP)) (k1:GM) (ms:List (List Pt)):Prop where
 q:Fj eX k1 ms
 few:(fH [k1,.gc [],.mls ms]).length<=700000000
 ch:∃(lns:List Ln) (V:bH->List Int) (M:NM),iX (s8 (pW lns V M)) Ls k1.lines
theorem ae4 {gs:List GM}:(qe gs).length<=(fH gs).length:=by
 refine tj (SV gs) λx hx=>?_;rw[Ae];exact TW db (·∈(ck gs).flatten) (ck gs) ⟨[],[]⟩ (λ_ h=>nomatch h) (λl hl x hx=>xb.2 ⟨l,hl,hx⟩) x hx
end Go.Proofs
namespace Go.Proofs
open Go.V Go.Flt Go.Tiles Go.Sort Go.Edges
def nP:List Nat:=[4372995238176751616,4377498837804122112,4382002437431492608,4386506037058863104]
def xg:List Nat:=0::1::nP
def Wl:Bool:=(xg.all λx=>xg.all λy=>xg.contains (iN x y)&&((!(nP.contains x||nP.contains y))||nP.contains (iN x y)))
theorem akx:Wl=true:=by decide+kernel
theorem UH {x y:Nat} (hx:x∈xg) (hy:y∈xg):iN x y∈xg/\((x∈nP\/y∈nP)->iN x y∈nP):=by
 have h:=akx;unfold Wl at h;have h2:=kD.1 (kD.1 h x hx) y hy;have e:∀(x:Nat) (l:List Nat),l.contains x=decide (x∈l):=λx l=>by by_cases h:x∈l<;>simp[h]
 simp only[e] at h2;by_cases hB:x∈nP\/y∈nP
 ·have hb:(decide (x∈nP)||decide (y∈nP))=true:=by simpa using hB
  rw[hb] at h2;simp only[eI,Bool.not_true,Bo,decide_eq_true_eq] at h2;exact⟨h2.1,λ_=>h2.2⟩
 ·refine⟨?_,λh=>absurd h hB⟩;have:=(eI _ _).mp h2;exact of_decide_eq_true this.1
def akv:Bool:=(List.range 11).all λn=>xg.contains (lX (fI (n:Nat)))&&(n==0||nP.contains (lX (fI (n:Nat))))
theorem aku:akv=true:=by decide+kernel
theorem Qm {n:Int} (h0:0<=n) (h1:n<=10):lX (fI n)∈xg/\(n≠0->lX (fI n)∈nP):=by
 obtain⟨m,rfl⟩:∃m:Nat,n=(m:Int):=⟨n.toNat,aa⟩;have h:=kD.1 aku m (nL.2 aa);simp only[eI,List.contains_iff_mem,Ka,beq_iff_eq] at h;refine⟨h.1,λh2=>h.2.resolve_left aa⟩
def Qq (l:List Pt):Nat:=l.foldl (λs p=>iN s (iN (lX p.1) (lX p.2))) 0
theorem Qp {s s':Int×Nat} {l:List Pt} (h:jT IL s l s'):s'.2=l.foldl (λs p=>iN s (iN (lX p.1) (lX p.2))) s.2:=by
 induction h with
 |nil=>rfl
 |cons h1 _ ih=>rw[ih,Dy,h1.2]
theorem Qr:∀(l:List Pt) (s:Nat),(∀x∈l,aZ x)->s∈xg->(s∈nP\/∃P:IP,gd P/\aA P∈l/\(P.1≠0\/P.2≠0))->l.foldl (λs p=>iN s (iN (lX p.1) (lX p.2))) s∈nP
 |[],s,_,hs,h=>by
  rcases h with h|⟨P,_,h,_⟩
  ·exact h
  ·cases h
 |p::l,s,hl,hs,h=>by
  obtain⟨P,rfl,gP,_⟩:=An (hl p (.head _));obtain⟨a1,a2⟩:=Qm gP.a gP.b;obtain⟨b1,b2⟩:=Qm gP.c gP.d;obtain⟨c1,c2⟩:=UH a1 b1;obtain⟨d1,d2⟩:=UH hs c1;rw[Dy];refine Qr l _ (λx hx=>hl x (.tail _ hx)) d1 ?_;rcases h with h|⟨Q,gQ,hQ,hne⟩
  ·exact .inl (d2 (.inl h))
  ·rcases bm.1 hQ with e|hQ
   ·have eP:Q=P:=At.uniq (hY gQ) (e▸hY gP);subst eP;refine .inl (d2 (.inr (c2 ?_)));rcases hne with h|h
    ·exact .inl (a2 h)
    ·exact .inr (b2 h)
   ·exact .inr ⟨Q,gQ,hQ,hne⟩
theorem YE {u:Nat} (h:u∈nP):∃w W,jm u 4647714815446351872=some w/\nq w W:=by
 have key:∀(w m:Nat) (e:Int) (W:Rat),w<18446744073709551616->Ieee.double.read w= .number false m e->dv false m e=W->1/8796093022208<=W->W<=1/1099511627776->nq w W:=λw m e W h1 h2 h3 h4 h5=>⟨⟨h1,false,m,e,h2,h3.symm⟩,h4,h5⟩;unfold nP at h;simp only[bm,oY,or_false] at h;rcases h with rfl|rfl|rfl|rfl
 ·exact⟨4413527634823086080,1/8796093022208,by decide+kernel,key _ 4503599627370496 (-95) _ bz (by decide+kernel) (by unfold dv sg;rw[show p2 (-95)=1/39614081257132168796771975168 from oC 95 _ (by decide+kernel)];decide+kernel) (by decide+kernel) (by decide+kernel)⟩
 ·exact⟨4418031234450456576,1/4398046511104,by decide+kernel,key _ 4503599627370496 (-94) _ bz (by decide+kernel) (by unfold dv sg;rw[show p2 (-94)=1/19807040628566084398385987584 from oC 94 _ (by decide+kernel)];decide+kernel) (by decide+kernel) (by decide+kernel)⟩
 ·exact⟨4422534834077827072,1/2199023255552,by decide+kernel,key _ 4503599627370496 (-93) _ bz (by decide+kernel) (by unfold dv sg;rw[show p2 (-93)=1/9903520314283042199192993792 from oC 93 _ (by decide+kernel)];decide+kernel) (by decide+kernel) (by decide+kernel)⟩
 ·exact⟨4427038433705197568,1/1099511627776,by decide+kernel,key _ 4503599627370496 (-92) _ bz (by decide+kernel) (by unfold dv sg;rw[show p2 (-92)=1/4951760157141521099596496896 from oC 92 _ (by decide+kernel)];decide+kernel) (by decide+kernel) (by decide+kernel)⟩
theorem aew:wr 0 (λ_=>False) (λ_=>False) where
 bk _ h:=h.elim
 lat _ h:=h
 sep _ _ _ _ h:=h.elim
 ll _ _ h:=h.elim
 d2 _ _ h:=h.elim
 ulp _ h:=h.elim
 fin:=⟨[],by simp,λ_ h=>h.elim⟩
end Go.Proofs
namespace Go.Proofs
open Go.V Go.Flt Go.Tiles Go.Sort Go.Edges
variable {g1:GM} {u1:Value} {a:Addr} {Ls:List (List IP)} {ls:List (List Pt)}
structure rP (Ls:List (List IP)):Prop where
 tln:∀L∈Ls,AF L
 two:∀L∈Ls,2<=L.length
 few:Ls.length<=100
 stp:(Ls.flatMap aD).length<=300
theorem Ee {α:Type}:∀l:List α,l.length<=(aD l).length+1
 |[]=>by simp
 |[_]=>by simp[aD]
 |a::b::l=>by
  have:=Ee (b::l);simp only[aD,cE] at this ⊢;omega
theorem Ly {α:Type}:∀(l:List α),2<=l.length->∀x∈l,∃y,(x,y)∈aD l\/(y,x)∈aD l
 |[a,b],_,x,hx=>by
  simp at hx;rcases hx with rfl|rfl
  ·exact⟨b,.inl (.head _)⟩
  ·exact⟨a,.inr (.head _)⟩
 |a::b::c::l,_,x,hx=>by
  rcases bm.1 hx with rfl|hx
  ·exact⟨b,.inl (.head _)⟩
  ·obtain⟨y,h|h⟩:=Ly (b::c::l) dK x hx
   ·exact⟨y,.inl (.tail _ h)⟩
   ·exact⟨y,.inr (.tail _ h)⟩
theorem rP.gds (h:rP Ls):∀L∈Ls,∀P∈L,gd P/\(P.1+P.2)%2=0:=λL hL P hP=>by
 obtain⟨y,hy|hy⟩:=Ly L (h.two L hL) P hP
 ·have:=(h.tln L hL).2 _ hy;exact⟨this.gA,this.pA⟩
 ·have:=(h.tln L hL).2 _ hy;exact⟨this.gB,this.pB⟩
theorem Vf {α:Type}:∀Ls:List (List α),Ls.flatten.length<=(Ls.flatMap aD).length+Ls.length
 |[]=>by simp
 |L::Ls=>by
  have:=Ee L;have:=Vf Ls;simp only[oX,dC,aW,cE];omega
theorem rP.one (h:rP Ls):∀L∈Ls,L.length<=301:=λL hL=>by
 have h1:=Ee L;have h2:(aD L).length<=(Ls.flatMap aD).length:=by
  obtain⟨s,t,rfl⟩:=Dm hL;rw[ft,dC,aW,aW];omega
 have:=h.stp;omega
theorem GT:∀l:List Pt,(bK l).length+1<=max 1 l.length
 |[]=>by simp[bK]
 |[_]=>by simp[bK]
 |a::b::l=>by
  have:=GT (b::l);simp only[bK,cE] at this ⊢;split
  ·omega
  ·simp only[cE];omega
theorem Rp {k:Nat}:∀lss:List (List Pt),(∀l∈lss,l.length<=k+1)->(lss.flatMap bK).length<=lss.length*k
 |[],_=>by simp
 |l::lss,h=>by
  have h1:=h l (.head _);have h2:=GT l;have h3:=Rp lss λl hl=>h l (.tail _ hl);have e:(lss.length+1)*k=lss.length*k+k:=lU lss.length k;have h4:(bK l).length<=k:=by omega
  simp only[dC,aW,cE];rw[e];omega
theorem Rn:∀Ls:List (List IP),((Ls.map (List.map aA)).flatMap bK).length<=(Ls.flatMap aD).length
 |[]=>by simp
 |L::Ls=>by
  have h1:=GT (L.map aA);have h2:max 1 L.length<=(aD L).length+1:=by have:=Ee L;omega
  have h3:=Rn Ls;simp only[dV,dC,aW,cP] at*;omega
theorem af0 {P:IP} (h:gd P) (k:(P.1+P.2)%2=0):aZ (aA P):=⟨P,h,k,rfl⟩
theorem rP.lats (h:rP Ls):∀l∈Ls.map (List.map aA),∀x∈l,aZ x:=λl hl x hx=>by
 obtain⟨L,hL,rfl⟩:=aM.1 hl;obtain⟨P,hP,rfl⟩:=aM.1 hx;obtain⟨k1,k2⟩:=h.gds L hL P hP;exact af0 k1 k2
theorem rP.flat (h:rP Ls):(Ls.map (List.map aA)).flatten.length<=400:=by
 have e:(Ls.map (List.map aA)).flatten=Ls.flatten.map aA:=by rw[List.map_flatten]
 rw[e,cP];have:=Vf Ls;have:=h.few;have:=h.stp;omega
theorem YG (h:rP Ls) (e:g1.lines=Ls.map (List.map aA)) (hT:Fg (g1.lines.map j9++(GM.gc []).lines.map j9) ls):ls.length<=100/\∀l∈ls,l.length=2/\∀x∈l,aZ x:=by
 have hm:∀x∈g1.lines.map j9++(GM.gc []).lines.map j9,aZ x:=λx hx=>by
  rcases bB.1 hx with hx|hx
  ·obtain⟨l,hl,rfl⟩:=aM.1 hx;rw[e] at hl;have h1:=h.lats l hl;obtain⟨L,hL,rfl⟩:=aM.1 hl;have h2:=h.two L hL
   match L,h2,h1 with
   |P::L,_,h1=>exact h1 _ (.head _)
  ·cases hx
 refine⟨?_,λl hl=>?_⟩
 ·have h1:=hT.len;rw[aW,cP,e,cP] at h1;have:=h.few;have h2:((GM.gc []).lines.map j9).length=0:=rfl;omega
 ·obtain⟨x,y,rfl,hx,hy⟩:=hT.ln l hl;refine⟨O,λz hz=>?_⟩;simp at hz;rcases hz with rfl|rfl
  ·exact hm _ hx
  ·exact hm _ hy
theorem Td:∀ls:List (List Pt),(∀l∈ls,l.length=2)->ls.flatten.length=2*ls.length
 |[],_=>rfl
 |l::ls,h=>by
  have h1:=h l (.head _);have h2:=Td ls λl hl=>h l (.tail _ hl);simp only[oX,aW,cE];omega
theorem SP (h:rP Ls) (e:g1.lines=Ls.map (List.map aA)) (hl:ls.length<=100/\∀l∈ls,l.length=2/\∀x∈l,aZ x) {P:List Pt} {z:Nat} {a1 a2:GM} {bs:List (List Pt)} (hP:∀x∈P,aZ x) (hPl:P.length<=61) (hz:z<=2*P.length)
  (ra1:jq (lI P z) () g1 a1 ()) (ra2:jq (lI P z) () (.gc []) a2 ()) (ras:oK (lI P z) () ls bs ()):
  a1.lines=Ls.map (List.map aA)/\a2.lines=[]/\bs.length<=100/\∀l∈bs,l≠[]/\l.length<=124/\∀x∈l,aZ x:=by
 have e1:=RU hP ra1 e h.tln;have e2:=RU hP ra2 (Ls:=[]) rfl (λ_ h=>nomatch h);refine⟨e1.trans e,e2,by have:=ras.len;omega,λl' hl'=>?_⟩;have h2:=Lp (D:=λl l'=>(l≠[]->l'≠[])/\l'.length<=(bK l).length*(z+1)+1) ras λl _ s l' s' hr=>⟨λhne=>by
  obtain⟨out,_,rfl⟩:=hr;cases l with
  |nil=>exact absurd rfl hne
  |cons a l=>simp[List.getLast?_cons],RR (λs ln cs s' hc=>hc.1) hr⟩
 obtain⟨l,hl1,h3,h4⟩:=h2.mem_right l' hl';have h5:=(hl.2 l hl1).1;have h6:=GT l;refine⟨h3 (λe=>by rw[e] at h5;cases h5),?_,?_⟩
 ·have h7:(bK l).length<=1:=by omega
  have h8:=uD h7 (bg (z+1));omega
 ·exact Lo (okl:=λ_=>True) (R:=lI P z) (λs ln cs s' _ hc x hx=>hP x (hc.2 x hx).1) ras (λl hl2=>⟨(hl.2 l hl2).2,λ_ _=>trivial⟩) l' hl'
end Go.Proofs
namespace Go.Proofs
open Tryz
open Go.V Go.Flt Go.Tiles Go.Sort Go.Edges
variable {g1:GM} {u1:Value} {a:Addr} {Ls:List (List IP)} {ls:List (List Pt)} {w:Nat} {W:Rat}
theorem afi {o:Ln} (h:aZ o.1/\aZ o.2/\aV o.1 o.2=false):x8 o:=by
 obtain⟨⟨o1,o2⟩,h⟩:∃x:Ln,x=o:=⟨o,rfl⟩;subst h;obtain⟨h1,h2,h3⟩:=h;obtain⟨P,e1,gP,pP⟩:=An h1;obtain⟨Q,e2,gQ,pQ⟩:=An h2;dsimp only at e1 e2 h3;subst e1;subst e2;exact⟨P,Q,gP,gQ,pP,pQ,Mx gP gQ h3,O⟩
theorem Vj {α:Type} {xs ys:List (List α)}:(xs++ys).flatten.length=xs.flatten.length+ys.flatten.length:=by simp
theorem ac4 (hW:nq w W) (h:rP Ls) (e:g1.lines=Ls.map (List.map aA)) (hl:ls.length<=100/\∀l∈ls,l.length=2/\∀x∈l,aZ x) {k1 k2:GM} {ms:List (List Pt)} (rn:W2 w aZ eX g1 (.gc []) ls k1 k2 ms):IN Ls k1 ms/\k2= .gc []:=by
 obtain⟨P,a1,a2,bs,z1,V,hV,m0,hm,m1,m2,m3,latP,lenP,z1P,lat0,ra1,ra2,ras,rb1,rb2,rbs⟩:=rn;obtain⟨e1,e2,b1,b2⟩:=SP h e hl latP lenP z1P ra1 ra2 ras;have ek2:k2= .gc []:=by
  have:∀{α:Type} {R:α->Ln->List Pt->α->Prop} {s s':α} {g:GM},jq R s (.gc []) g s'->g= .gc []:=by
   intro α R s s' g hg;generalize e:GM.gc []=g0 at hg;cases hg with
   |ls _=>cases e
   |mls _=>cases e
   |gc0=>rfl
   |snoc _ _=>
    have:=GM.gc.inj e;simp at this
  have ea2:=this ra2;rw[ea2] at rb2;exact this rb2
 refine⟨?_,ek2⟩;obtain⟨lns,hlns⟩:∃lns,lns=(GM.gc [a1,a2,.mls bs]).lns:=⟨_,rfl⟩;rw[<-hlns] at hV rb1 rb2 rbs;have elns:lns=(a1.lines++bs).flatMap bK:=by
  rw[hlns,S3];simp only[GM.lines,ck,jz];rw[e2,j6]
 have hpt:∀l∈a1.lines++bs,l≠[]/\∀x∈l,aZ x:=λl hl'=>by
  rcases bB.1 hl' with hl'|hl'
  ·rw[e1] at hl';refine⟨λe0=>?_,h.lats l hl'⟩;obtain⟨L,hL,rfl⟩:=aM.1 hl';have:=h.two L hL;have:=XP.1 e0;subst this;simp at*
  ·exact⟨(b2 l hl').1,(b2 l hl').2.2⟩
 have hlE:∀o∈lns,aZ o.1/\aZ o.2/\aV o.1 o.2=false:=λo ho=>by
  rw[elns] at ho;obtain⟨l,hl',ho⟩:=mO.1 ho;obtain⟨s1,s2,s3⟩:=vR ho;exact⟨(hpt l hl').2 _ s1,(hpt l hl').2 _ s2,s3⟩
 have n1:(a1.lines.flatMap bK).length<=300:=by
  rw[e1];exact tc (Rn Ls) h.stp
 have n2:(bs.flatMap bK).length<=12300:=by
  have:=Rp (k:=123) bs λl hl'=>(b2 l hl').2.1;omega
 have n3:lns.length<=12600:=by
  rw[elns,ft,aW];omega
 have r1:=G3 (D:=IQ (4*lns.length)) rb1 λl hl' s l' s' hr=>RO hW hlE hV rfl (hpt l (bq _ hl')).1 (hpt l (bq _ hl')).2 hr;have r2:=Lp (D:=IQ (4*lns.length)) rbs λl hl' s l' s' hr=>RO hW hlE hV rfl (hpt l (bI _ hl')).1 (hpt l (bI _ hl')).2 hr;have c1:=WS (r1.imp λ_ _ hr=>hr.len);have c2:=WS (r2.imp λ_ _ hr=>hr.len);have m1':=uD n1 (show 4*lns.length+1<=50401 by omega);have m2':=uD n2 (show 4*lns.length+1<=50401 by omega);have l1:a1.lines.length<=100:=by rw[e1,cP];exact h.few
 have few:(fH [k1,.gc [],.mls ms]).length<=700000000:=by
  rw[Ae,yF,Vj];omega
 have all:∀l∈k1.lines++ms,∃l0,IQ (4*lns.length) l0 l:=λl hl'=>by
  rcases bB.1 hl' with hl'|hl'
  ·obtain⟨l0,_,hr⟩:=r1.mem_right l hl';exact⟨l0,hr⟩
  ·obtain⟨l0,_,hr⟩:=r2.mem_right l hl';exact⟨l0,hr⟩
 have big:∀l∈k1.lines++ms,l.length<=700000000:=λl hl'=>by
  have h1:l.length<=(k1.lines++ms).flatten.length:=by
   obtain⟨s,t,hst⟩:=Dm hl';rw[hst,o0,oX,aW,aW];omega
  rw[Ae,yF] at few;omega
 refine⟨⟨λl hl'=>?_,λl hl' x y hxy hne=>?_,λl hl'=>?_,λl hl'=>by have:=big l hl';omega,aa⟩,few,?_⟩
 ·obtain⟨l0,hr⟩:=all l hl';exact⟨hr.ne,λx hx=>(hr.nd x hx).nn⟩
 ·obtain⟨l0,hr⟩:=all l hl';exact hr.st (x,y) (aha hxy) (by rw[hne])
 ·obtain⟨l0,hr⟩:=all l hl';exact hr.nd
 ·obtain⟨_,_,c⟩:=adm hW (λo ho=>afi (hlE o ho)) rb1 e1 h.tln (afa lat0);exact⟨lns,V,m1.1,c⟩
theorem adh (h:rP Ls) (e:g1.lines=Ls.map (List.map aA)) (p:Option Addr) (ls:List (List Pt)) (cp:Nat) (hT:Fg (g1.lines.map j9++(GM.gc []).lines.map j9) ls):
  ai prog 151 [gv g1 u1,gv (.gc []) .nilIface,jb p ls cp].toArray [aE g1 u1,aE (.gc []) .nilIface,bQ p ls cp,aO 1 0 [iH a]] [] (W1 (IN Ls)):=by
 have hl:=YG h e hT;have hpts:(GM.gc [g1,.gc [],.mls ls]).pts.length<=1000:=by
  rw[Ad];have h1:=h.flat;have h2:=Td ls λl hl'=>(hl.2 l hl').1;simp only[GM.lines,ck,jz,j6,o0,aW,e];omega
 by_cases hne:Ls=[]
 ·subst hne;have hg:g1.lines=[]:=e;have hls:ls=[]:=by
   have:=hT.len;rw[hg] at this;exact ow (by simpa[GM.lines,ck] using this)
  subst hls;have hnil:∀{Q:List Pt->Prop} {g:GM},g.lines=[]->mL Q g:=λh0=>Cg _ λl hl'=>by rw[h0] at hl';cases hl'
  refine pg (RM (w:=0) (u:=0) (u1:=u1) (u2:= .nilIface) (p:=p) (cp:=cp) (a:=a) aew (hnil hg) (hnil O) (λ_ h=>nomatch h) hpts ?_ (by decide+kernel) ?_) ?_
  ·intro s' hs;have:=Qp hs.pts;rw[Ad] at this;simp only[GM.lines,ck,jz,hg] at this;exact this
  ·intro P z a1 a2 bs hP hPl hz ra1 ra2 ras;have hP':P=[]:=by
    match P,hP with
    |[],_=>rfl
    |x::_,hP=>exact(hP x (.head _)).elim
   subst hP';have i1:=G3 (D:=λ_ _=>True) ra1 (λ_ _ _ _ _ _=>trivial);have i2:=G3 (D:=λ_ _=>True) ra2 (λ_ _ _ _ _ _=>trivial);have i3:=ras.len;rw[hg] at i1;have j1:a1.lines=[]:=by revert i1;generalize a1.lines=X;intro i1;cases i1;rfl
   have j2:a2.lines=[]:=by
    have i2':iX (λ_ _=>True) ([]:List (List Pt)) a2.lines:=i2;revert i2';generalize a2.lines=X;intro i2';cases i2';rfl
   have j3:bs=[]:=ow i3;subst j3;refine⟨?_,hnil j1,hnil j2,λ_ h=>nomatch h⟩;rw[Ad];simp only[GM.lines,ck,jz,j1,j2];decide
  ·rintro v Fs' L' ⟨k1,k2,w1,w2,p3,ms,cp3,⟨rn⟩,e1,e2,e3⟩;obtain⟨P,a1,a2,bs,z1,V,hV,m0,hm,m1,m2,m3,latP,lenP,z1P,lat0,ra1,ra2,ras,rb1,rb2,rbs⟩:=rn;have nl:∀{α:Type} {R:α->Ln->List Pt->α->Prop} {s s':α} {g g':GM},jq R s g g' s'->g.lines=[]->g'.lines=[]:=by
    intro α R s s' g g' hg h0;have i1:=G3 (D:=λ_ _=>True) hg (λ_ _ _ _ _ _=>trivial);rw[h0] at i1;revert i1;generalize g'.lines=X;intro i1;cases i1;rfl
   have ek2:k2= .gc []:=by
    have:∀{α:Type} {R:α->Ln->List Pt->α->Prop} {s s':α} {g:GM},jq R s (.gc []) g s'->g= .gc []:=by
     intro α R s s' g hg;generalize e:GM.gc []=g0 at hg;cases hg with
     |ls _=>cases e
     |mls _=>cases e
     |gc0=>rfl
     |snoc _ _=>
      have:=GM.gc.inj e;simp at this
    have ea2:=this ra2;rw[ea2] at rb2;exact this rb2
   have f1:=nl rb1 (nl ra1 hg);have f3:ms=[]:=ow (by rw[rbs.len,ras.len];rfl);subst f3;subst ek2;have pt0:(fH [k1,.gc [],.mls []]).length=0:=by rw[Ae,yF,f1];rfl
   refine⟨⟨k1,w1,w2,p3,[],cp3,⟨⟨?_,?_,?_,?_,aa⟩,aa,[],λ_=>[],[],by rw[f1];exact .nil⟩,e1,e2⟩,e3⟩<;>(rw[f1];intro _ h;cases h)
 ·obtain⟨L,hL⟩:=List.exists_mem_of_ne_nil _ hne;have hall:∀x∈(GM.gc [g1,.gc [],.mls ls]).pts,aZ x:=λx hx=>by
   rw[Ad] at hx;simp only[GM.lines,ck,jz,j6,o0,e] at hx;rcases bB.1 hx with hx|hx
   ·obtain⟨l,hl',hx⟩:=xb.1 hx;exact h.lats l hl' x hx
   ·obtain⟨l,hl',hx⟩:=xb.1 hx;exact(hl.2 l hl').2 x hx
  have hone:∃P:IP,gd P/\aA P∈(GM.gc [g1,.gc [],.mls ls]).pts/\(P.1≠0\/P.2≠0):=by
   have hsub:∀P∈L,aA P∈(GM.gc [g1,.gc [],.mls ls]).pts:=λP hP=>by
    rw[Ad];simp only[GM.lines,ck,jz,j6,o0,e];exact bq _ (xb.2 ⟨L.map aA,aM.2 ⟨L,hL,O⟩,aM.2 ⟨P,hP,O⟩⟩)
   have h2:=h.two L hL;have ht:=(h.tln L hL).2
   match L,h2,ht,hsub with
   |A::B::L,_,ht,hsub=>
    have hte:=ht (A,B) (.head _);by_cases h0:A.1≠0\/A.2≠0
    ·exact⟨A,hte.gA,hsub A (.head _),h0⟩
    ·refine⟨B,hte.gB,hsub B (.tail _ (.head _)),?_⟩;have:=hte.dir;dsimp only at this;omega
  have hu:Qq (GM.gc [g1,.gc [],.mls ls]).pts∈nP:=Qr _ 0 hall (.head _) (.inr hone);obtain⟨w,W,hw,hW⟩:=YE hu;refine pg (RM (w:=w) (u:=Qq (GM.gc [g1,.gc [],.mls ls]).pts) (u1:=u1) (u2:= .nilIface) (p:=p) (cp:=cp) (a:=a) (Sn hW) (Cg _ λl hl'=>?_) (Cg _ λl hl'=>(nomatch hl')) (λl hl'=>⟨(hl.2 l hl').2,by rw[(hl.2 l hl').1];decide⟩) hpts (λs' hs=>Qp hs.pts) hw ?_) ?_
  ·rw[e] at hl';refine⟨h.lats l hl',?_⟩;obtain⟨L',hL',rfl⟩:=aM.1 hl';have:=h.one L' hL';rw[cP];omega
  ·intro P z a1 a2 bs hP hPl hz ra1 ra2 ras;obtain⟨e1,e2,b1,b2⟩:=SP h e hl hP hPl hz ra1 ra2 ras;refine⟨?_,Cg _ λl hl'=>?_,Cg _ (λl hl'=>by rw[e2] at hl';cases hl'),λl hl'=>by have:=(b2 l hl').2.1;omega⟩
   ·rw[Ad];have h1:=h.flat;have h2:∀bs:List (List Pt),(∀l∈bs,l.length<=124)->bs.flatten.length<=124*bs.length:=by
     intro bs
     induction bs with
     |nil=>intro _;simp
     |cons l bs ih=>
      intro hb;have h3:=hb l (.head _);have h4:=ih λl hl=>hb l (.tail _ hl);simp only[oX,aW,cE];omega
    have h3:=h2 bs λl hl'=>(b2 l hl').2.1;simp only[GM.lines,ck,jz,o0,aW,e1,e2,List.flatten_nil,kC];omega
   ·rw[e1] at hl';obtain⟨L',hL',rfl⟩:=aM.1 hl';have:=h.one L' hL';rw[cP];omega
  ·rintro v Fs' L' ⟨k1,k2,w1,w2,p3,ms,cp3,⟨rn⟩,e1,e2,e3⟩;obtain⟨hq,rfl⟩:=ac4 hW h e hl rn;exact⟨⟨k1,w1,w2,p3,ms,cp3,hq,e1,e2⟩,e3⟩
end Go.Proofs
namespace Go.Proofs
open Go.V Go.Flt Go.Tiles Go.Sort Go.Edges
variable {Ls:List (List IP)} {k1:GM} {ms:List (List Pt)} {X xs:List Pt} {d1 d2 d3 d4:DS}
def W4 (Ls:List (List IP)) (lss:List (List Pt)):Prop:=lx lss/\∀U:List (IP×IP),U.Nodup->(∀b,b∈U↔∃x∈Ls.flatMap aD,b=nb x)->∃y,ED lss=some y/\O0 y (nV U) (nS U)
theorem Mv {T:List (List Pt)} (h:∀t∈T,2<=t.length):T.length<=(T.flatMap aD).length/\∀t∈T,t.length<=(T.flatMap aD).length+1:=by
 induction T with
 |nil=>exact⟨bg _,λ_ h=>nomatch h⟩
 |cons t T ih=>
  obtain⟨i1,i2⟩:=ih λx hx=>h x (.tail _ hx);have h1:=h t (.head _);have h2:=Ee t;simp only[cE,dC,aW];refine⟨aa,λx hx=>?_⟩;rcases bm.1 hx with rfl|hx
  ·omega
  ·have:=i2 x hx;omega
theorem KX:∀lss:List (List Pt),(lss.flatMap aD).length<=lss.flatten.length
 |[]=>by simp
 |l::lss=>by
  have h1:=BF l;have h2:=KX lss;simp only[dC,oX,aW];omega
theorem ahk {S:List (List Pt×Bool)} {d:DS} (hi:Inv S d):d.hs.length<=2*S.length:=by
 have h1:=tj hi.kn (l₂:=S.map (λs=>keyOf s.1)++S.map (λs=>keyOf s.1.reverse)) (λk hk=>by
  obtain⟨⟨k',r⟩,hr,rfl⟩:=aM.1 hk;dsimp only;rw[<-hi.key _ _ hr];obtain⟨s,b,hs,e|e⟩:=hi.src _ _ hr
  ·exact bq _ (aM.2 ⟨_,hs,by rw[e]⟩)
  ·exact bI _ (aM.2 ⟨_,hs,by rw[e]⟩))
 rw[aW,cP,cP,cP] at h1;omega
theorem aff (U:List (IP×IP)):nV U+nS U=U.length:=by
 unfold nV nS
 induction U with
 |nil=>rfl
 |cons b U ih=>
  by_cases h:qf b=true
  ·rw[Bi h,Kp (by simp[h])];simp only[cE];omega
  ·rw[Kp h,Bi (by simpa using h)];simp only[cE];omega
theorem afY {l s:Nat} (h:l+s<=300):2*(l:Rat)+s2*(s:Rat)<=900:=by
 have h1:((l+s:Nat):Rat)<=((300:Nat):Rat):=lj.2 h;rw[yj] at h1;have h2:((300:Nat):Rat)=300:=rfl;rw[h2] at h1;have h3:(0:Rat)<=(s:Rat):=by have:=lj.2 (bf s);exact this
 have h4:s2*(s:Rat)<=2*(s:Rat):=gg (by unfold s2;decide+kernel) h3;have h5:(0:Rat)<=(l:Rat):=by have:=lj.2 (bf l);exact this
 grind
theorem ahm (h:rP Ls) (q:IN Ls k1 ms) (hX:X=qe [k1,.gc [],.mls ms]) (hV1:tV d1 xs) (hA2:kY false X d1 ms d2) (hA3:kY true X d2 k1.lines d3) (hA4:kY true X d3 [] d4):
  ∃S,Inv S d4/\(∀s b,(s,b)∈S->2<=s.length/\∀x∈s,eX x)/\(∀(d6 D D':DS) (es:List Nat) (qs:List Sq),Inv S d6->zy d6 D->pV D D' (List.range D.hs.length) es->qs.Perm (oy D es)->(∀l∈qs.map (·.l),sU l)/\W4 Ls (qs.map (·.l)))/\
   d4.hs.length<=4294967295:=by
 obtain⟨T1,T2,i,r,p2,p1⟩:=agl q.q hX hV1 hA2 hA3 hA4;have ok:kP (k1.lines++ms) (·∈X):=by rw[hX];exact P1 q.q
 have rs:∀s b,(s,b)∈T1.map (λt=>(t,false))++T2.map (λt=>(t,true))->dR (k1.lines++ms) (·∈X) s:=λs b hs=>by
  rcases bB.1 hs with hs|hs
  ·obtain⟨t,ht,e⟩:=aM.1 hs;cases e;exact r _ (bq _ ht)
  ·obtain⟨t,ht,e⟩:=aM.1 hs;cases e;exact r _ (bI _ ht)
 have hlnv:∀t,dR (k1.lines++ms) (·∈X) t->sU t/\2<=t.length/\∀x∈t,eX x:=λt ht=>acU ok q.q ht;have hstep:T1.length+T2.length<=700000000:=by
  have h1:=(Mv (T:=T1) λt ht=>(hlnv t (r t (bq _ ht))).2.1).1;have h2:=(Mv (T:=T2) λt ht=>(hlnv t (r t (bI _ ht))).2.1).1;rw[p1] at h1;rw[p2] at h2;have h3:=KX ms;have h4:=KX k1.lines;have h5:=q.few;rw[Ae,yF,Vj] at h5;omega
 refine⟨_,i,λs b hs=>(hlnv s (rs s b hs)).2,λd6 D D' es qs hi hL hE hq=>?_,?_⟩
 ·obtain⟨hT,hr⟩:=abw ok rs hi hL hE hq;obtain⟨t1,t2,t3⟩:=abv ok hT hr p2;obtain⟨lns,V,M,hch⟩:=q.ch;have hD:∀x∈Ls.flatMap aD,TE x.1 x.2:=λx hx=>by
   obtain⟨L,hL',hx⟩:=mO.1 hx;exact(h.tln L hL').2 x hx
  obtain⟨c1,c2⟩:=alg NU hch hD;have hUl:∀U:List (IP×IP),U.Nodup->(∀b,b∈U↔∃x∈Ls.flatMap aD,b=nb x)->U.length<=300:=λU u1 u2=>by
   have:=tj u1 (l₂:=(Ls.flatMap aD).map nb) (λb hb=>by
    obtain⟨x,hx,e⟩:=(u2 b).1 hb;exact aM.2 ⟨x,hx,e.symm⟩)
   rw[cP] at this;have:=h.stp;omega
  have law:=λ(U:List (IP×IP)) (u1:U.Nodup) (u2:∀b,b∈U↔∃x∈Ls.flatMap aD,b=nb x)=>afX hD u1 u2 c1 c2 t1 t2 t3 (hUl U u1 u2);have h2:∀t∈qs.map (·.l),2<=t.length:=λt ht=>(hlnv t (hr t ht)).2.1;obtain⟨l1,l2⟩:=Mv h2;have hcount:((qs.map (·.l)).flatMap aD).length<=120000:=(law (sF (Ls.flatMap aD)) (IA _).1 (IA _).2).2.2;refine⟨λt ht=>(hlnv t (hr t ht)).1,⟨aa,λt ht=>⟨by have:=h2 t ht;omega,by have:=l2 t ht;omega⟩⟩,λU u1 u2=>?_⟩;obtain⟨a1,a2,a3⟩:=law U u1 u2;have hle:nV U+nS U<=300:=by rw[aff];exact hUl U u1 u2
  obtain⟨y,Z,y1,y2,y3⟩:=afK a1 (by rw[a2];exact afY hle) aa aa;rw[a2] at y3;exact⟨y,y1,ajk y2 hle y3⟩
 ·have h1:=ahk i;rw[aW,cP,cP] at h1;omega
end Go.Proofs
