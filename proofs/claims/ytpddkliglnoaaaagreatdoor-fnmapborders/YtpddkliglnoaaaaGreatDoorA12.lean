/- Part 12 of the proof that FnMapBorders returns true for every input that its row lets in. No further condition. -/
import Derived.Test.YtpddkliglnoaaaaGreatDoorA11
set_option linter.all false
set_option autoImplicit true
set_option relaxedAutoImplicit true
namespace Go.Proofs
open Tryz
open Go.V Go.Tiles
def N7 (w h n e:Nat):Bool:=match Go.Tiles.bey w h n e with
 |some j=>bey w h n e==(j:Int)&&Nat.blt j (4*w*h)
 |none=>bey w h n e== -1
def ak5:Bool:=gJ.all λs=>(List.range (4*s.1*s.2)).all λn=>[0,1,2].all λe=>N7 s.1 s.2 n e
theorem ak4:ak5=true:=by decide+kernel
theorem N6 {w h n e:Nat} (hs:(w,h)∈gJ) (hn:n<4*w*h) (he:e<3):(Go.Tiles.bey w h n e=none/\bey (w:Int) h n e= -1)\/∃j,Go.Tiles.bey w h n e=some j/\bey (w:Int) h n e=(j:Int)/\j<4*w*h:=by
 have h1:=kD.1 ak4 _ hs;have h2:=kD.1 h1 n (nL.2 hn);have h3:e=0\/e=1\/e=2:=by omega
 have h4:N7 w h n e=true:=by
  refine kD.1 h2 e ?_;rcases h3 with rfl|rfl|rfl<;>decide
 unfold N7 at h4;split at h4
 ·rename_i j hj;simp only[eI,beq_iff_eq,vM] at h4;exact .inr ⟨j,hj,h4⟩
 ·rename_i hj;simp only[beq_iff_eq] at h4;exact .inl ⟨hj,h4⟩
abbrev bE (b:Bool):List Value:=[.bool b]
abbrev u9 (g:Nat) (l:List Bool):ae:=(g,.cells (l.flatMap bE++[]).toArray 4 (0,0))
abbrev Ay (p:Option Addr) (l:List Bool) (cp:Nat):an:=bF 1 (.slice p l.length cp) l.length (l.flatMap bE)
abbrev E0 (p:Option Addr) (l:List Nat) (cp:Nat):an:=bF 1 (.slice p l.length cp) l.length (l.flatMap iq)
structure PI where
 p:Option Addr
 l:List Nat
 cp:Nat
abbrev PI.v (x:PI):Value:= .slice x.p x.l.length x.cp
abbrev PI.c (x:PI):List Value:=[x.v]
abbrev PI.fact (x:PI):an:=E0 x.p x.l x.cp
def oH (xs:List PI):an where
 p h:=∀x∈xs,x.fact.p h
 mono:=λhle h x hx=>x.fact.mono hle (h x hx)
def q8 (p:Option Addr) (xs:List PI) (cp:Nat):an where
 p h:=(bF 1 (.slice p xs.length cp) xs.length (xs.flatMap PI.c)).p h/\(oH xs).p h
 mono:=λhle ⟨h1,h2⟩=>⟨(bF _ _ _ _).mono hle h1,(oH xs).mono hle h2⟩
abbrev NB (v:Value) (l:List Nat) (B:List ae):Prop:=aJ 3 1 v l.length (l.flatMap iq) B
abbrev PB (v:Value) (l:List PI) (B:List ae):Prop:=aJ 22 1 v l.length (l.flatMap PI.c) B
theorem NB.snoc {v:Value} {l:List Nat} {x:Nat} {B:List ae} (h:aJ 3 1 v (l.length+1) (l.flatMap iq++iq x) B):NB v (l++[x]) B:=by
 have:l.flatMap iq++iq x=(l++[x]).flatMap iq:=by simp
 rw[this] at h;unfold NB;rw[aW];exact h
theorem PB.snoc {v:Value} {l:List PI} {x:PI} {B:List ae} (h:aJ 22 1 v (l.length+1) (l.flatMap PI.c++PI.c x) B):PB v (l++[x]) B:=by
 have:l.flatMap PI.c++PI.c x=(l++[x]).flatMap PI.c:=by simp
 rw[this] at h;unfold PB;rw[aW];exact h
structure tZ (bs seen:List Bool) (acc:List (List Nat)) (part:List Nat):Prop where
 len:seen.length=bs.length
 nd:(acc.flatten++part).Nodup
 mem:∀j,seen[j]? =some true↔j∈acc.flatten++part
 inb:∀j∈acc.flatten++part,bs[j]? =some true
 ne:∀l∈acc,l≠[]
theorem uN {n:Nat} {l:List Nat} (h:l.Nodup) (hb:∀x∈l,x<n):l.length<=n:=by
 have:=tj h (l₂:=List.range n) (λx hx=>nL.2 (hb x hx))
 rwa [Dw] at this
theorem tZ.small {bs seen:List Bool} {acc:List (List Nat)} {part:List Nat} (h:tZ bs seen acc part):part.length<=bs.length/\acc.length<=bs.length:=by
 have h1:=uN h.nd (n:=bs.length) (λx hx=>da (h.inb x hx));rw[aW] at h1;have h2:∀acc:List (List Nat),(∀l∈acc,l≠[])->acc.length<=acc.flatten.length:=by
  intro acc
  induction acc with
  |nil=>intro _;simp
  |cons l acc ih=>
   intro hne;have:=ih λx hx=>hne x (.tail _ hx);have:=DD.2 (hne l (.head _));simp only[cE,oX,aW];omega
 have:=h2 acc h.ne;omega
theorem tZ.add {bs seen:List Bool} {acc:List (List Nat)} {part:List Nat} {j:Nat} (h:tZ bs seen acc part) (hb:bs[j]? =some true) (hs:seen[j]? =some false):tZ bs (seen.set j true) acc (part++[j]):=by
 have hj:=da hs;have hno:j∉acc.flatten++part:=λhm=>by have:=(h.mem j).2 hm;rw[hs] at this;cases this
 have e:acc.flatten++(part++[j])=(acc.flatten++part)++[j]:=by rw[cG]
 refine⟨by rw[Ko];exact h.len,?_,λi=>?_,λi hi=>?_,h.ne⟩
 ·rw[e];refine uF.2 ⟨h.nd,by simp,λa ha b hb' e3=>?_⟩;simp at hb';subst hb';subst e3;exact hno ha
 ·rw[e,bB,<-h.mem i];by_cases hij:j=i
  ·subst hij;rw[yk hj];simp
  ·rw[pe hij];constructor
   ·exact .inl
   ·rintro(h|h)
    ·exact h
    ·simp at h;exact absurd h.symm hij
 ·rw[e] at hi;rcases bB.1 hi with hi|hi
  ·exact h.inb i hi
  ·simp at hi;subst hi;exact hb
theorem tZ.close {bs seen:List Bool} {acc:List (List Nat)} {part:List Nat} (h:tZ bs seen acc part) (hne:part≠[]):tZ bs seen (acc++[part]) []:=by
 have e:(acc++[part]).flatten++[]=acc.flatten++part:=by simp
 refine⟨h.len,by rw[e];exact h.nd,by rw[e];exact h.mem,by rw[e];exact h.inb,λl hl=>?_⟩;rcases bB.1 hl with hl|hl
 ·exact h.ne l hl
 ·simp at hl;subst hl;exact hne
structure IV (bs:List Bool) (ps:List (List Nat)):Prop where
 nd:ps.flatten.Nodup
 mem:∀j,j∈ps.flatten↔bs[j]? =some true
 ne:∀l∈ps,l≠[]
theorem DG (n:Nat):jA [.bool false] 1 n=(List.replicate n false).flatMap bE++[]:=(rX (F:=bE) false rfl rfl bz n).trans (jz _).symm
theorem aei (bs:List Bool):tZ bs (List.replicate bs.length false) [] []:=by
 refine⟨by simp,by simp,λj=>?_,λj hj=>(by simp at hj),λ_ h=>nomatch h⟩;constructor
 ·intro h;have:=bn h;have:=List.eq_of_mem_replicate this;cases this
 ·intro h;simp at h
theorem ak3 {w h n e:Nat} (hs:(w,h)∈gJ) (hn:n<4*w*h) (he:e<3):bey (w:Int) h n e= -1\/∃j:Nat,bey (w:Int) h n e=(j:Int)/\j<4*w*h:=by
 rcases N6 hs hn he with⟨_,h⟩|⟨j,_,h1,h2⟩
 ·exact .inl h
 ·exact .inr ⟨j,h1,h2⟩
theorem ak2 {w h n e:Nat} {bs seen:List Bool} (hs:(w,h)∈gJ) (hn:n<4*w*h) (he:e<3) (h1:bs.length=4*w*h) (h2:seen.length=bs.length):
  bey (w:Int) h n e= -1\/(∃j:Nat,bey (w:Int) h n e=(j:Int)/\bs[j]? =some false/\j<bs.length)\/(∃j:Nat,bey (w:Int) h n e=(j:Int)/\bs[j]? =some true/\seen[j]? =some true/\j<bs.length)\/∃j:Nat,bey (w:Int) h n e=(j:Int)/\bs[j]? =some true/\seen[j]? =some false/\j<bs.length:=by
 rcases ak3 hs hn he with h|⟨j,hj,hjn⟩
 ·exact .inl h
 obtain⟨b,hb⟩:∃b,bs[j]? =some b:=⟨_,aG aa⟩;obtain⟨s,hs⟩:∃s,seen[j]? =some s:=⟨_,aG aa⟩;cases b
 ·exact .inr (.inl ⟨j,hj,hb,aa⟩)
 ·cases s
  ·exact .inr (.inr (.inr ⟨j,hj,hb,hs,aa⟩))
  ·exact .inr (.inr (.inl ⟨j,hj,hb,hs,aa⟩))
variable {w h cp:Nat} {p:Option Addr} {bs:List Bool}
abbrev qN (w h:Nat) (p:Option Addr) (n cp:Nat):List Value:=[iv w,iv h,.slice p n cp]
theorem ad4 (hs:(w,h)∈gJ) (hw:1<=w/\w<=5) (hh:1<=h/\h<=5) (hn:bs.length=4*w*h):ai prog 10 [Bw w h p bs.length cp].toArray [Ay p bs cp] []
  (λv Fs' L'=>(∃p' ps cp',IV bs (ps.map PI.l)/\v= .slice p' ps.length cp'/\Fs'=[q8 p' ps cp'])/\L'=[]):=by
 have hwh:w*h<=5*5:=uD hw.2 hh.2;have hn100:bs.length<=100:=by rw[hn,nK];omega
 refine am func10 λ_=>(au) ?_;intro b1;refine(bR) ?_;refine dl (r:=b1) tA<|(rI) ?_;refine az ab O O O (cY (j:=2) (aR (xs:=qN w h p bs.length cp) mA) O) O<|(dH) ?_;refine ml (e:=4) (size:=1) ab O O O O O O (zl:=[.bool false]) nA O (l:=bs.length) (cp:=bs.length) O O (bg _) O (by show bs.length*1<=_;omega) O λgs=>?_;rw[DG];refine(fo)<|(rD) ?_;refine cL (oH []) (λhp al=>λx hx=>nomatch hx) ?_;refine(cQ) ?_;refine az ab O O O (cY (j:=2) (aR (xs:=qN w h p bs.length cp) mA) O) O<|(gW)<|aU [(4,9),(17,81)] (λ(x:Nat×List Bool×List PI×Value×List ae)=>x.1<=bs.length/\tZ bs x.2.1 (x.2.2.1.map PI.l) []/\(∀j,j<x.1->bs[j]? =some true->j∈(x.2.2.1.map PI.l).flatten)/\PB x.2.2.2.1 x.2.2.1 x.2.2.2.2) (λx=>[(17,iv x.1),(4,x.2.2.2.1)]) (λx=>[oH x.2.2.1]) (λx=>x.2.2.2.2++[u9 gs x.2.1]) (λx=>bs.length-x.1) ((0,List.replicate bs.length false,[],.slice none 0 0,[])) (⟨bf _,aei bs,(λj hj=>absurd hj (iZ _)),aJ.nil 22 1⟩) λ⟨i,seen,ps,pv,pB⟩ fr ⟨h5,h6,h7,h8⟩=>?_;dsimp only at h5 h6 h7 h8;obtain⟨p4,c4,rfl⟩:=h8.shape;refine(cM)<|ao ?_ ?_
 ·intro hc18;have hlt:i<bs.length:=by have:=of_decide_eq_true hc18;dsimp only at this;omega
  obtain⟨b,hb⟩:∃b,bs[i]? =some b:=⟨_,aG hlt⟩;obtain⟨s,hsi⟩:∃s,seen[i]? =some s:=⟨_,aG (by rw[h6.len];exact hlt)⟩;refine(rK)<|(ub) ?_;rcases b with _|_;rotate_left;rcases s with _|_;rotate_left;rotate_left
  ·refine(rI) ?_;refine az ab O O O (cY (j:=2) (aR (xs:=qN w h p bs.length cp) mA) O) O<|(aB) ?_;refine cU (size:=1) (i:=i) ab O O O O O aa mA aa (flat_take (F:=bE) (λ_ _=>O) hb) O λ_ _=>(fM)<|(oR)<|(wR)<|(jK)<|(pK)<|(zi)<|(lO) ?_;exact⟨(i+1,seen,ps,_,pB),oA,⟨by dsimp only;omega,h6,(λj hj hbj=>by{by_cases hji:j=i;subst hji;rw[hb] at hbj;cases hbj;exact h7 j (by dsimp only at hj;omega) hbj}),h8⟩,lA,kA,fA,hA⟩
  ·refine(rI) ?_;refine az ab O O O (cY (j:=2) (aR (xs:=qN w h p bs.length cp) mA) O) O<|(aB) ?_;refine cU (size:=1) (i:=i) ab O O O O O aa mA aa (flat_take (F:=bE) (λ_ _=>O) hb) O λ_ _=>(fM)<|(oR)<|(pI) ?_;refine ah O O (bp (s:=1) (i:=i) ab O O O O O aa aa O ?_);refine ah O O (az ab O O O (jo (F:=bE) (k:=1) (i:=0) (io mA) (λ_ _=>O) hsi O aa) O<|(pJ)<|(ce) ?_);have h9:=h6.add hb hsi;refine(cO) ?_;refine bp (s:=1) (i:=i) ab O O O O O aa aa O ?_;refine sp (F:=bE) (k:=1) (l:=seen) (j:=i) (tl:=[]) ab O (λ_=>O) true O aa O O O O (by have:=h6.len;omega) uA<|(qC)<|(eD) ?_;intro b36;refine(oQ)<|aU [(6,9),(37,76)] (λ(x:Nat×List Bool×List Nat×Value×List ae)=>x.1<=x.2.2.1.length/\tZ bs x.2.1 (ps.map PI.l) x.2.2.1/\i∈x.2.2.1/\NB x.2.2.2.1 x.2.2.1 x.2.2.2.2) (λx=>[(7,iv x.1),(6,x.2.2.2.1)]) (λ_=>[]) (λx=>x.2.2.2.2++(pB++[u9 gs x.2.1])) (λx=>bs.length-x.1) ((0,seen.set i true,[i],.slice (some ⟨b36,0,none⟩) 1 1,[(b36,.cells [iv i].toArray 3 (0,0))])) (⟨bf _,h9,dK,⟨O,.inr ⟨b36,1,_,O,O,bg _,by decide,O,O⟩⟩⟩) λ⟨k,seen1,part,pv1,B1⟩ fr1 ⟨k5,k6,k7,k8⟩=>?_;dsimp only at k5 k6 k7 k8;obtain⟨p6,c6,rfl⟩:=k8.shape;have hpl:=k6.small.1;refine(lL)<|(dH)<|(kU)<|ao ?_ ?_
   ·intro hc40;have hlk:k<part.length:=by have:=of_decide_eq_true hc40;dsimp only at this;omega
    refine(rK)<|(dF)<|aU [(6,6),(8,9),(43,76)] (λ(x:Nat×List Bool×List Nat×Value×List ae)=>x.1<=3/\tZ bs x.2.1 (ps.map PI.l) x.2.2.1/\i∈x.2.2.1/\NB x.2.2.2.1 x.2.2.1 x.2.2.2.2/\k<x.2.2.1.length) (λx=>[(43,iv x.1),(6,x.2.2.2.1)]) (λ_=>[]) (λx=>x.2.2.2.2++(pB++[u9 gs x.2.1])) (λx=>3-x.1) ((0,seen1,part,.slice p6 part.length c6,B1)) (⟨bf _,k6,k7,k8,hlk⟩) λ⟨e,seen2,part2,pv2,B2⟩ fr2 ⟨l5,l6,l7,l8,l9⟩=>?_;dsimp only at l5 l6 l7 l8 l9;obtain⟨p7,c7,rfl⟩:=l8.shape;have hpl2:=l6.small.1;refine(cM)<|ao ?_ ?_
    ·intro hc44;have he:e<3:=by have:=of_decide_eq_true hc44;dsimp only at this;omega
     obtain⟨m,hm⟩:∃m,part2[k]? =some m:=⟨_,aG l9⟩;have hmn:m<bs.length:=da (l6.inb m (bI _ (bn hm)));have hj:=ak2 (n:=m) (e:=e) (bs:=bs) (seen:=seen2) hs (by rw[<-hn];exact hmn) he hn l6.len;obtain⟨g2,cap2,cur2,e5,hB2,q1,q2,q3,q4⟩:=l8.one aa;cases e5;subst hB2;rw[vK] at q4;refine(rK)<|(bR)<|(CX) ?_;refine ac O (aK ab O O O (aR (xs:=qN w h p bs.length cp) mA) O O)<|(zn) ?_;refine ac O (bp (s:=1) (i:=k) ab O O O O O aa aa O) ?_;refine ac O (az ab O O O (q9 (F:=iq) (k:=1) (i:=0) (iI mA q4) (λ_ _=>O) hm O aa) O)<|(bh) ?_;refine ac O (λkX=>aj eA call12 (N5 (w:=w) (h:=h) (n:=m) (e:=e) (p:=p) (k:=bs.length) (cp:=cp) aa aa aa) kX)<|(jY)<|(bR) ?_;rcases hj with hj|⟨j,hj,hbj,hjn⟩|⟨j,hj,hbj,hsj,hjn⟩|⟨j,hj,hbj,hsj,hjn⟩<;>rw[hj]
     ·refine(aY) ?_;refine aL O O (by show some (decide ((-1:Int)>=0))=some false;rfl) O<|(Jc)<|(Jc)<|(gH)<|(lO) ?_;exact⟨(e+1,seen2,part2,_,_),oA,⟨by dsimp only;omega,l6,l7,l8,l9⟩,lA,kA,fA,hA⟩
     ·refine(aY) ?_;refine aL O O (iT (p:=(j:Int)>=0) aa) O<|(aB)<|(iQ) ?_;refine ah O O (az ab O O O (cY (j:=2) (aR (xs:=qN w h p bs.length cp) mA) O) O<|(fN) ?_);refine ah O O (cU (size:=1) (i:=j) ab O O O O O aa mA aa (flat_take (F:=bE) (λ_ _=>O) hbj) O λ_ _=>(FB)<|(fD)<|(Jc)<|(gH)<|(lO) ?_);exact⟨(e+1,seen2,part2,_,_),oA,⟨by dsimp only;omega,l6,l7,l8,l9⟩,lA,kA,fA,hA⟩
     ·refine(aY) ?_;refine aL O O (iT (p:=(j:Int)>=0) aa) O<|(aB)<|(iQ) ?_;refine ah O O (az ab O O O (cY (j:=2) (aR (xs:=qN w h p bs.length cp) mA) O) O<|(fN) ?_);refine ah O O (cU (size:=1) (i:=j) ab O O O O O aa mA aa (flat_take (F:=bE) (λ_ _=>O) hbj) O λ_ _=>(FB)<|(fD)<|(pI) ?_);refine ah O O (bp (s:=1) (i:=j) ab O O O O O aa aa O ?_);refine ah O O (az ab O O O (jo (F:=bE) (k:=1) (i:=0) (io mA) (λ_ _=>O) hsj O aa) O<|(JB)<|(fD)<|(gH)<|(lO) ?_);exact⟨(e+1,seen2,part2,_,_),oA,⟨by dsimp only;omega,l6,l7,l8,l9⟩,lA,kA,fA,hA⟩
     ·refine(aY) ?_;refine aL O O (iT (p:=(j:Int)>=0) aa) O<|(aB)<|(iQ) ?_;refine ah O O (az ab O O O (cY (j:=2) (aR (xs:=qN w h p bs.length cp) mA) O) O<|(fN) ?_);refine ah O O (cU (size:=1) (i:=j) ab O O O O O aa mA aa (flat_take (F:=bE) (λ_ _=>O) hbj) O λ_ _=>(FB)<|(fD)<|(pI) ?_);refine ah O O (bp (s:=1) (i:=j) ab O O O O O aa aa O ?_);refine ah O O (az ab O O O (jo (F:=bE) (k:=1) (i:=0) (io mA) (λ_ _=>O) hsj O aa) O<|(JB)<|(pK)<|(fb) ?_);refine bp (s:=1) (i:=j) ab O O O O O aa aa O ?_;refine sp (F:=bE) (k:=1) (l:=seen2) (j:=j) (tl:=[]) ab O (λ_=>O) true O aa O O O O (by have:=da hsj;omega) uA<|(aN)<|(cO)<|(eD) ?_;intro b74;refine di (e:=3) (size:=1) (news:=iq j) ab O O O O O O O (B:=[(g2,.cells cur2 3 (0,0))]) tA l8 O (bD mA) O O dp (by show(part2.length+1)*8<=_;omega) O λv' B' hs'=>(jr) ?_;exact⟨(e+1,seen2.set j true,part2++[j],v',B'),oA,⟨by dsimp only;omega,l6.add hbj hsj,bq _ l7,NB.snoc hs',by dsimp only;rw[aW];omega⟩,lA,kA,fA,hA⟩
    ·intro hc44
     skip
     refine(eG)<|(jM) ?_;exact⟨(k+1,seen2,part2,_,_),oA,⟨by dsimp only;omega,l6,l7,l8⟩,lA,kA,fA,hA⟩
   ·intro hc40;have hkk:k=part.length:=by have:=of_decide_eq_false hc40;dsimp only at this;omega
    refine(eG) ?_;refine eN k8 tA ?_;have hcl:=k6.close (λe0=>by{subst e0;cases k7});have hpsl:=h6.small.2;rw[cP] at hpsl;refine(cO)<|(eD) ?_;intro b79;refine di (e:=22) (size:=1) (news:=[.slice p6 part.length c6]) ab O O O O O O O (B:=pB) tA h8 O (bD mA) O O dp (by show(ps.length+1)*24<=_;omega) O λv' B' hs'=>?_;have hs2:PB v' (ps++[⟨p6,part,c6⟩]) B':=PB.snoc (x:=⟨p6,part,c6⟩) hs';refine cL (oH (ps++[⟨p6,part,c6⟩])) (λhp al=>λx hx=>by{rcases bB.1 hx with hx|hx;exact al (oH ps) mA x hx;simp at hx;subst hx;exact al _ (.head _)})<|(jr) ?_;exact⟨(i+1,seen1,ps++[⟨p6,part,c6⟩],v',B'),oA,⟨by dsimp only;omega,(by dsimp only;rw[dX];exact hcl),(λj hj hbj=>by{dsimp only;rw[dX,o0];by_cases hji:j=i;subst hji;exact bI _ (by simpa using k7);exact bq _ (h7 j (by dsimp only at hj;omega) hbj)}),hs2⟩,lA,kA,fA,hA⟩
  ·refine(rI) ?_;refine az ab O O O (cY (j:=2) (aR (xs:=qN w h p bs.length cp) mA) O) O<|(aB) ?_;refine cU (size:=1) (i:=i) ab O O O O O aa mA aa (flat_take (F:=bE) (λ_ _=>O) hb) O λ_ _=>(fM)<|(oR)<|(pI) ?_;refine ah O O (bp (s:=1) (i:=i) ab O O O O O aa aa O ?_);refine ah O O (az ab O O O (jo (F:=bE) (k:=1) (i:=0) (io mA) (λ_ _=>O) hsi O aa) O<|(gm)<|(vE)<|(zi)<|(lO) ?_);exact⟨(i+1,seen,ps,_,pB),oA,⟨by dsimp only;omega,h6,(λj hj hbj=>by{by_cases hji:j=i;subst hji;have h1:=(h6.mem j).1 hsi;simpa using h1;exact h7 j (by dsimp only at hj;omega) hbj}),h8⟩,lA,kA,fA,hA⟩
 ·intro hc18;have hge:i=bs.length:=by have:=of_decide_eq_false hc18;dsimp only at this;omega
  have hfin:IV bs (ps.map PI.l):=⟨by{have:=h6.nd;rwa [jz] at this},λj=>⟨λhj=>h6.inb j (by rw[jz];exact hj),λhj=>h7 j (by rw[hge];exact da hj) hj⟩,h6.ne⟩;refine(jh) ?_;refine eN h8 tA ?_;refine cI (q8 p4 ps c4) (λhp al=>⟨al _ (.head _),al (oH ps) mA⟩)<|(aY)<|(bO)<|aH [q8 p4 ps c4] [] ?_;exact⟨⟨p4,ps,c4,hfin,O,O⟩,O⟩
end Go.Proofs
namespace Go.Proofs
open Tryz
open Go.V Go.Tiles
abbrev bT (P:IP):List Value:=[iv P.1,iv P.2]
abbrev E1 (p:Option Addr) (L:List IP) (cp:Nat):an:=bF 2 (.slice p L.length cp) L.length (L.flatMap bT)
def sm (P:IP):Prop:=(-100<=P.1/\P.1<=100)/\ -100<=P.2/\P.2<=100
theorem Q9 {a b:Int} (h1: -100<=a/\a<=100) (h2: -100<=b/\b<=100): -10000<=a*b/\a*b<=10000:=by
 have e:(a*b).natAbs=a.natAbs*b.natAbs:=O6 a b;have k3:a.natAbs*b.natAbs<=100*100:=uD aa aa;rw[<-e] at k3;omega
variable {p:Option Addr} {cp:Nat} {L:List IP}
theorem Gt (h:∀P∈L,sm P) (hb:L.length<=1000):ai prog 24 [.slice p L.length cp].toArray [E1 p L cp] [] (λv Fs' L'=>(∃t:Int,v=iv t/\Fs'=[])/\L'=[]):=by
 refine am func24 λ_=>(y8)<|(nu)<|aU [(3,6),(9,35)] (λ(x:Nat×Int)=>x.1<=L.length/\ -20000*(x.1:Int)<=x.2/\x.2<=20000*(x.1:Int)) (λx=>[(9,iv x.1),(3,iv x.2)]) (λ_=>[]) (λ_=>[]) (λx=>L.length-x.1) ((0,0)) (⟨bf _,by simp,by simp⟩) λ⟨i,s⟩ fr ⟨h5,h6,h7⟩=>?_;dsimp only at h5 h6 h7;refine(cM)<|ao ?_ ?_
 ·intro hc10;have hlt:i<L.length:=by have:=of_decide_eq_true hc10;dsimp only at this;omega
  obtain⟨P,hP⟩:∃P,L[i]? =some P:=⟨_,aG hlt⟩;obtain⟨Q,hQ⟩:∃Q,L[(i+1)%L.length]? =some Q:=⟨_,aG (nI _ aa)⟩;have sP:=h P (bn hP);have sQ:=h Q (bn hQ);have m1:=Q9 sP.1 sQ.2;have m2:=Q9 sQ.1 sP.2;have hml:(i+1)%L.length<L.length:=nI _ aa;refine(rK) ?_;refine cU (size:=2) (i:=i) ab O O O O O aa mA aa (flat_take (F:=bT) (λ_ _=>O) hP) O λ_ _=>?_;refine aK ab O O O (aR (xs:=bT P) mA) O O<|(aq) ?_;intro r5;refine(gb)<|(cu)<|(fb) ?_;refine dD (m:=((i+1:Nat):Int)) O O aa ⟨aa,aa⟩ O ?_;refine(aB)<|(dH) ?_;refine uR (i:=i+1) (m:=L.length) O O O O aa O ?_;refine cU (size:=2) (i:=((i+1)%L.length)) ab O O O O O aa mA aa (flat_take (F:=bT) (λ_ _=>O) hQ) O λ_ _=>?_;refine aK ab O O O (aR (xs:=bT Q) mA) O O<|(aq) ?_;intro r6;refine(cu)<|(aY)<|(zk) ?_;refine iM (m:=P.1*Q.2) O O O ⟨aa,aa⟩ O ?_;refine(zk) ?_;refine iM (m:=Q.1*P.2) O O O ⟨aa,aa⟩ O ?_;refine ew (m:=P.1*Q.2-Q.1*P.2) O O O ⟨aa,aa⟩ O ?_;refine dD (m:=s+(P.1*Q.2-Q.1*P.2)) O O O ⟨aa,aa⟩ O ?_;refine(jr) ?_;exact⟨(i+1,s+(P.1*Q.2-Q.1*P.2)),oA,⟨by dsimp only;omega,by dsimp only;omega,by dsimp only;omega⟩,lA,kA,fA,hA⟩
 ·intro hc10;exact(CU)<|I7
end Go.Proofs
namespace Go.V
section
variable {P:Program} {c:bC} {n:Nat} {ops:Array Oper} {Fs:List an} {L:List ae} {f:Fm} {Q:bG} {rest:List Oper}
variable {d:Nat} {ty:TypeId} {ps:String} {aft:Array Edge} {aC:Nat->Option TI} {x y:Operand} {T T':TypeId}
theorem RJ {hi mx:Operand} {len cap h m:Nat} {ki kj:IntKind} {a b:Int} (h2:ap f hi= .b (.int ki a)) (ha:a=h) (h3:ap f mx= .b (.int kj b)) (hb:b=m) (hhm:h<=m) (hc:m<=cap) (w:World):
  (Instr.sliceBounds true len cap none (some (ap f hi).v) (some (ap f mx).v)).run P w= .ok (0,h,m) w:=by
 subst ha;subst hb;simp[Instr.sliceBounds,h2,h3,Bx.v_b,BE (P:=P) (i:=0) hc,BE (P:=P) (i:=0) hhm]
theorem UB {e size:Nat} {xv yv:Value} {k':Nat} {xs':List Value} (hx:ap f x= .b xv) (hy:ap f y= .b yv) (hd:Nat.blt d n=true)
  (hr:∀h w,dN c h L w->cr Fs h->∃v' cur',(Builtin.append_ #[T,T] ty #[xv,yv]).run P w= .ok v' ((w.drew).alloc (.cells cur' e))/\aJ e size v' k' xs' [(w.heap.size,.cells cur' e (0,0))])
  (K:∀v',ak P c n ops (bF size v' k' xs'::Fs) L (aT f d v') rest Q):
  ak P c n ops Fs L f (⟨some d,.call ⟨.builtin .append, #[x,y], #[T,T]⟩,ty,ps,aft,none⟩::rest) Q:=by
 refine mX O (bU hd) λh w re al=>?_;obtain⟨v',cur',hrr,hs⟩:=hr h w re al;have hrun:(execOp (λx=>(ap f x).v) ⟨some d,.call ⟨.builtin .append, #[x,y], #[T,T]⟩,ty,ps,aft,none⟩).run P w= .ok (.value v') ((w.drew).alloc (.cells cur' e)):=by
  simp only[execOp,resolve,bo,bS,bV,invoke,builtin,nN,dV,th,hx,hy,Bx.v_b,hrr]
 have re2:=(re.draw (w.drawn+1)).push (.cells cur' e);exact⟨_,_,Fs,L++[(w.heap.size,.cells cur' e (0,0))],h,hrun,re2.perm (yh (l₁:=[_])),al,xJ hs bv.back (K v')⟩
theorem ah7 (Tb:bZ P aC) {ti te:TI} (ht:aC T=some ti) (hk:ti.kind=1) {e:Nat} (hel:ti.elT=e) (hte:aC e=some te) {size:Nat} (hsz:te.sz=size) (hzc:te.zero.v.cells.size=size)
  {q:Option Addr} {k:Nat} {xs:List Value} (hx:ap f x= .b (.slice q k k)) (hmx:bF size (.slice q k k) k xs∈Fs)
  {yv:Value} {m:Nat} {news:List Value} (hy:ap f y= .b yv) (hm:bF size yv m news∈Fs)
  (h63:k+m<=maxLen) (hby:(k+m)*te.bytes<=140737488355328) (hd:Nat.blt d n=true)
  (K:∀v',ak P c n ops (bF size v' (k+m) (xs++news)::Fs) L (aT f d v') rest Q):
  ak P c n ops Fs L f (⟨some d,.call ⟨.builtin .append, #[x,y], #[T,T]⟩,ty,ps,aft,none⟩::rest) Q:=by
 subst hel;obtain⟨hdesc,_⟩:=(Tb T ti ht).el hk;have hu:=ts (Tb T ti ht) hdesc;obtain⟨inf,hinf,hi1,hi2,hi3⟩:=(Tb _ te hte).info;have his:inf.size=size:=hi1.trans hsz;by_cases hm0:m=0
 ·subst hm0;refine qX (φ:=λ(z:Option Addr×Nat)=>yv= .slice z.1 0 z.2/\news=[]) (G:=λz=>[bF size (.slice q k k) k xs]) (λhp al=>?_) (λz hz=>?_)
  ·obtain⟨e1,e2⟩:=al _ hm;have hx:=al _ hmx;have hn:news=[]:=ow (by simpa using e1);rcases e2 with⟨z,cp,e,_⟩|⟨g,o,cap,e,_,hc⟩
   ·exact⟨(z,cp),⟨e,hn⟩,.cons hx (λ_ h=>nomatch h)⟩
   ·exact⟨(_,cap),⟨e,hn⟩,.cons hx (λ_ h=>nomatch h)⟩
  ·obtain⟨rfl,rfl⟩:=hz;refine dh O (bU hd) (.slice q k k) (λhh w sa al=>?_) ?_
   ·simp only[execOp,resolve,bo,bS,bV,invoke,builtin,nN,dV,th,hx,hy,Bx.v_b];cases q<;>cases z.1<;>simp[Builtin.append_,run_underlying hu,sizeOf,typeInfo,hinf,Builtin.lenOf,Builtin.firstCells,loadCells,loadCellsFrom,storeCells]
   ·have:=K (.slice q k k);rw[wY,jz] at this;exact this.weaken (λx hx=>by
     rcases bm.1 hx with rfl|hx
     ·exact .head _
     ·exact .tail _ hx) (gx _)
 ·refine qX (φ:=λ(z:(Nat×Nat×Nat))=>(yv= .slice (some ⟨z.1,z.2.1,none⟩) m z.2.2/\news.length=m*size)/\xs.length=k*size) (G:=λz=>[aO z.1 z.2.1 news]) (λhp al=>?_) (λz hz=>?_)
  ·obtain⟨e1,e2⟩:=al _ hm;have hxx:=al _ hmx;rcases e2 with⟨_,_,_,e'⟩|⟨g,o,cap,e,_,hc⟩
   ·omega
   ·exact⟨(g,o,cap),⟨⟨e,e1⟩,hxx.1⟩,.cons hc (λ_ h=>nomatch h)⟩
  ·obtain⟨⟨rfl,hnl⟩,hxl⟩:=hz;have hlen:(xs++news).length=(k+m)*size:=by rw[aW,hxl,hnl,Gh]
   have h64:((k+m:Nat):Int)<=9223372036854775807:=by simp only[maxLen] at h63;omega
   have grown:∀(w:World) (old:Nat),old<k+m->aJ ti.elT size (.slice (some ⟨w.heap.size,0,none⟩) (k+m) (grownCap w (k+m) old ti.elT)) (k+m) (xs++news)
     [(w.heap.size,.cells (xs.toArray++news.toArray++Builtin.zeroCells te.zero.v.cells (grownCap w (k+m) old ti.elT-(k+m))) ti.elT (0,0))]:=by
    intro w old ho;have hge:=grownCap_ge w (k+m) old ti.elT;have hcm:grownCap w (k+m) old ti.elT<=maxLen:=grownCap_le_maxLen w (k+m) old ti.elT h63;refine⟨hlen,.inr ⟨w.heap.size,_,_,O,O,hge,hcm,?_,?_⟩⟩
    ·simp only[Pk,ox,size_zeroCells,hzc,hxl,hnl,<-Gh];congr 1;omega
    ·simp only[J8,cG];rw[<-cG,<-hlen];exact J7
   have K1:∀v',ak P c n ops (bF size v' (k+m) (xs++news)::(aO z.1 z.2.1 news::Fs)) L (aT f d v') rest Q:=λv'=>(K v').weaken (λx hx=>by
     rcases bm.1 hx with rfl|hx
     ·exact .head _
     ·exact .tail _ (.tail _ hx)) (gx _)
   by_cases hk0:k=0
   ·subst hk0;have hx0:xs=[]:=ow (by simpa using hxl);subst hx0;refine UB (e:=ti.elT) hx hy hd (λh w re al=>?_) K1;have hnews:∀j u,news[j]? =some u->w.cell? ((⟨z.1,z.2.1,none⟩:Addr).add j)=some u:=λj u hj=>by
     rw[nk];exact aR (L:=L) (.head _) h w re.sat al j u hj
    cases q with
    |none=>
     have hr:=run_append_nil (P:=P) w T ty ti.elT inf te.zero.v hu hinf hi3 ⟨z.1,z.2.1,none⟩ m z.2.2 news (by rw[his];exact hnl) hnews aa aa (by rw[hi2];have:=hby;simp only[gX] at this;omega);have hgr:=grown w 0 aa;simp only[gX,j6,Array.empty_append] at hgr ⊢;exact⟨_,_,hr,hgr⟩
    |some b=>
     have hr:=run_append_grow (P:=P) w T ty ti.elT inf te.zero.v hu hinf hi3 b 0 0 [] dK (λj u hj=>by simp at hj) ⟨z.1,z.2.1,none⟩ m z.2.2 news (by rw[his];exact hnl) hnews aa h64 (growslice_fits aa (by rw[hi2];exact hby));exact⟨_,_,hr,grown w 0 aa⟩
   ·refine qX (φ:=λ(y:Nat×Nat)=>q=some ⟨y.1,y.2,none⟩) (G:=λy=>[aO y.1 y.2 xs]) (λhp al=>?_) (λy hy'=>?_)
    ·obtain⟨_,x2⟩:=al _ (bI _ hmx);rcases x2 with⟨_,_,_,e'⟩|⟨g,o,cap,e,_,hc⟩
     ·omega
     ·cases e;exact⟨(g,o),rfl,.cons hc (λ_ h=>nomatch h)⟩
    ·subst hy';refine UB (e:=ti.elT) hx hy hd (λh w re al=>?_) (λv'=>(K1 v').weaken (λx hx=>by
      rcases bm.1 hx with rfl|hx
      ·exact .head _
      ·exact .tail _ (bI _ hx)) (gx _))
     have hnews:∀j u,news[j]? =some u->w.cell? ((⟨z.1,z.2.1,none⟩:Addr).add j)=some u:=λj u hj=>by
      rw[nk];exact aR (L:=L) (bI _ (.head _)) h w re.sat al j u hj
     have hold:∀j u,xs[j]? =some u->w.cell? ((⟨y.1,y.2,none⟩:Addr).add j)=some u:=λj u hj=>by
      rw[nk];exact aR (L:=L) (.head _) h w re.sat al j u hj
     have hr:=run_append_grow (P:=P) w T ty ti.elT inf te.zero.v hu hinf hi3 ⟨y.1,y.2,none⟩ k k xs (by rw[his];exact hxl) hold ⟨z.1,z.2.1,none⟩ m z.2.2 news (by rw[his];exact hnl) hnews aa h64 (growslice_fits aa (by rw[hi2];exact hby));exact⟨_,_,hr,grown w k aa⟩
end
end Go.V
namespace Go.Proofs
open Go.V Go.Tiles Go.Edges
abbrev eS (e:IP×IP):List Value:=[iv e.1.1,iv e.1.2,iv e.2.1,iv e.2.2]
abbrev WB (v:Value) (l:List (IP×IP)) (B:List ae):Prop:=aJ 130 4 v l.length (l.flatMap eS) B
abbrev Ax (v:Value) (l:List (IP×IP)):an:=bF 4 v l.length (l.flatMap eS)
abbrev RB (v:Value) (l:List IP) (B:List ae):Prop:=aJ 34 2 v l.length (l.flatMap bT) B
theorem Vq {size n:Nat} {v:Value} {xs:List Value} {h:PH} (k:(bF size v n xs).p h):∃q cp,v= .slice q n cp:=by
 rcases k.2 with⟨q,cp,e,e'⟩|⟨g,o,cap,e,_⟩
 ·subst e';exact⟨q,cp,e⟩
 ·exact⟨_,_,e⟩
theorem WB.snoc {v:Value} {l:List (IP×IP)} {x:IP×IP} {B:List ae} (h:aJ 130 4 v (l.length+1) (l.flatMap eS++eS x) B):WB v (l++[x]) B:=by
 have:l.flatMap eS++eS x=(l++[x]).flatMap eS:=by simp
 rw[this] at h;unfold WB;rw[aW];exact h
theorem RB.snoc {v:Value} {l:List IP} {x:IP} {B:List ae} (h:aJ 34 2 v (l.length+1) (l.flatMap bT++bT x) B):RB v (l++[x]) B:=by
 have:l.flatMap bT++bT x=(l++[x]).flatMap bT:=by simp
 rw[this] at h;unfold RB;rw[aW];exact h
theorem zX (l:List (IP×IP)):(l.flatMap eS).length=l.length*4:=kJ (F:=eS) λ_ _=>rfl
theorem Ku (l:List (IP×IP)) (i:Nat):(l.flatMap eS).drop (i*4)=(l.drop i).flatMap eS:=by
 induction l generalizing i with
 |nil=>simp
 |cons p l ih=>
  cases i with
  |zero=>simp
  |succ i=>have:=ih i;simp only[dC,FW,lU] at this ⊢;simp[this]
theorem X1 (l:List (IP×IP)) (i:Nat):(l.flatMap eS).take (i*4)=(l.take i).flatMap eS:=by
 induction l generalizing i with
 |nil=>simp
 |cons p l ih=>
  cases i with
  |zero=>simp
  |succ i=>have:=ih i;simp only[dC,PA,lU] at this ⊢;simp[this]
structure RI where
 p:Option Addr
 l:List IP
 cp:Nat
abbrev RI.v (x:RI):Value:= .slice x.p x.l.length x.cp
abbrev RI.c (x:RI):List Value:=[x.v]
abbrev RI.fact (x:RI):an:=E1 x.p x.l x.cp
def gi (xs:List RI):an where
 p h:=∀x∈xs,x.fact.p h
 mono:=λhle h x hx=>x.fact.mono hle (h x hx)
def EY (p:Option Addr) (xs:List RI) (cp:Nat):an where
 p h:=(bF 1 (.slice p xs.length cp) xs.length (xs.flatMap RI.c)).p h/\(gi xs).p h
 mono:=λhle ⟨h1,h2⟩=>⟨(bF _ _ _ _).mono hle h1,(gi xs).mono hle h2⟩
abbrev CJ (v:Value) (l:List RI) (B:List ae):Prop:=aJ 53 1 v l.length (l.flatMap RI.c) B
theorem CJ.snoc {v:Value} {l:List RI} {x:RI} {B:List ae} (h:aJ 53 1 v (l.length+1) (l.flatMap RI.c++RI.c x) B):CJ v (l++[x]) B:=by
 have:l.flatMap RI.c++RI.c x=(l++[x]).flatMap RI.c:=by simp
 rw[this] at h;unfold CJ;rw[aW];exact h
def jI (l:List IP):List IP:=l++l.head?.toList
structure IR (E:List (IP×IP)) (rs:List (List IP)):Prop where
 perm:(rs.flatMap λl=>aD (jI l)).Perm E
 len:∀l∈rs,3<=l.length
structure sH (E:List (IP×IP)) (done:List (List IP)) (ring:List IP) (r0 b:IP) (left:List (IP×IP)):Prop where
 perm:((done.flatMap λl=>aD (jI l))++(aD (ring++[b])++left)).Perm E
 bal:∀v,fG (lq v) left+lq v (r0,b)=0
 head:ring.head? =some r0
 len:∀l∈done,3<=l.length
structure xV (E:List (IP×IP)) (done:List (List IP)) (left:List (IP×IP)):Prop where
 perm:((done.flatMap λl=>aD (jI l))++left).Perm E
 bal:FR left
 len:∀l∈done,3<=l.length
structure FO (E:List (IP×IP)):Prop where
 ne:∀e∈E,e.1≠e.2
 rev:∀e∈E,(e.2,e.1)∉E
 sm:∀e∈E,sm e.1/\sm e.2
theorem xV.start {E:List (IP×IP)} {done:List (List IP)} {a b:IP} {left:List (IP×IP)} (h:xV E done ((a,b)::left)):sH E done [a] a b left:=by
 refine⟨h.perm,λv=>?_,O,h.len⟩;have:=h.bal v;simp only[fG] at this;omega
theorem adV {α:Type} {l:List α} {k:Nat} {e:α} (h:l[k]? =some e):l.Perm (e::(l.take k++l.drop (k+1))):=by
 have h1:=xM h;have h2:(l.take k++e::l.drop (k+1)).Perm (e::(l.take k++l.drop (k+1))):=yi;rw[<-h1] at h2;exact h2
theorem adx {α:Type}:∀(l:List α) (b c:α),aD (l++[b]++[c])=aD (l++[b])++[(b,c)]:=by
 intro l b c;have:=R3 l b c;simpa using this
theorem sH.step {E:List (IP×IP)} {done:List (List IP)} {ring:List IP} {r0 b c:IP} {left:List (IP×IP)} {k:Nat} (h:sH E done ring r0 b left) (hk:left[k]? =some (b,c)):
  sH E done (ring++[b]) r0 c (left.take k++left.drop (k+1)):=by
 have hp:=adV hk;refine⟨?_,λv=>?_,?_,h.len⟩
 ·rw[adx];refine JT (DC _ ?_) h.perm;rw[cG];exact DC _ hp.symm
 ·have h1:=h.bal v;rw[QJ (lq v) hp] at h1;simp only[fG] at h1;unfold lq at h1 ⊢;dsimp only at h1 ⊢;omega
 ·have:=h.head;cases ring with
  |nil=>cases this
  |cons x l=>simpa using this
theorem sH.close {E:List (IP×IP)} {done:List (List IP)} {ring:List IP} {r0:IP} {left:List (IP×IP)} (hE:FO E) (h:sH E done ring r0 r0 left):xV E (done++[ring]) left:=by
 have hc:jI ring=ring++[r0]:=by unfold jI;rw[h.head];rfl
 refine⟨?_,λv=>?_,λl hl=>?_⟩
 ·rw[ft,zT,hc,cG];exact h.perm
 ·have:=h.bal v;unfold lq at this;dsimp only at this;unfold FR at*;have e:∀v,fG (lq v) left=0:=λv=>by have:=h.bal v;unfold lq at this ⊢;dsimp only at this;omega
  exact e v
 ·rcases bB.1 hl with hl|hl
  ·exact h.len l hl
  ·simp at hl;rw[hl];clear hl;have hhd:=h.head;have hmem:∀s∈aD (ring++[r0]),s∈E:=λs hs=>h.perm.mem_iff.1 (bI _ (bq _ hs))
   match ring,hhd,hmem with
   |[],hh,_=>cases hh
   |[x],hh,hmem=>
    simp at hh;subst hh;exact absurd O (hE.ne _ (hmem (x,x) (.head _)))
   |[x,y],hh,hmem=>
    simp at hh;subst hh;exact absurd (hmem (y,x) (.tail _ (.head _))) (hE.rev _ (hmem (x,y) (.head _)))
   |_::_::_::_,_,_=>simp
theorem sH.on {E:List (IP×IP)} {done:List (List IP)} {ring:List IP} {r0 b:IP} {left:List (IP×IP)} (h:sH E done ring r0 b left) (hne:r0≠b):∃(i:Nat) (e:IP×IP),left[i]? =some e/\e.1=b:=abL h.bal hne
theorem sH.mem {E:List (IP×IP)} {done:List (List IP)} {ring:List IP} {r0 b:IP} {left:List (IP×IP)} (h:sH E done ring r0 b left):∀e∈left,e∈E:=λe he=>h.perm.mem_iff.1 (bI _ (bI _ he))
theorem xV.mem {E:List (IP×IP)} {done:List (List IP)} {left:List (IP×IP)} (h:xV E done left):∀e∈left,e∈E:=λe he=>h.perm.mem_iff.1 (bI _ he)
theorem sH.small {E:List (IP×IP)} {done:List (List IP)} {ring:List IP} {r0 b:IP} {left:List (IP×IP)} (h:sH E done ring r0 b left):left.length<=E.length/\ring.length<=E.length:=by
 have h1:=h.perm.length_eq;have h2:∀l:List IP,(aD (l++[b])).length=l.length:=by
  intro l
  induction l with
  |nil=>rfl
  |cons x l ih=>cases l with
   |nil=>rfl
   |cons y l=>simp only[pY,aD,cE] at ih ⊢;omega
 simp only[aW,h2] at h1;omega
theorem xV.small {E:List (IP×IP)} {done:List (List IP)} {left:List (IP×IP)} (h:xV E done left):left.length<=E.length/\3*done.length<=E.length:=by
 have h1:=h.perm.length_eq;have hcl:∀l:List IP,l≠[]->(aD (jI l)).length=l.length:=by
  have h2:∀(b:IP) (l:List IP),(aD (l++[b])).length=l.length:=by
   intro b l
   induction l with
   |nil=>rfl
   |cons x l ih=>cases l with
    |nil=>rfl
    |cons y l=>simp only[pY,aD,cE] at ih ⊢;omega
  intro l hl;cases l with
  |nil=>exact absurd rfl hl
  |cons a l=>exact h2 a (a::l)
 have h3:∀ds:List (List IP),(∀l∈ds,3<=l.length)->3*ds.length<=(ds.flatMap λl=>aD (jI l)).length:=by
  intro ds
  induction ds with
  |nil=>intro _;simp
  |cons d ds ih=>
   intro h;have:=ih λl hl=>h l (.tail _ hl);have hd:=h d (.head _);have:=hcl d (by rintro rfl;simp at hd);simp only[dC,aW,cE];omega
 have:=h3 done h.len;simp only[aW] at h1;omega
end Go.Proofs
namespace Go.V
theorem Un {P:Program} {c:bC} {n:Nat} {ops:Array Oper} {Fs:List an} {L:List ae} {f:Fm} {Q:bG} {rest:List Oper} {d:Nat} {ty:TypeId} {ps:String} {aft:Array Edge} {aC:Nat->Option TI} {x:Operand} {T:TypeId}
  (Tb:bZ P aC) {ti:TI} (ht:aC T=some ti) (hk:ti.kind=1) {size:Nat} (hs:ti.elS=size) {r o len cap h:Nat} {hi mx:Operand} (hx:ap f x= .b (.slice (some ⟨r,o,none⟩) len cap))
  {ki kj:IntKind} {a b:Int} (h2:ap f hi= .b (.int ki a)) (ha:a=h) (h3:ap f mx= .b (.int kj b)) (hb:b=h) (hc:h<=cap) (hd:Nat.blt d n=true)
  (k:ak P c n ops Fs L (aT f d (.slice (some ⟨r,o,none⟩) h h)) rest Q):
  ak P c n ops Fs L f (⟨some d,.slice T x none (some hi) (some mx),ty,ps,aft,none⟩::rest) Q:=by
 refine dh O (bU hd) _ (λhh w sa al=>?_) k;have hdesc:=(Tb T ti ht).desc w;obtain⟨he,hsz⟩:=(Tb T ti ht).el hk;rw[he] at hdesc;have hz:=hsz w;rw[hs] at hz;have hb:=RJ (P:=P) (f:=f) (len:=len) (cap:=cap) h2 ha h3 hb (bg _) hc w;simp only[execOp,Instr.sliceAt,Instr.slice,bo,hx,Bx.v_b,hdesc,bV,JV,pX,hb,hz,bS,XM];by_cases h0:h=0
 ·subst h0;simp
 ·simp only[h0,if_false,pX,Kb,nk,wY]
end Go.V
namespace Go.Proofs
open Tryz
open Go.V Go.Tiles Go.Edges
def kM (w h:Nat) (S:Nat->Bool) (n e:Nat):Option (IP×IP):=if(match Go.Tiles.bey w h n e with|some j=>S j|none=>false) then none else some (eC w n e)
def qu (w h:Nat) (S:Nat->Bool) (n e:Nat):List (IP×IP):=(([0,1,2]:List Nat).take e).filterMap (kM w h S n)
variable {w h cp cp2:Nat} {p p2:Option Addr} {bs:List Bool} {part:List Nat} {S:Nat->Bool} {n e:Nat}
theorem Cs (he:e<3):qu w h S n (e+1)=qu w h S n e++(kM w h S n e).toList:=by
 have:e=0\/e=1\/e=2:=by omega
 rcases this with rfl|rfl|rfl
 ·cases hx:kM w h S n 0<;>simp[qu,hx]
 ·cases hx:kM w h S n 0<;>cases hy:kM w h S n 1<;>simp[qu,hx,hy]
 ·cases hx:kM w h S n 0<;>cases hy:kM w h S n 1<;>cases hz:kM w h S n 2<;>simp[qu,hx,hy,hz]
theorem VG (l:List Nat) (n:Nat):fk w h S (l++[n])=fk w h S l++qu w h S n 3:=by
 unfold fk qu kM;rw[ft,zT];rfl
theorem yP (l:List Nat):(fk w h S l).length<=3*l.length:=by
 unfold fk
 induction l with
 |nil=>simp
 |cons n l ih=>
  rw[dC,aW];refine tc (Nat.add_le_add (List.length_filterMap_le _ _) ih) ?_;simp only[cE,kC];omega
theorem ajK (n e:Nat):(qu w h S n e).length<=3:=by
 unfold qu;have h1:=List.length_filterMap_le (kM w h S n) (([0,1,2]:List Nat).take e);have h2:=List.length_take_le e ([0,1,2]:List Nat);rw[lV] at h1;simp only[cE,kC] at h1;omega
abbrev je (bs:List Bool) (j:Nat):Bool:=bs.getD j false
theorem ajS {n e:Nat} (hs:(w,h)∈gJ) (hn:n<4*w*h) (he:e<3) (h1:bs.length=4*w*h):
  (bey (w:Int) h n e= -1/\kM w h (je bs) n e=some (eC w n e))\/(∃j:Nat,bey (w:Int) h n e=(j:Int)/\bs[j]? =some false/\j<bs.length/\kM w h (je bs) n e=some (eC w n e))\/
   ∃j:Nat,bey (w:Int) h n e=(j:Int)/\bs[j]? =some true/\j<bs.length/\kM w h (je bs) n e=none:=by
 rcases N6 hs hn he with⟨h2,h3⟩|⟨j,h2,h3,h4⟩
 ·exact .inl ⟨h3,by unfold kM;rw[h2];rfl⟩
 ·obtain⟨b,hb⟩:∃b,bs[j]? =some b:=⟨_,aG aa⟩;have hS:je bs j=b:=by simp[je,List.getD,hb]
  cases b
  ·exact .inr (.inl ⟨j,h3,hb,aa,by unfold kM;rw[h2];exact if_neg (show¬(je bs j=true) by rw[hS];exact Bool.false_ne_true)⟩)
  ·exact .inr (.inr ⟨j,h3,hb,aa,by unfold kM;rw[h2];exact if_pos hS⟩)
theorem Iv (w n:Nat) {e:Nat} (he:e<3):([dQ w n 0,dQ w n 1,dQ w n 2]:List IP)[e]? =some (dQ w n e):=by
 have:e=0\/e=1\/e=2:=by omega
 rcases this with rfl|rfl|rfl<;>rfl
theorem P2 {q:Option Addr} {g o c k:Nat} {l:List (IP×IP)} {hp:PH} (hk:k<l.length) (hc:(aO g o (l.flatMap eS)).p hp) (hn:l.length<=c) (hm:c<=maxLen):
  (bF 4 (.slice (some ⟨g,o,none⟩) k k) k ((l.take k).flatMap eS)).p hp/\(bF 4 (.slice (some ⟨g,if c=k+1 then o else o+(k+1)*4,none⟩) (l.length-(k+1)) (c-(k+1))) (l.length-(k+1)) ((l.drop (k+1)).flatMap eS)).p hp:=by
 have hl:=zX l;constructor
 ·refine⟨by rw[zX,lV];congr 1;omega,.inr ⟨g,o,k,O,⟨bg _,aa⟩,?_⟩⟩;have:=Cq (k:=0) (m:=k*4) hc (by rw[hl];omega) rfl;rw[Dz,wY,X1] at this;exact this
 ·refine⟨by rw[zX,jx],?_⟩;by_cases h0:l.length-(k+1)=0
  ·rw[h0];exact .inl ⟨_,_,rfl,rfl⟩
  ·refine .inr ⟨g,_,_,O,⟨aa,aa⟩,?_⟩;rw[if_neg aa];have:=Cq (k:=(k+1)*4) (m:=(l.length-(k+1))*4) hc (by rw[hl];omega) rfl;rw[Ku] at this;rw[eQ (by rw[zX,jx];omega)] at this;exact this
theorem X5 {P:Program} {c:bC} {n:Nat} {ops:Array Oper} {Fs:List an} {L:List ae} {f:Fm} {Q:bG} {rest:List Oper} {d:Nat} {ty:TypeId} {ps:String} {aft:Array Edge} {aC:Nat->Option TI} {x:Operand} {T:TypeId} {lo:Operand}
  (Tb:bZ P aC) {ti:TI} (ht:aC T=some ti) (hk:ti.kind=1) (hs:ti.elS=4) {v:Value} {a:IP×IP} {l:List (IP×IP)} (hx:ap f x= .b v) (hm:Ax v (a::l)∈Fs) {ki:IntKind} (hlo:ap f lo= .b (.int ki 1)) (hd:Nat.blt d n=true)
  (k:∀q cp,ak P c n ops (Ax (.slice q l.length cp) l::Fs) L (aT f d (.slice q l.length cp)) rest Q):
  ak P c n ops Fs L f (⟨some d,.slice T x (some lo) none none,ty,ps,aft,none⟩::rest) Q:=by
 refine ahG Tb ht hk hs hx hm (.some (l:=1) hlo O) .none dK (bg _) hd λv'=>?_;have e:((((a::l).flatMap eS).drop (1*4)).take (((a::l).length-1)*4))=l.flatMap eS:=by
  rw[Ku];simp only[FW,Dz,cE,Bs];exact eQ (by rw[zX];omega)
 rw[e,show(a::l).length-1=l.length from rfl];refine qX (φ:=λ(z:Option Addr×Nat)=>v'= .slice z.1 l.length z.2) (G:=λ_=>[]) (λhp al=>?_) (λz hz=>?_)
 ·obtain⟨q,cp,h⟩:=Vq (al _ (.head _));exact⟨(q,cp),h,λ_ h=>nomatch h⟩
 ·subst hz;exact k z.1 z.2
theorem X6 {Fs:List an} {L:List ae} {g o k:Nat} {l:List (IP×IP)} {a z:IP} (h:fS Fs L g o (l.flatMap eS)) (hk:l[k]? =some (a,z)):fS Fs L g (o+k*4+2) (bT z):=by
 have h1:=jp h (k:=k*4) (m:=(l.flatMap eS).length);rw[Ku,eQ (by rw[zX,zX,jx];omega)] at h1;have h2:=jp h1 (k:=2) (m:=2);have e:l.drop k=(a,z)::l.drop (k+1):=by
  have hlt:=da hk;rw[Bq hlt];rw[aG hlt] at hk;rw[iD hk]
 rw[e] at h2;exact h2
theorem P7 {q:Option Addr} {c:Nat} {l:List (IP×IP)} {hp:PH} (h0:0<l.length) (h:(Ax (.slice q l.length c) l).p hp):∃z:Nat×Nat,(q=some ⟨z.1,z.2,none⟩/\l.length<=c/\c<=maxLen)/\cr [aO z.1 z.2 (l.flatMap eS)] hp:=by
 rcases h.2 with⟨_,_,_,e⟩|⟨g,o,cap,e,hc,hf⟩
 ·omega
 ·cases e;exact⟨(g,o),⟨O,hc⟩,.cons hf (λ_ h=>nomatch h)⟩
theorem X9 {ya at2:IP} {best:Int} {i:Nat} {left:List (IP×IP)} (u:(best= -1/\∀j,j<i->∀y:IP×IP,left[j]? =some y->y.1≠at2)\/∃(k:Nat) (y:IP×IP),best=(k:Int)/\left[k]? =some y/\y.1=at2):
  (ya≠at2/\(ya.1==at2.1&&ya.2==at2.2)=false)\/(ya=at2/\(ya.1==at2.1&&ya.2==at2.2)=true/\best= -1)\/(ya=at2/\(ya.1==at2.1&&ya.2==at2.2)=true/\∃(k:Nat) (z:IP),best=(k:Int)/\k<left.length/\left[k]? =some (at2,z)):=by
 by_cases h:ya=at2
 ·subst h;have ht:(ya.1==ya.1&&ya.2==ya.2)=true:=by simp
  rcases u with⟨h1,_⟩|⟨k,y,h1,h2,h3⟩
  ·exact .inr (.inl ⟨O,ht,h1⟩)
  ·obtain⟨y1,y2⟩:=y;dsimp only at h3;subst h3;exact .inr (.inr ⟨O,ht,k,y2,h1,da h2,h2⟩)
 ·refine .inl ⟨h,?_⟩;apply Bool.eq_false_iff.2;intro hh;simp at hh;exact h (mN hh.1 hh.2)
theorem X7 {ya yb at2:IP} {best:Int} {i:Nat} {left:List (IP×IP)} (hy:left[i]? =some (ya,yb)) (hya:ya≠at2) (u:(best= -1/\∀j,j<i->∀y:IP×IP,left[j]? =some y->y.1≠at2)\/∃(k:Nat) (y:IP×IP),best=(k:Int)/\left[k]? =some y/\y.1=at2):
  (best= -1/\∀j,j<i+1->∀y:IP×IP,left[j]? =some y->y.1≠at2)\/∃(k:Nat) (y:IP×IP),best=(k:Int)/\left[k]? =some y/\y.1=at2:=by
 rcases u with⟨h1,h2⟩|h
 ·refine .inl ⟨h1,λj hj y hjy=>?_⟩;by_cases hji:j=i
  ·subst hji;rw[hy] at hjy;cases hjy;exact hya
  ·exact h2 j aa y hjy
 ·exact .inr h
theorem X8 {at2:IP} {best:Int} {i:Nat} {left:List (IP×IP)} (hon:∃(i:Nat) (e:IP×IP),left[i]? =some e/\e.1=at2) (hi:i=left.length) (u:(best= -1/\∀j,j<i->∀y:IP×IP,left[j]? =some y->y.1≠at2)\/∃(k:Nat) (y:IP×IP),best=(k:Int)/\left[k]? =some y/\y.1=at2):
  ∃(k:Nat) (z:IP),best=(k:Int)/\k<left.length/\left[k]? =some (at2,z):=by
 rcases u with⟨_,h⟩|⟨k,y,h1,h2,h3⟩
 ·obtain⟨j,e,h4,h5⟩:=hon;exact absurd h5 (h j (by rw[hi];exact da h4) e h4)
 ·obtain⟨y1,y2⟩:=y;dsimp only at h3;subst h3;exact⟨k,y2,h1,da h2,h2⟩
theorem tv {P:IP} (h:sm P):small P.1/\small P.2:=by
 unfold sm at h;unfold small;omega
theorem ac7 (hs:(w,h)∈gJ) (hw:1<=w/\w<=5) (hh:1<=h/\h<=5) (hn:bs.length=4*w*h) (hp:∀m∈part,m<bs.length) (hpl:part.length<=100)
  (hE:FO (fk w h (je bs) part)) (hb:FR (fk w h (je bs) part)):
  ai prog 23 [Bw w h p bs.length cp,.slice p2 part.length cp2].toArray [Ay p bs cp,E0 p2 part cp2] []
   (λv Fs' L'=>(∃p' rs cp',IR (fk w h (je bs) part) (rs.map RI.l)/\v= .slice p' rs.length cp'/\Fs'=[EY p' rs cp'])/\L'=[]):=by
 have hwh:w*h<=5*5:=uD hw.2 hh.2;have hn100:bs.length<=100:=by rw[hn,nK];omega
 have hEl:=yP (w:=w) (h:=h) (S:=je bs) part;obtain⟨E,hEe⟩:∃E,E=fk w h (je bs) part:=⟨_,rfl⟩;refine am func23 λ_=>(au) ?_;intro b2;refine(bR) ?_;refine dl (r:=b2) tA<|(cJ)<|(nu)<|aU [(5,5),(7,10),(19,56)] (λ(x:Nat×Value×List ae)=>x.1<=part.length/\WB x.2.1 (fk w h (je bs) (part.take x.1)) x.2.2) (λx=>[(19,iv x.1),(5,x.2.1)]) (λ_=>[]) (λx=>x.2.2) (λx=>part.length-x.1) ((0,.slice none 0 0,[])) (⟨bf _,aJ.nil 130 4⟩) λ⟨i,v1,B1⟩ fr ⟨h5,h6⟩=>?_;dsimp only at h5 h6;refine(cM)<|ao ?_ ?_
 ·intro hc20;have hlt:i<part.length:=by have:=of_decide_eq_true hc20;dsimp only at this;omega
  obtain⟨m,hm⟩:∃m,part[i]? =some m:=⟨_,aG hlt⟩;have hmn:m<bs.length:=hp m (bn hm);have hl0:=yP (w:=w) (h:=h) (S:=je bs) (part.take i);rw[lV] at hl0;refine(ix) ?_;refine cU (size:=1) (i:=i) ab O O O O O aa mA aa (flat_take (F:=iq) (λ_ _=>O) hm) O λ_ _=>(fM)<|(fo) ?_;refine aK ab O O O (aR (xs:=qN w h p bs.length cp) mA) O O<|(aB)<|aj eA call11 (Wc (w:=w) (h:=h) (n:=m) (p:=p) (k:=bs.length) (cp:=cp) hw aa)<|(aq) ?_;intro r8;refine(dS) ?_;refine dl (r:=r8) tA<|(aY)<|(dF)<|aU [(5,5),(9,10),(26,55)] (λ(x:Nat×Value×List ae)=>x.1<=3/\WB x.2.1 (fk w h (je bs) (part.take i)++qu w h (je bs) m x.1) x.2.2) (λx=>[(26,iv x.1),(5,x.2.1)]) (λ_=>[]) (λx=>x.2.2) (λx=>3-x.1) ((0,v1,B1)) (⟨bf _,by simpa[qu] using h6⟩) λ⟨e,v2,B2⟩ fr2 ⟨l5,l6⟩=>?_;dsimp only at l5 l6;refine(cM)<|ao ?_ ?_
  ·intro hc27;have he:e<3:=by have:=of_decide_eq_true hc27;dsimp only at this;omega
   have hj:=ajS (n:=m) (e:=e) (bs:=bs) hs (by rw[<-hn];exact hmn) he hn;have hl1:=ajK (w:=w) (h:=h) (S:=je bs) m e;have hce:=Iv w m he;have hce2:=Iv w m (show(e+1)%3<3 from nI _ bz);refine(rK)<|(fo) ?_;refine aK ab O O O (aR (xs:=qN w h p bs.length cp) mA) O O<|(dG)<|aj eA call12 (N5 (w:=w) (h:=h) (n:=m) (e:=e) (p:=p) (k:=bs.length) (cp:=cp) aa aa aa)<|(bR) ?_;rcases hj with⟨hj,hed⟩|⟨j,hj,hbj,hjn,hed⟩|⟨j,hj,hbj,hjn,hed⟩<;>rw[hj]
   ·refine(aY) ?_;refine aL O O (by show some (decide ((-1:Int)<0))=some true;rfl) O<|(oq)<|(pK) ?_;refine cz cw 12 [10,11] [11]<|(bh)<|(kQ) ?_;refine cC O (fg (s:=2) (i:=e) ab O O O O O aa (by show _<3;omega) O) ?_;refine ac O (aK ab O O O (fK (F:=bT) (k:=2) (xs:=[dQ w m 0,dQ w m 1,dQ w m 2]) (aR mA) (λ_ _=>O) hce aa) O O)<|(kQ) ?_;refine cC O (dD (m:=((e+1:Nat):Int)) O O aa ⟨aa,aa⟩ O) ?_;refine cC O (uR (i:=e+1) (m:=3) O O O O aa O) ?_;refine cC O (fg (s:=2) (i:=(e+1)%3) ab O O O O O aa (by show _<3;omega) O) ?_;refine ac O (aK ab O O O (fK (F:=bT) (k:=2) (xs:=[dQ w m 0,dQ w m 1,dQ w m 2]) (aR mA) (λ_ _=>O) hce2 aa) O O)<|(ny)<|(dT)<|(eD) ?_;intro b53;refine(dU) ?_;refine di (e:=130) (size:=4) (news:=eS (eC w m e)) ab O O O O O O O (B:=B2) tA l6 O (bD mA) O O (by simp only[maxLen,aW];omega) (by show((fk w h (je bs) (part.take i)++qu w h (je bs) m e).length+1)*32<=_;rw[aW];omega) O λv' B' hs'=>(rJ)<|(jr) ?_;exact⟨(e+1,v',B'),oA,⟨by dsimp only;omega,by dsimp only;rw[Cs he,hed,<-cG];exact WB.snoc hs'⟩,lA,kA,fA,hA⟩
   ·refine(aY) ?_;refine aL O O (iF (p:=(j:Int)<0) aa) O<|(aB)<|(iQ) ?_;refine ah O O (az ab O O O (cY (j:=2) (aR (xs:=qN w h p bs.length cp) mA) O) O<|(fN) ?_);refine ah O O (cU (size:=1) (i:=j) ab O O O O O aa mA aa (flat_take (F:=bE) (λ_ _=>O) hbj) O λ_ _=>(FB)<|(JB)<|(gm)<|(vE) ?_);refine cz cw 12 [10,11] [11]<|(bh)<|(kQ) ?_;refine cC O (fg (s:=2) (i:=e) ab O O O O O aa (by show _<3;omega) O) ?_;refine ac O (aK ab O O O (fK (F:=bT) (k:=2) (xs:=[dQ w m 0,dQ w m 1,dQ w m 2]) (aR mA) (λ_ _=>O) hce aa) O O)<|(kQ) ?_;refine cC O (dD (m:=((e+1:Nat):Int)) O O aa ⟨aa,aa⟩ O) ?_;refine cC O (uR (i:=e+1) (m:=3) O O O O aa O) ?_;refine cC O (fg (s:=2) (i:=(e+1)%3) ab O O O O O aa (by show _<3;omega) O) ?_;refine ac O (aK ab O O O (fK (F:=bT) (k:=2) (xs:=[dQ w m 0,dQ w m 1,dQ w m 2]) (aR mA) (λ_ _=>O) hce2 aa) O O)<|(ny)<|(dT)<|(eD) ?_;intro b53;refine(dU) ?_;refine di (e:=130) (size:=4) (news:=eS (eC w m e)) ab O O O O O O O (B:=B2) tA l6 O (bD mA) O O (by simp only[maxLen,aW];omega) (by show((fk w h (je bs) (part.take i)++qu w h (je bs) m e).length+1)*32<=_;rw[aW];omega) O λv' B' hs'=>(rJ)<|(jr) ?_;exact⟨(e+1,v',B'),oA,⟨by dsimp only;omega,by dsimp only;rw[Cs he,hed,<-cG];exact WB.snoc hs'⟩,lA,kA,fA,hA⟩
   ·refine(aY) ?_;refine aL O O (iF (p:=(j:Int)<0) aa) O<|(aB)<|(iQ) ?_;refine ah O O (az ab O O O (cY (j:=2) (aR (xs:=qN w h p bs.length cp) mA) O) O<|(fN) ?_);refine ah O O (cU (size:=1) (i:=j) ab O O O O O aa mA aa (flat_take (F:=bE) (λ_ _=>O) hbj) O λ_ _=>(FB)<|(JB)<|(pJ)<|(lO) ?_);exact⟨(e+1,v2,B2),oA,⟨by dsimp only;omega,by dsimp only;rw[Cs he,hed];simpa using l6⟩,lA,kA,fA,hA⟩
  ·intro hc27;have he3:e=3:=by have:=of_decide_eq_false hc27;dsimp only at this;omega
   subst he3;refine(eG)<|(lO) ?_;exact⟨(i+1,v2,B2),oA,⟨by dsimp only;omega,by dsimp only;rw[dO hm,VG];exact l6⟩,lA,kA,fA,hA⟩
 ·intro hc20;have hge:i=part.length:=by have:=of_decide_eq_false hc20;dsimp only at this;omega
  subst hge;rw[dg,<-hEe] at h6;rw[<-hEe] at hE hb hEl;obtain⟨q0,c0,rfl⟩:=h6.shape;refine(jh) ?_;refine eN h6 tA ?_;refine cI (gi []) (λhp al=>λx hx=>nomatch hx) ?_;refine(cJ)<|(bR)<|(gU)<|aU [(4,5),(11,16),(57,135)] (λ(x:(Option Addr×Nat)×List (IP×IP)×List RI×Value×List ae)=>xV E (x.2.2.1.map RI.l) x.2.1/\CJ x.2.2.2.1 x.2.2.1 x.2.2.2.2) (λx=>[(5,.slice x.1.1 x.2.1.length x.1.2),(11,x.2.2.2.1)]) (λx=>[Ax (.slice x.1.1 x.2.1.length x.1.2) x.2.1,gi x.2.2.1]) (λx=>x.2.2.2.2) (λx=>x.2.1.length) (((q0,c0),E,[],.slice none 0 0,[])) (⟨⟨List.Perm.refl _,hb,(λ_ h=>nomatch h)⟩,aJ.nil 53 1⟩) λ⟨⟨q,c⟩,left,rs,pv,pB⟩ fr3 ⟨m5,m6⟩=>?_;dsimp only at m5 m6;obtain⟨m7,m8⟩:=m5.small;rw[cP] at m8;obtain⟨p4,c4,rfl⟩:=m6.shape;refine(eE)<|(dH)<|(sJ)<|ao ?_ ?_
  ·intro hc59;have hl0:0<left.length:=by have:=of_decide_eq_true hc59;dsimp only at this;omega
   obtain⟨⟨a,b⟩,lt,rfl⟩:∃x l,left=x::l:=by cases left with|nil=>simp at hl0|cons x l=>exact⟨x,l,rfl⟩
   have hst:=m5.start;have hab:=hE.sm (a,b) (m5.mem _ (.head _));refine(kV)<|(bJ) ?_;refine cU (size:=4) (i:=0) ab O O O O O aa mA aa (flat_take (F:=eS) (l:=(a,b)::lt) (i:=0) (x:=(a,b)) (λ_ _=>O) O) O λ_ _=>?_;refine aK ab O O O (aR (xs:=eS (a,b)) mA) O O<|(aq) ?_;intro r12;refine(cu)<|(bJ) ?_;refine X5 (a:=(a,b)) (l:=lt) ab O O O O mA O O λq1 c1=>(fo)<|(cQ) ?_;refine aK ab O O O (fK (F:=bT) (k:=2) (xs:=[a,b]) (j:=0) (bD mA) (λ_ _=>O) O O) O O<|(eD) ?_;intro b67;refine(bR)<|(gU)<|aU [(4,5),(13,16),(68,131)] (λ(x:(IP×IP)×List IP×(Option Addr×Nat)×List (IP×IP)×Value×List ae)=>sH E (rs.map RI.l) x.2.1 a x.1.2 x.2.2.2.1/\RB x.2.2.2.2.1 x.2.1 x.2.2.2.2.2/\sm x.1.1/\sm x.1.2/\x.2.2.2.1.length<=lt.length) (λx=>[(13,x.2.2.2.2.1),(5,.slice x.2.2.1.1 x.2.2.2.1.length x.2.2.1.2)]) (λx=>[Ax (.slice x.2.2.1.1 x.2.2.2.1.length x.2.2.1.2) x.2.2.2.1]) (λx=>x.2.2.2.2.2++(pB++[bL r12 130 (eS x.1)])) (λx=>x.2.2.2.1.length) (((a,b),[a],(q1,c1),lt,.slice (some ⟨b67,0,none⟩) 1 1,[(b67,.cells (bT a).toArray 34 (0,0))])) (⟨hst,⟨O,.inr ⟨b67,1,_,O,O,bg _,by decide,O,O⟩⟩,hab.1,hab.2,bg _⟩) λ⟨⟨af,at2⟩,ring,⟨q2,c2⟩,left2,rv,rB⟩ fr4 ⟨n5,n6,n7,n8,n9⟩=>?_;dsimp only at n5 n6 n7 n8 n9;obtain⟨o7,o8⟩:=n5.small;have hrh:=n5.head;obtain⟨r0x,rtl,hre⟩:∃x l,ring=x::l:=by cases ring with|nil=>cases hrh|cons x l=>exact⟨x,l,rfl⟩
   have hr0:ring[0]? =some a:=by rw[<-Kf];exact hrh
   have hrl:0<ring.length:=by rw[hre];simp
   obtain⟨g3,cap3,cur3,e3,hB3,q31,q32,q33,q34⟩:=n6.one hrl;subst e3;subst hB3;refine(vo)<|(CY)<|(iU) ?_;refine ac O (aK ab O O O (fK (F:=bT) (k:=2) (xs:=[af,at2]) (j:=1) (bD mA) (λ_ _=>O) O O) O O)<|(bh)<|(OQ) ?_;refine ac O (aK ab O O O (fK (F:=bT) (k:=2) (iI mA q34) (λ_ _=>O) hr0 aa) O O) ?_;refine ac O (vY O O HP (λw=>E5 9998 w _ _ _ _) O)<|(pH)<|ao ?_ ?_
   ·intro hc73;have hne:a≠at2:=by{intro e0;subst e0;simp at hc73}
    have hon:=n5.on hne;refine(kV)<|(bJ)<|(cQ) ?_;refine aK ab O O O (fK (F:=bT) (k:=2) (xs:=[af,at2]) (j:=1) (bD mA) (λ_ _=>O) O O) O O<|(eD) ?_;intro b77;refine di (e:=34) (size:=2) (news:=bT at2) ab O O O O O O O (B:=[(g3,.cells cur3 34 (0,0))]) tA n6 O (bD mA) O O dp (by show(ring.length+1)*16<=_;omega) O λv3 B3 hs3=>(fo)<|(nu)<|aU [(14,16),(81,116)] (λ(x:Nat×Int)=>x.1<=left2.length/\((x.2= -1/\∀j,j<x.1->∀y:IP×IP,left2[j]? =some y->y.1≠at2)\/∃(k:Nat) (y:IP×IP),x.2=(k:Int)/\left2[k]? =some y/\y.1=at2)) (λx=>[(81,iv x.1),(14,iv x.2)]) (λ_=>[]) (λ_=>B3++(pB++[bL r12 130 (eS (af,at2))])) (λx=>left2.length-x.1) ((0,-1)) (⟨bf _,.inl ⟨O,(λj hj=>absurd hj (iZ _))⟩⟩) λ⟨i5,best⟩ fr5 ⟨u5,u6⟩=>?_;dsimp only at u5 u6;refine(cM)<|ao ?_ ?_
    ·intro hc82;have hlt5:i5<left2.length:=by have:=of_decide_eq_true hc82;dsimp only at this;omega
     obtain⟨⟨ya,yb⟩,hy⟩:∃y,left2[i5]? =some y:=⟨_,aG hlt5⟩;have hysm:=hE.sm (ya,yb) (n5.mem _ (bn hy));have hcase:(ya≠at2/\(ya.1==at2.1&&ya.2==at2.2)=false)\/(ya=at2/\(ya.1==at2.1&&ya.2==at2.2)=true/\best= -1)\/(ya=at2/\(ya.1==at2.1&&ya.2==at2.2)=true/\∃(k:Nat) (z:IP),best=(k:Int)/\k<left2.length/\left2[k]? =some (at2,z)):=X9 u6;refine(rK) ?_;refine cU (size:=4) (i:=i5) ab O O O O O aa mA aa (flat_take (F:=eS) (λ_ _=>O) hy) O λ_ _=>?_;refine aK ab O O O (aR (xs:=eS (ya,yb)) mA) O O<|(aq) ?_;intro r16;refine(gb)<|(dS) ?_;rcases hcase with⟨hya,hyb⟩|⟨hya,hyb,rfl⟩|⟨hya,hyb,k5,z5,rfl,hk5,hz5⟩
     ·refine(OI)<|(iU) ?_;refine ac O (aK ab O O O (fK (F:=bT) (k:=2) (xs:=[ya,yb]) (j:=0) (bD mA) (λ_ _=>O) O O) O O)<|(iU) ?_;refine ac O (aK ab O O O (fK (F:=bT) (k:=2) (xs:=[af,at2]) (j:=1) (bD mA) (λ_ _=>O) O O) O O) ?_;refine ac O (xL (b:=false) O O HP (λw=>(E5 9998 w _ _ _ _).trans (by rw[hyb])) O)<|(bh)<|(vw)<|(pT)<|(OF)<|(OF)<|(sR)<|(sR)<|(pT)<|(jN)<|(jY)<|(gH)<|(lO) ?_;exact⟨(i5+1,best),oA,⟨by dsimp only;omega,X7 hy hya u6⟩,lA,kA,fA,hA⟩
     ·refine(OI)<|(iU) ?_;refine ac O (aK ab O O O (fK (F:=bT) (k:=2) (xs:=[ya,yb]) (j:=0) (bD mA) (λ_ _=>O) O O) O O)<|(iU) ?_;refine ac O (aK ab O O O (fK (F:=bT) (k:=2) (xs:=[af,at2]) (j:=1) (bD mA) (λ_ _=>O) O O) O O) ?_;refine ac O (xL (b:=true) O O HP (λw=>(E5 9998 w _ _ _ _).trans (by rw[hyb])) O)<|(bh) ?_;refine ac O (λkX=>ah O O (eV O O kX)) ?_;refine ac O (λkX=>ah O O (aL O O (by show some (decide ((-1:Int)<0))=some true;rfl) O kX)) ?_;refine ac O (λkX=>ah O O (eV O O kX))<|(qE)<|(qE)<|(qE) ?_;refine ac O (λkX=>ah O O (Ce O O O kX))<|(iV)<|(jY)<|(vE)<|(aY)<|(jr) ?_;exact⟨(i5+1,(i5:Int)),oA,⟨by dsimp only;omega,.inr ⟨i5,_,O,hy,hya⟩⟩,lA,kA,fA,hA⟩
     ·have hzsm:=hE.sm (at2,z5) (n5.mem _ (bn hz5));refine yL (φ:=λ(z:Nat×Nat)=>q2=some ⟨z.1,z.2,none⟩/\left2.length<=c2/\c2<=maxLen) (G:=λz=>[aO z.1 z.2 (left2.flatMap eS)]) (λhp al=>P7 aa (al (Ax (.slice q2 left2.length c2) left2) mA)) (λz hz=>?_);obtain⟨g5,o5⟩:=z;obtain⟨rfl,hc5,hm5⟩:=hz;refine(OI)<|(iU) ?_;refine ac O (aK ab O O O (fK (F:=bT) (k:=2) (xs:=[ya,yb]) (j:=0) (bD mA) (λ_ _=>O) O O) O O)<|(iU) ?_;refine ac O (aK ab O O O (fK (F:=bT) (k:=2) (xs:=[af,at2]) (j:=1) (bD mA) (λ_ _=>O) O O) O O) ?_;refine ac O (xL (b:=true) O O HP (λw=>(E5 9998 w _ _ _ _).trans (by rw[hyb])) O)<|(bh) ?_;refine ac O (λkX=>ah O O (eV O O kX)) ?_;refine ac O (λkX=>ah O O (aL O O (iF (p:=(k5:Int)<0) aa) O kX)) ?_;refine ac O (λkX=>ah O O (eV O O kX)) ?_;refine ac O (λkX=>ah O O (b9 ab O O O O kX)) ?_;refine ac O (λkX=>ah O O (aK ab O O O (fK (F:=bT) (k:=2) (xs:=[af,at2]) (j:=0) (bD mA) (λ_ _=>O) O O) O O kX)) ?_;refine ac O (λkX=>ah O O (b9 ab O O O O kX)) ?_;refine ac O (λkX=>ah O O (aK ab O O O (fK (F:=bT) (k:=2) (xs:=[ya,yb]) (j:=0) (bD mA) (λ_ _=>O) O O) O O kX)) ?_;refine ac O (λkX=>ah O O (b9 ab O O O O kX)) ?_;refine ac O (λkX=>ah O O (aK ab O O O (fK (F:=bT) (k:=2) (xs:=[ya,yb]) (j:=1) (bD mA) (λ_ _=>O) O O) O O kX)) ?_;refine ac O (λkX=>ah O O (aj eA call77 (Qu (fx:=af.1) (fy:=af.2) (ax:=ya.1) (ay:=ya.2) (tx:=yb.1) (ty:=yb.2) (tv n7).1 (tv n7).2 (tv hysm.1).1 (tv hysm.1).2 (tv hysm.2).1 (tv hysm.2).2) kX)) ?_;refine ac O (λkX=>ah O O (b9 ab O O O O kX)) ?_;refine ac O (λkX=>ah O O (aK ab O O O (fK (F:=bT) (k:=2) (xs:=[af,at2]) (j:=0) (bD mA) (λ_ _=>O) O O) O O kX)) ?_;refine ac O (λkX=>ah O O (b9 ab O O O O kX)) ?_;refine ac O (λkX=>ah O O (aK ab O O O (fK (F:=bT) (k:=2) (xs:=[ya,yb]) (j:=0) (bD mA) (λ_ _=>O) O O) O O kX)) ?_;refine ac O (λkX=>ah O O (eV O O kX)) ?_;refine ac O (λkX=>ah O O (eV O O kX)) ?_;refine ac O (λkX=>ah O O (bp (s:=4) (i:=k5) ab O O O O O aa aa O kX)) ?_;refine ac O (λkX=>ah O O (b9 ab O O O O kX)) ?_;refine ac O (λkX=>ah O O (aK ab O O O (X6 (aR (xs:=left2.flatMap eS) mA) hz5) O O kX)) ?_;refine ac O (λkX=>ah O O (aj eA call77 (Qu (fx:=af.1) (fy:=af.2) (ax:=ya.1) (ay:=ya.2) (tx:=z5.1) (ty:=z5.2) (tv n7).1 (tv n7).2 (tv hysm.1).1 (tv hysm.1).2 (tv hzsm.2).1 (tv hzsm.2).2) kX)) ?_;refine ac O (λkX=>ah O O (EU O O O kX)) ?_;refine ac O (λkX=>ah O O (Cf O O O kX))<|(iV)<|(pH)<|ao ?_ ?_
      ·intro hc114;refine(aY)<|(jr) ?_;exact⟨(i5+1,(i5:Int)),oA,⟨by dsimp only;omega,.inr ⟨i5,_,O,hy,hya⟩⟩,lA,kA,fA,hA⟩
      ·intro hc114;refine(bX)<|(lO) ?_;exact⟨(i5+1,(k5:Int)),oA,⟨by dsimp only;omega,.inr ⟨k5,_,O,hz5,O⟩⟩,lA,kA,fA,hA⟩
    ·intro hc82;have hge5:i5=left2.length:=by have:=of_decide_eq_false hc82;dsimp only at this;omega
     obtain⟨k6,z6,hb6,hk6,hz6⟩:∃(k:Nat) (z:IP),best=(k:Int)/\k<left2.length/\left2[k]? =some (at2,z):=X8 hon hge5 u6;subst hb6;have hnx:=n5.step hz6;have hzsm6:=hE.sm (at2,z6) (n5.mem _ (bn hz6));refine(eG)<|(eE) ?_;refine aL O O (iF (p:=(k6:Int)<0) aa) O<|(gH)<|(fb) ?_;refine cU (size:=4) (i:=k6) ab O O O O O aa mA aa (flat_take (F:=eS) (λ_ _=>O) hz6) O λ_ _=>?_;refine aK ab O O O (aR (xs:=eS (at2,z6)) mA) O O<|(cu) ?_;refine yL (φ:=λ(z:Nat×Nat)=>q2=some ⟨z.1,z.2,none⟩/\left2.length<=c2/\c2<=maxLen) (G:=λz=>[aO z.1 z.2 (left2.flatMap eS)]) (λhp al=>P7 aa (al (Ax (.slice q2 left2.length c2) left2) mA)) (λz hz=>?_);obtain⟨g6,o6⟩:=z;obtain⟨rfl,hc6,hm6⟩:=hz;refine cI (bF 4 (.slice (some ⟨g6,o6,none⟩) k6 k6) k6 ((left2.take k6).flatMap eS)) (λhp al=>(P2 (q:=none) hk6 (al (aO g6 o6 (left2.flatMap eS)) mA) hc6 hm6).1) ?_;refine cI (bF 4 (.slice (some ⟨g6,if c2=k6+1 then o6 else o6+(k6+1)*4,none⟩) (left2.length-(k6+1)) (c2-(k6+1))) (left2.length-(k6+1)) ((left2.drop (k6+1)).flatMap eS)) (λhp al=>(P2 (q:=none) hk6 (al (aO g6 o6 (left2.flatMap eS)) mA) hc6 hm6).2) ?_;refine cz cw 9 [8] [8]<|(zn)<|(bh) ?_;refine ac O (Un (size:=4) (h:=k6) (cap:=c2) ab O O O O O O O O (JY (Gb hk6 hc6)) O)<|(zn) ?_;refine ac O (dD (m:=((k6+1:Nat):Int)) O O aa ⟨aa,aa⟩ O) ?_;refine ac O (xI (size:=4) (l:=k6+1) (h:=left2.length) ab O O O O (.some O O) .none aa aa O)<|(dT) ?_;refine ah7 (e:=130) (size:=4) (k:=k6) (m:=left2.length-(k6+1)) (xs:=(left2.take k6).flatMap eS) (news:=(left2.drop (k6+1)).flatMap eS) ab O O O O O O O mA O mA dp (by show(k6+(left2.length-(k6+1)))*32<=_;omega) O λv7=>?_;have hl7:k6+(left2.length-(k6+1))=(left2.take k6++left2.drop (k6+1)).length:=by rw[aW,lV,jx];omega
     rw[<-ft,hl7];refine qX (φ:=λ(z:Option Addr×Nat)=>v7= .slice z.1 (left2.take k6++left2.drop (k6+1)).length z.2) (G:=λ_=>[]) (λhp al=>by{obtain⟨q,cp,hh⟩:=Vq (al _ (.head _));exact⟨(q,cp),hh,λ_ h=>nomatch h⟩}) (λz hz=>?_);obtain⟨q7,c7⟩:=z;subst hz;refine(rJ)<|(iR) ?_;exact⟨((at2,z6),ring++[at2],(q7,c7),left2.take k6++left2.drop (k6+1),v3,B3),by dsimp only;rw[<-hl7];omega,⟨hnx,RB.snoc hs3,hzsm6.1,hzsm6.2,by dsimp only;rw[<-hl7];omega⟩,lA,kA,fA,hA⟩
   ·intro hc73;have heq:at2=a:=by{have h0:(at2.1==a.1&&at2.2==a.2)=true:=(by simpa using hc73);simp at h0;exact mN h0.1 h0.2}
    subst heq;have hcl:=n5.close hE;refine(eG) ?_;refine eN n6 tA<|(cO)<|(eD) ?_;intro b134;refine di (e:=53) (size:=1) (news:=[.slice (some ⟨g3,0,none⟩) ring.length cap3]) ab O O O O O O O (B:=pB) tA m6 O (bD mA) O O dp (by show(rs.length+1)*24<=_;omega) O λv8 B8 hs8=>?_;have hs9:CJ v8 (rs++[⟨some ⟨g3,0,none⟩,ring,cap3⟩]) B8:=CJ.snoc (x:=⟨some ⟨g3,0,none⟩,ring,cap3⟩) hs8;refine cL (gi (rs++[⟨some ⟨g3,0,none⟩,ring,cap3⟩])) (λhp al=>λx hx=>by{rcases bB.1 hx with hx|hx;exact al (gi rs) mA x hx;simp at hx;subst hx;exact al (bF 2 (.slice (some ⟨g3,0,none⟩) ring.length cap3) ring.length (ring.flatMap bT)) mA})<|(iR) ?_;exact⟨((q2,c2),left2,rs++[⟨some ⟨g3,0,none⟩,ring,cap3⟩],v8,B8),by dsimp only;simp only[cE];omega,⟨(by dsimp only;rw[dX];exact hcl),hs9⟩,lA,kA,fA,hA⟩
  ·intro hc59;have hl0:left=[]:=by{have:=of_decide_eq_false hc59;dsimp only at this;cases left with|nil=>rfl|cons x l=>simp at this}
   subst hl0;have hfin:IR (fk w h (je bs) part) (rs.map RI.l):=⟨by{have:=m5.perm;rw[jz,hEe] at this;exact this},m5.len⟩;refine(jh) ?_;refine eN m6 tA ?_;refine cI (EY p4 rs c4) (λhp al=>⟨al _ (.head _),al (gi rs) mA⟩)<|(aY)<|(bO)<|aH [EY p4 rs c4] [] ?_;exact⟨⟨p4,rs,c4,hfin,O,O⟩,O⟩
end Go.Proofs
namespace Go.V
section
variable {P:Program} {c:bC} {n:Nat} {ops:Array Oper} {Fs:List an} {L:List ae} {f:Fm} {Q:bG} {rest:List Oper}
variable {d:Nat} {ty:TypeId} {ps:String} {aft:Array Edge} {aC:Nat->Option TI} {x y:Operand} {T T':TypeId}
theorem ah8 (Tb:bZ P aC) {ti te:TI} (ht:aC T=some ti) (hk:ti.kind=1) {e:Nat} (hel:ti.elT=e) (hte:aC e=some te) {size:Nat}
  {q:Option Addr} {k cap:Nat} (hx:ap f x= .b (.slice q k cap)) (hkc:k<=cap) {yv:Value} (hy:ap f y= .b yv) (hm:bF size yv 0 []∈Fs) (hd:Nat.blt d n=true)
  (K:ak P c n ops Fs L (aT f d (.slice q k cap)) rest Q):
  ak P c n ops Fs L f (⟨some d,.call ⟨.builtin .append, #[x,y], #[T,T]⟩,ty,ps,aft,none⟩::rest) Q:=by
 subst hel;obtain⟨hdesc,_⟩:=(Tb T ti ht).el hk;have hu:=ts (Tb T ti ht) hdesc;obtain⟨inf,hinf,hi1,hi2,hi3⟩:=(Tb _ te hte).info;refine qX (φ:=λ(z:Option Addr×Nat)=>yv= .slice z.1 0 z.2) (G:=λz=>[]) (λhp al=>?_) (λz hz=>?_)
 ·obtain⟨e1,e2⟩:=al _ hm;rcases e2 with⟨z,cp,e,_⟩|⟨g,o,cap,e,_,hc⟩
  ·exact⟨(z,cp),e,λ_ h=>nomatch h⟩
  ·exact⟨(_,cap),e,λ_ h=>nomatch h⟩
 ·subst hz;refine dh O (bU hd) (.slice q k cap) (λhh w sa al=>?_) K;simp only[execOp,resolve,bo,bS,bV,invoke,builtin,nN,dV,th,hx,hy,Bx.v_b];cases q<;>cases z.1<;>simp[Builtin.append_,run_underlying hu,sizeOf,typeInfo,hinf,Builtin.lenOf,Builtin.firstCells,loadCells,loadCellsFrom,storeCells,hkc]
theorem ah9 {e size:Nat} {xv yv:Value} {k':Nat} {xs':List Value} (hx:ap f x= .b xv) (hy:ap f y= .b yv) (hd:Nat.blt d n=true)
  (hr:∀h w,dN c h L w->cr Fs h->∃v' cur',(Builtin.append_ #[T,T] ty #[xv,yv]).run P w= .ok v' ((w.drew).alloc (.cells cur' e))/\aJ e size v' k' xs' [(w.heap.size,.cells cur' e (0,0))])
  (K:∀v' B',aJ e size v' k' xs' B'->ak P c n ops Fs (L++B') (aT f d v') rest Q):
  ak P c n ops Fs L f (⟨some d,.call ⟨.builtin .append, #[x,y], #[T,T]⟩,ty,ps,aft,none⟩::rest) Q:=by
 refine mX O (bU hd) λh w re al=>?_;obtain⟨v',cur',hrr,hs⟩:=hr h w re al;have hrun:(execOp (λx=>(ap f x).v) ⟨some d,.call ⟨.builtin .append, #[x,y], #[T,T]⟩,ty,ps,aft,none⟩).run P w= .ok (.value v') ((w.drew).alloc (.cells cur' e)):=by
  simp only[execOp,resolve,bo,bS,bV,invoke,builtin,nN,dV,th,hx,hy,Bx.v_b,hrr]
 have re2:=(re.draw (w.drawn+1)).push (.cells cur' e);exact⟨_,_,Fs,L++[(w.heap.size,.cells cur' e (0,0))],h,hrun,re2.perm (yh (l₁:=[_])),al,K v' _ hs⟩
theorem Nn (Tb:bZ P aC) {ti te:TI} (ht:aC T=some ti) (hk:ti.kind=1) {e:Nat} (hel:ti.elT=e) (hte:aC e=some te) {size:Nat} (hsz:te.sz=size) (hzc:te.zero.v.cells.size=size)
  {g o k:Nat} {xs:List Value} (hx:ap f x= .b (.slice (some ⟨g,o,none⟩) k k)) (hcx:fS Fs L g o xs) (hxl:xs.length=k*size)
  {r o' m cap:Nat} {news:List Value} (hy:ap f y= .b (.slice (some ⟨r,o',none⟩) m cap)) (hcy:fS Fs L r o' news) (hnl:news.length=m*size) (hm0:0<m)
  (h63:k+m<=maxLen) (hby:(k+m)*te.bytes<=140737488355328) (hd:Nat.blt d n=true)
  (K:∀v' B',aJ e size v' (k+m) (xs++news) B'->ak P c n ops Fs (L++B') (aT f d v') rest Q):
  ak P c n ops Fs L f (⟨some d,.call ⟨.builtin .append, #[x,y], #[T,T]⟩,ty,ps,aft,none⟩::rest) Q:=by
 subst hel;obtain⟨hdesc,_⟩:=(Tb T ti ht).el hk;have hu:=ts (Tb T ti ht) hdesc;obtain⟨inf,hinf,hi1,hi2,hi3⟩:=(Tb _ te hte).info;have his:inf.size=size:=hi1.trans hsz;refine ah9 (e:=ti.elT) hx hy hd (λh w re al=>?_) K;have hlen:(xs++news).length=(k+m)*size:=by rw[aW,hxl,hnl,Gh]
 have h64:((k+m:Nat):Int)<=9223372036854775807:=by simp only[maxLen] at h63;omega
 have hr:=run_append_grow (P:=P) w T ty ti.elT inf te.zero.v hu hinf hi3 ⟨g,o,none⟩ k k xs (by rw[his];exact hxl) (λj u hj=>by rw[nk];exact hcx h w re.sat al j u hj) ⟨r,o',none⟩ m cap news (by rw[his];exact hnl)
  (λj u hj=>by rw[nk];exact hcy h w re.sat al j u hj) aa h64 (growslice_fits aa (by rw[hi2];exact hby))
 refine⟨_,_,hr,hlen,.inr ⟨w.heap.size,_,_,O,O,grownCap_ge w (k+m) k ti.elT,grownCap_le_maxLen w (k+m) k ti.elT h63,?_,?_⟩⟩
 ·have hge:=grownCap_ge w (k+m) k ti.elT;simp only[Pk,ox,size_zeroCells,hzc,hxl,hnl,<-Gh];congr 1;omega
 ·simp only[J8,cG];rw[<-cG,<-hlen];exact J7
end
end Go.V
namespace Go.Proofs
open Tryz
open Go.V Go.Tiles Go.Edges
abbrev RI.sh (x:RI):List Value:=[iv 2,x.v,.slice none 0 0]
abbrev jJ (v:Value) (l:List RI) (B:List ae):Prop:=aJ 56 3 v l.length (l.flatMap RI.sh) B
def wg (p:Option Addr) (xs:List RI) (cp:Nat):an where
 p h:=(bF 3 (.slice p xs.length cp) xs.length (xs.flatMap RI.sh)).p h/\(gi xs).p h
 mono:=λhle ⟨h1,h2⟩=>⟨(bF _ _ _ _).mono hle h1,(gi xs).mono hle h2⟩
theorem jJ.snoc {v:Value} {l:List RI} {x:RI} {B:List ae} (h:aJ 56 3 v (l.length+1) (l.flatMap RI.sh++RI.sh x) B):jJ v (l++[x]) B:=by
 have:l.flatMap RI.sh++RI.sh x=(l++[x]).flatMap RI.sh:=by simp
 rw[this] at h;unfold jJ;rw[aW];exact h
structure C8 (E:List (IP×IP)) (ls:List (List IP)):Prop where
 perm:(ls.flatMap aD).Perm E
 len:∀l∈ls,4<=l.length
theorem akr {l:List IP} (h:0<l.length):(jI l).length=l.length+1:=by
 cases l with
 |nil=>simp at h
 |cons a l=>simp[jI]
theorem afz {E:List (IP×IP)} {rs ls:List (List IP)} (h:IR E rs) (hp:ls.Perm (rs.map jI)):C8 E ls:=by
 refine⟨?_,λl hl=>?_⟩
 ·refine(hp.flatMap_right aD).trans ?_;rw[List.flatMap_map];exact h.perm
 ·obtain⟨r,hr,rfl⟩:=aM.1 (hp.mem_iff.1 hl);have:=h.len r hr;rw[akr aa];omega
variable {w h cp cp2:Nat} {p p2:Option Addr} {bs:List Bool} {part:List Nat}
theorem ac8 {E:List (IP×IP)} {rs:List (List IP)} (h:IR E rs) (hE:FO E):3*rs.length<=E.length/\∀l∈rs,l.length<=E.length/\∀P∈l,sm P:=by
 have h0:xV E rs []:=⟨by rw[jz];exact h.perm,λv=>rfl,h.len⟩;refine⟨h0.small.2,λl hl=>?_⟩;have hmem:∀s∈aD (jI l),s∈E:=λs hs=>h.perm.mem_iff.1 (mO.2 ⟨l,hl,hs⟩);have hlen:=h.perm.length_eq;have h3:=h.len l hl;have key:∀(b:IP) (l:List IP),(aD (l++[b])).length=l.length/\∀P∈l,∃Q,(P,Q)∈aD (l++[b]):=by
  intro b l
  induction l with
  |nil=>exact⟨rfl,λ_ h=>nomatch h⟩
  |cons x l ih=>
   cases l with
   |nil=>exact⟨rfl,λP hP=>by simp at hP;subst hP;exact⟨b,.head _⟩⟩
   |cons y l=>
    refine⟨by have:=ih.1;simp only[pY,aD,cE] at this ⊢;omega,λP hP=>?_⟩;rcases bm.1 hP with rfl|hP
    ·exact⟨y,.head _⟩
    ·obtain⟨Q,hQ⟩:=ih.2 P hP;exact⟨Q,.tail _ hQ⟩
 obtain⟨a,t,rfl⟩:∃a t,l=a::t:=by cases l with|nil=>simp at h3|cons a t=>exact⟨a,t,rfl⟩
 have hc:jI (a::t)=(a::t)++[a]:=rfl;rw[hc] at hmem;obtain⟨k1,k2⟩:=key a (a::t);refine⟨?_,λP hP=>?_⟩
 ·have:(aD (jI (a::t))).length<=(rs.flatMap λl=>aD (jI l)).length:=by
   obtain⟨i,hi⟩:=lg hl;rw[xM hi,ft,dC];simp only[aW];omega
  rw[hc,k1] at this;omega
 ·obtain⟨Q,hQ⟩:=k2 P hP;exact(hE.sm _ (hmem _ hQ)).1
theorem yn {rs:List RI} {i:Nat} {q:Option Addr} {l:List IP} {c:Nat} (h:rs[i]? =some ⟨q,l,c⟩):(rs.take (i+1)).map (λr=>jI r.l)=(rs.take i).map (λr=>jI r.l)++[jI l]:=by rw[dO h,dX];rfl
theorem G8 {rl x:List IP} {outs holes:List RI} {A:List (List IP)} {y:RI} (hc:jI rl=x) (h:((outs++holes).map RI.l).Perm A) (hy:y.l=x:=by rfl):((outs++[y]++holes).map RI.l).Perm (A++[jI rl]):=by
 rw[hc,<-hy];simp only[dX,dV,th,cG] at h ⊢;refine JT (DC _ yh) ?_;rw[<-cG];exact h.append_right _
theorem G9 {rl x:List IP} {outs holes:List RI} {A:List (List IP)} {y:RI} (hc:jI rl=x) (h:((outs++holes).map RI.l).Perm A) (hy:y.l=x:=by rfl):((outs++(holes++[y])).map RI.l).Perm (A++[jI rl]):=by
 rw[hc,<-hy,<-cG,dX];exact h.append_right _
theorem yr {xs:List RI} {x:RI} {hp:PH} (h:(gi xs).p hp) (k:x.fact.p hp):(gi (xs++[x])).p hp:=λy hy=>by
 rcases bB.1 hy with hy|hy
 ·exact h y hy
 ·simp at hy;subst hy;exact k
theorem aeq (l:List RI):gN (l.flatMap RI.sh)=true:=by
 refine kD.2 ?_;intro x hx;obtain⟨r,_,hr⟩:=mO.1 hx;simp only[RI.sh,bm,oY,or_false] at hr;rcases hr with rfl|rfl|rfl<;>rfl
theorem acu {v:Value} {l m:List RI} {B:List ae} (h:aJ 56 3 v (l.length+m.length) (l.flatMap RI.sh++m.flatMap RI.sh) B):jJ v (l++m) B:=by
 rw[<-ft] at h;unfold jJ;rw[aW];exact h
theorem acl {e size n cap:Nat} {v:Value} {q:Option Addr} {xs:List Value} {B:List ae} (h:aJ e size v n xs B) (hv:v= .slice q n cap):n<=cap:=by
 rcases h.2 with⟨e1,e2,_⟩|⟨g,c,cur,e1,_,hc,_⟩
 ·omega
 ·rw[hv] at e1;cases e1;exact hc
theorem agD {q:Option Addr} {c:Nat} {l:List IP} {hp:PH} (h0:0<l.length) (h:(E1 q l c).p hp):∃z:Nat×Nat,(q=some ⟨z.1,z.2,none⟩/\l.length<=c/\c<=maxLen)/\cr [aO z.1 z.2 (l.flatMap bT)] hp:=by
 rcases h.2 with⟨_,_,_,e⟩|⟨g,o,cap,e,hc,hf⟩
 ·omega
 ·cases e;exact⟨(g,o),⟨O,hc⟩,.cons hf (λ_ h=>nomatch h)⟩
theorem ajI {Fs:List an} {L:List ae} {g o:Nat} {l:List IP} {a:IP} (ha:l[0]? =some a) (h:fS Fs L g o (l.flatMap bT)):fS Fs L g (o+0*2) (bT a):=by
 have h2:=jp h (k:=0) (m:=2);cases l with
 |nil=>cases ha
 |cons x l=>cases ha;exact h2
theorem adD (hs:(w,h)∈gJ) (hw:1<=w/\w<=5) (hh:1<=h/\h<=5) (hn:bs.length=4*w*h) (hp:∀m∈part,m<bs.length) (hpl:part.length<=100)
  (hE:FO (fk w h (je bs) part)) (hb:FR (fk w h (je bs) part)):
  ai prog 14 [Bw w h p bs.length cp,.slice p2 part.length cp2].toArray [Ay p bs cp,E0 p2 part cp2] []
   (λv Fs' L'=>(∃p' xs cp',C8 (fk w h (je bs) part) (xs.map RI.l)/\v= .agg #[iv 3,.slice none 0 0,.slice p' xs.length cp']/\Fs'=[wg p' xs cp'])/\L'=[]):=by
 have hEl:=yP (w:=w) (h:=h) (S:=je bs) part;refine am func14 λ_=>(au) ?_;intro b2;refine(aq) ?_;intro r4;refine(cn) ?_;refine dl (r:=b2) tA<|(cJ)<|(gb)<|(rD) ?_;refine aK ab O O O (aR (xs:=qN w h p bs.length cp) mA) O O<|(aB)<|aI eA call23 (ac7 (p:=p) (cp:=cp) (p2:=p2) (cp2:=cp2) hs hw hh hn hp hpl hE hb) λv1 Fs1 ⟨p1,rs,c1,hR,e1,e2⟩=>?_;subst e1;subst e2;obtain⟨hr3,hrl⟩:=ac8 hR hE;rw[cP] at hr3;refine cL (bF 1 (.slice p1 rs.length c1) rs.length (rs.flatMap RI.c)) (λhp al=>(al (EY p1 rs c1) mA).1) ?_;refine cL (gi rs) (λhp al=>(al (EY p1 rs c1) mA).2) ?_;refine cL (gi []) (λhp al=>λx hx=>nomatch hx) ?_;refine(gW)<|aU [(5,6),(8,9),(14,41)] (λ(x:Nat×(Value×List ae×List RI)×(Value×List ae×List RI))=>x.1<=rs.length/\((x.2.1.2.2++x.2.2.2.2).map RI.l).Perm ((rs.take x.1).map (λr=>jI r.l))/\jJ x.2.1.1 x.2.1.2.2 x.2.1.2.1/\jJ x.2.2.1 x.2.2.2.2 x.2.2.2.1/\x.2.1.2.2.length+x.2.2.2.2.length=x.1) (λx=>[(14,iv x.1),(5,x.2.1.1),(6,x.2.2.1)]) (λx=>[gi x.2.1.2.2,gi x.2.2.2.2]) (λx=>x.2.1.2.1++(x.2.2.2.1++[bL r4 56 [iv 0,.slice none 0 0,.slice none 0 0]])) (λx=>rs.length-x.1) ((0,(.slice none 0 0,[],[]),(.slice none 0 0,[],[]))) (⟨bf _,List.Perm.refl _,aJ.nil 56 3,aJ.nil 56 3,O⟩) λ⟨i,⟨ov,oB,outs⟩,⟨hv,hB,holes⟩⟩ fr ⟨h5,h6,h7,h8,h9⟩=>?_;dsimp only at h5 h6 h7 h8 h9;refine(cM)<|ao ?_ ?_
 ·intro hc15;have hlt:i<rs.length:=by have:=of_decide_eq_true hc15;dsimp only at this;omega
  obtain⟨r,hri⟩:∃r,rs[i]? =some r:=⟨_,aG hlt⟩;have hrm:=bn hri;have hrL:=hR.len r.l (aM.2 ⟨r,hrm,rfl⟩);obtain⟨hrs,hrsm⟩:=hrl r.l (aM.2 ⟨r,hrm,rfl⟩);obtain⟨rp,rl,rc⟩:=r;dsimp only at hrL hrs hrsm;obtain⟨a,rt,hra⟩:∃a t,rl=a::t:=by cases rl with|nil=>simp at hrL|cons a t=>exact⟨a,t,rfl⟩
  have ha0:rl[0]? =some a:=by rw[hra];rfl
  refine cI (E1 rp rl rc) (λhp al=>al (gi rs) mA _ hrm)<|(ix) ?_;refine cU (size:=1) (i:=i) ab O O O O O aa mA aa (flat_take (F:=RI.c) (λ_ _=>O) hri) O λ_ _=>?_;refine az ab O O O (cY (j:=0) (aR (xs:=[.slice rp rl.length rc]) mA) O) O<|(bR) ?_;refine yL (φ:=λ(z:Nat×Nat)=>rp=some ⟨z.1,z.2,none⟩/\rl.length<=rc/\rc<=maxLen) (G:=λz=>[aO z.1 z.2 (rl.flatMap bT)]) (λhp al=>agD aa (al (E1 rp rl rc) mA)) (λz hz=>?_);obtain⟨g6,o6⟩:=z;obtain⟨rfl,hc6,hm6⟩:=hz;rw[maxLen] at hm6;refine cz cw 13 [9,10,11,12] [10]<|(zn)<|(zp)<|(bh)<|(zp) ?_;refine ac O (Un (size:=2) (h:=rl.length) (cap:=rc) ab O O O O O O O O hc6 O)<|(kQ)<|(OQ) ?_;refine ac O (aK ab O O O (ajI ha0 (aR (xs:=rl.flatMap bT) mA)) O O)<|(zo) ?_;refine so (i:=9) (j:=12) br yA ?_ ?_
  ·refine(oj)<|(eD) ?_;intro b27;refine(px) ?_;refine so (i:=10) (j:=12) br yA ?_ ?_
   ·refine(oj) ?_;refine Nn (e:=34) (size:=2) (k:=rl.length) (m:=1) (xs:=rl.flatMap bT) (news:=bT a) ab O O O O O O O (aR mA) (kJ (F:=bT) λ_ _=>O) O (bD mA) O bz dp (by show(rl.length+1)*16<=_;omega) O λv8 B8 hs8=>?_;have hs9:RB v8 (rl++[a]) B8:=RB.snoc hs8;obtain⟨p8,c8,rfl⟩:=hs9.shape;have hcl:jI rl=rl++[a]:=by rw[hra];rfl
    refine(px) ?_;refine so (i:=11) (j:=12) br zA ?_ ?_
    ·refine(oj)<|(cN)<|(px)<|(W5)<|(Jk) ?_;intro r9;refine(rJ)<|(dS) ?_;refine eN hs9 tA<|(aY)<|aI eA call24 (Gt (p:=some ⟨g6,o6,none⟩) (cp:=rc) (L:=rl) hrsm aa) λv7 Fs7 ⟨tw,e7,e8⟩=>?_;subst e7;subst e8;refine(sJ)<|ao ?_ ?_
     ·intro hc32;refine(oN) ?_;intro b35;refine di (e:=56) (size:=3) (news:=RI.sh ⟨p8,rl++[a],c8⟩) ab O O O O O O O (B:=oB) tA h7 O (bD mA) O O dp (by show(outs.length+1)*56<=_;omega) O λv9 B9 hs9'=>?_;have hs10:jJ v9 (outs++[⟨p8,rl++[a],c8⟩]) B9:=jJ.snoc (x:=⟨p8,rl++[a],c8⟩) hs9';refine cL (gi (outs++[⟨p8,rl++[a],c8⟩])) (λhp al=>yr (al (gi outs) mA) (al (bF 2 (.slice p8 (rl++[a]).length c8) (rl++[a]).length ((rl++[a]).flatMap bT)) mA))<|(jr) ?_;exact⟨(i+1,(v9,B9,outs++[⟨p8,rl++[a],c8⟩]),(hv,hB,holes)),oA,⟨by dsimp only;omega,(by dsimp only;rw[yn hri];exact G8 (y:=⟨p8,rl++[a],c8⟩) hcl h6 O),hs10,h8,by dsimp only;rw[aW,dZ];omega⟩,lA,kA,fA,hA⟩
     ·intro hc32;refine(oN) ?_;intro b39;refine di (e:=56) (size:=3) (news:=RI.sh ⟨p8,rl++[a],c8⟩) ab O O O O O O O (B:=hB) tA h8 O (bD mA) O O dp (by show(holes.length+1)*56<=_;omega) O λv9 B9 hs9'=>?_;have hs10:jJ v9 (holes++[⟨p8,rl++[a],c8⟩]) B9:=jJ.snoc (x:=⟨p8,rl++[a],c8⟩) hs9';refine cL (gi (holes++[⟨p8,rl++[a],c8⟩])) (λhp al=>yr (al (gi holes) mA) (al (bF 2 (.slice p8 (rl++[a]).length c8) (rl++[a]).length ((rl++[a]).flatMap bT)) mA))<|(jr) ?_;exact⟨(i+1,(ov,oB,outs),(v9,B9,holes++[⟨p8,rl++[a],c8⟩])),oA,⟨by dsimp only;omega,(by dsimp only;rw[yn hri];exact G9 (y:=⟨p8,rl++[a],c8⟩) hcl h6 O),h7,hs10,by dsimp only;rw[aW,dZ];omega⟩,lA,kA,fA,hA⟩
    ·refine(Jk) ?_;intro r9;refine(wE) ?_;refine eN hs9 tA<|(aY)<|aI eA call24 (Gt (p:=some ⟨g6,o6,none⟩) (cp:=rc) (L:=rl) hrsm aa) λv7 Fs7 ⟨tw,e7,e8⟩=>?_;subst e7;subst e8;refine(sJ)<|ao ?_ ?_
     ·intro hc32;refine(oN) ?_;intro b35;refine di (e:=56) (size:=3) (news:=RI.sh ⟨p8,rl++[a],c8⟩) ab O O O O O O O (B:=oB) tA h7 O (bD mA) O O dp (by show(outs.length+1)*56<=_;omega) O λv9 B9 hs9'=>?_;have hs10:jJ v9 (outs++[⟨p8,rl++[a],c8⟩]) B9:=jJ.snoc (x:=⟨p8,rl++[a],c8⟩) hs9';refine cL (gi (outs++[⟨p8,rl++[a],c8⟩])) (λhp al=>yr (al (gi outs) mA) (al (bF 2 (.slice p8 (rl++[a]).length c8) (rl++[a]).length ((rl++[a]).flatMap bT)) mA))<|(jr) ?_;exact⟨(i+1,(v9,B9,outs++[⟨p8,rl++[a],c8⟩]),(hv,hB,holes)),oA,⟨by dsimp only;omega,(by dsimp only;rw[yn hri];exact G8 (y:=⟨p8,rl++[a],c8⟩) hcl h6 O),hs10,h8,by dsimp only;rw[aW,dZ];omega⟩,lA,kA,fA,hA⟩
     ·intro hc32;refine(oN) ?_;intro b39;refine di (e:=56) (size:=3) (news:=RI.sh ⟨p8,rl++[a],c8⟩) ab O O O O O O O (B:=hB) tA h8 O (bD mA) O O dp (by show(holes.length+1)*56<=_;omega) O λv9 B9 hs9'=>?_;have hs10:jJ v9 (holes++[⟨p8,rl++[a],c8⟩]) B9:=jJ.snoc (x:=⟨p8,rl++[a],c8⟩) hs9';refine cL (gi (holes++[⟨p8,rl++[a],c8⟩])) (λhp al=>yr (al (gi holes) mA) (al (bF 2 (.slice p8 (rl++[a]).length c8) (rl++[a]).length ((rl++[a]).flatMap bT)) mA))<|(jr) ?_;exact⟨(i+1,(ov,oB,outs),(v9,B9,holes++[⟨p8,rl++[a],c8⟩])),oA,⟨by dsimp only;omega,(by dsimp only;rw[yn hri];exact G9 (y:=⟨p8,rl++[a],c8⟩) hcl h6 O),h7,hs10,by dsimp only;rw[aW,dZ];omega⟩,lA,kA,fA,hA⟩
   ·refine(Jk) ?_;intro r9;refine(dU) ?_;refine Nn (e:=34) (size:=2) (k:=rl.length) (m:=1) (xs:=rl.flatMap bT) (news:=bT a) ab O O O O O O O (aR mA) (kJ (F:=bT) λ_ _=>O) O (bD mA) O bz dp (by show(rl.length+1)*16<=_;omega) O λv8 B8 hs8=>?_;have hs9:RB v8 (rl++[a]) B8:=RB.snoc hs8;obtain⟨p8,c8,rfl⟩:=hs9.shape;have hcl:jI rl=rl++[a]:=by rw[hra];rfl
    refine(wE) ?_;refine eN hs9 tA<|(aY)<|aI eA call24 (Gt (p:=some ⟨g6,o6,none⟩) (cp:=rc) (L:=rl) hrsm aa) λv7 Fs7 ⟨tw,e7,e8⟩=>?_;subst e7;subst e8;refine(sJ)<|ao ?_ ?_
    ·intro hc32;refine(oN) ?_;intro b35;refine di (e:=56) (size:=3) (news:=RI.sh ⟨p8,rl++[a],c8⟩) ab O O O O O O O (B:=oB) tA h7 O (bD mA) O O dp (by show(outs.length+1)*56<=_;omega) O λv9 B9 hs9'=>?_;have hs10:jJ v9 (outs++[⟨p8,rl++[a],c8⟩]) B9:=jJ.snoc (x:=⟨p8,rl++[a],c8⟩) hs9';refine cL (gi (outs++[⟨p8,rl++[a],c8⟩])) (λhp al=>yr (al (gi outs) mA) (al (bF 2 (.slice p8 (rl++[a]).length c8) (rl++[a]).length ((rl++[a]).flatMap bT)) mA))<|(jr) ?_;exact⟨(i+1,(v9,B9,outs++[⟨p8,rl++[a],c8⟩]),(hv,hB,holes)),oA,⟨by dsimp only;omega,(by dsimp only;rw[yn hri];exact G8 (y:=⟨p8,rl++[a],c8⟩) hcl h6 O),hs10,h8,by dsimp only;rw[aW,dZ];omega⟩,lA,kA,fA,hA⟩
    ·intro hc32;refine(oN) ?_;intro b39;refine di (e:=56) (size:=3) (news:=RI.sh ⟨p8,rl++[a],c8⟩) ab O O O O O O O (B:=hB) tA h8 O (bD mA) O O dp (by show(holes.length+1)*56<=_;omega) O λv9 B9 hs9'=>?_;have hs10:jJ v9 (holes++[⟨p8,rl++[a],c8⟩]) B9:=jJ.snoc (x:=⟨p8,rl++[a],c8⟩) hs9';refine cL (gi (holes++[⟨p8,rl++[a],c8⟩])) (λhp al=>yr (al (gi holes) mA) (al (bF 2 (.slice p8 (rl++[a]).length c8) (rl++[a]).length ((rl++[a]).flatMap bT)) mA))<|(jr) ?_;exact⟨(i+1,(ov,oB,outs),(v9,B9,holes++[⟨p8,rl++[a],c8⟩])),oA,⟨by dsimp only;omega,(by dsimp only;rw[yn hri];exact G9 (y:=⟨p8,rl++[a],c8⟩) hcl h6 O),h7,hs10,by dsimp only;rw[aW,dZ];omega⟩,lA,kA,fA,hA⟩
  ·refine(Jk) ?_;intro r9;refine(dU)<|(eD) ?_;intro b27;refine(dU) ?_;refine Nn (e:=34) (size:=2) (k:=rl.length) (m:=1) (xs:=rl.flatMap bT) (news:=bT a) ab O O O O O O O (aR mA) (kJ (F:=bT) λ_ _=>O) O (bD mA) O bz dp (by show(rl.length+1)*16<=_;omega) O λv8 B8 hs8=>?_;have hs9:RB v8 (rl++[a]) B8:=RB.snoc hs8;obtain⟨p8,c8,rfl⟩:=hs9.shape;have hcl:jI rl=rl++[a]:=by rw[hra];rfl
   refine(wE) ?_;refine eN hs9 tA<|(aY)<|aI eA call24 (Gt (p:=some ⟨g6,o6,none⟩) (cp:=rc) (L:=rl) hrsm aa) λv7 Fs7 ⟨tw,e7,e8⟩=>?_;subst e7;subst e8;refine(sJ)<|ao ?_ ?_
   ·intro hc32;refine(oN) ?_;intro b35;refine di (e:=56) (size:=3) (news:=RI.sh ⟨p8,rl++[a],c8⟩) ab O O O O O O O (B:=oB) tA h7 O (bD mA) O O dp (by show(outs.length+1)*56<=_;omega) O λv9 B9 hs9'=>?_;have hs10:jJ v9 (outs++[⟨p8,rl++[a],c8⟩]) B9:=jJ.snoc (x:=⟨p8,rl++[a],c8⟩) hs9';refine cL (gi (outs++[⟨p8,rl++[a],c8⟩])) (λhp al=>yr (al (gi outs) mA) (al (bF 2 (.slice p8 (rl++[a]).length c8) (rl++[a]).length ((rl++[a]).flatMap bT)) mA))<|(jr) ?_;exact⟨(i+1,(v9,B9,outs++[⟨p8,rl++[a],c8⟩]),(hv,hB,holes)),oA,⟨by dsimp only;omega,(by dsimp only;rw[yn hri];exact G8 (y:=⟨p8,rl++[a],c8⟩) hcl h6 O),hs10,h8,by dsimp only;rw[aW,dZ];omega⟩,lA,kA,fA,hA⟩
   ·intro hc32;refine(oN) ?_;intro b39;refine di (e:=56) (size:=3) (news:=RI.sh ⟨p8,rl++[a],c8⟩) ab O O O O O O O (B:=hB) tA h8 O (bD mA) O O dp (by show(holes.length+1)*56<=_;omega) O λv9 B9 hs9'=>?_;have hs10:jJ v9 (holes++[⟨p8,rl++[a],c8⟩]) B9:=jJ.snoc (x:=⟨p8,rl++[a],c8⟩) hs9';refine cL (gi (holes++[⟨p8,rl++[a],c8⟩])) (λhp al=>yr (al (gi holes) mA) (al (bF 2 (.slice p8 (rl++[a]).length c8) (rl++[a]).length ((rl++[a]).flatMap bT)) mA))<|(jr) ?_;exact⟨(i+1,(ov,oB,outs),(v9,B9,holes++[⟨p8,rl++[a],c8⟩])),oA,⟨by dsimp only;omega,(by dsimp only;rw[yn hri];exact G9 (y:=⟨p8,rl++[a],c8⟩) hcl h6 O),h7,hs10,by dsimp only;rw[aW,dZ];omega⟩,lA,kA,fA,hA⟩
 ·intro hc15;have hge:i=rs.length:=by have:=of_decide_eq_false hc15;dsimp only at this;omega
  have hfin:C8 (fk w h (je bs) part) ((outs++holes).map RI.l):=afz hR (by rw[hge,dg] at h6;rw[w8];exact h6);obtain⟨po,co,hov⟩:=h7.shape;have hco:=acl h7 hov;subst hov;have hcase:holes=[]\/0<holes.length:=by cases holes with|nil=>exact .inl rfl|cons x l=>exact .inr dK
  refine(jh) ?_;rcases hcase with rfl|hpos
  ·refine eN h8 tA<|(cO) ?_;refine cL (bF 3 hv 0 []) (λhp al=>al _ (.head _)) ?_;refine ah8 (size:=3) ab O O O O O hco O mA O ?_;have hs10:jJ (.slice po outs.length co) (outs++[]) oB:=by rw[jz];exact h7
   rw[jz] at hs10;obtain⟨xs,hxs⟩:∃xs,xs=outs:=⟨_,rfl⟩;rw[jz,<-hxs] at hfin;rw[<-hxs] at hs10 ⊢;refine xJ hs10 tA ?_;refine cL (wg po xs co) (λhp al=>⟨al _ (.head _),al (gi xs) mA⟩)<|(iw)<|aH [wg po xs co] [] ?_;exact⟨⟨po,xs,co,hfin,O,O⟩,O⟩
  ·refine eN h8 tA<|(cO) ?_;refine HY (e:=56) (size:=3) (m:=holes.length) (news:=holes.flatMap RI.sh) ab O O O O O O O (B:=oB) tA h7 O mA hpos (aeq holes) dp (by show(outs.length+holes.length)*56<=_;omega) O λv9 B9 hs9'=>?_;have hs10:jJ v9 (outs++holes) B9:=acu hs9';obtain⟨po,co,rfl⟩:=hs10.shape;obtain⟨xs,hxs⟩:∃xs,xs=outs++holes:=⟨_,rfl⟩;rw[<-hxs] at hfin;rw[<-hxs] at hs10 ⊢;refine xJ hs10 tA ?_;refine cL (wg po xs co) (λhp al=>⟨al _ (.head _),λx hx=>by{rw[hxs] at hx;rcases bB.1 hx with hx|hx;exact al (gi outs) mA x hx;exact al (gi holes) mA x hx}⟩)<|(iw)<|aH [wg po xs co] [] ?_;exact⟨⟨po,xs,co,hfin,O,O⟩,O⟩
end Go.Proofs
namespace Go.Proofs
open Go.V Go.Flt Go.Tiles
variable {x y:Nat} {u v:Rat} {i j:Int} {a b c d p q:Pt} {A B C D:IP}
theorem H7 (h:FV x u) (k:FV y v):jn x y=decide (u<v):=by
 unfold jn;rw[FV.ord h k];by_cases h1:u<v
 ·simp[h1]
 ·by_cases h2:u=v<;>simp[h1,h2]
theorem we (h:FV x u) (k:FV y v):cX x y=decide (u=v):=by
 unfold cX;rw[FV.ord h k];by_cases h1:u<v
 ·have:u≠v:=by rintro rfl;exact absurd h1 (Pm)
  simp[h1,this]
 ·by_cases h2:u=v<;>simp[h1,h2]
theorem aiP (h:FV x u) (k:FV y v):tH x y=!decide (u=v):=by
 have:=we h k;unfold cX at this;unfold tH bne;rw[this]
theorem Nz (h:FV x u) (k:FV y v):fJ x y=decide (v<u):=by
 unfold fJ;rw[FV.ord h k];by_cases h1:u<v
 ·have:¬v<u:=by grind
  simp[h1,this]
 ·by_cases h2:u=v
  ·subst h2;simp[Pm]
  ·have:v<u:=by grind
   simp[h1,h2,this]
theorem aiT (h:FV x u) (k:FV y v):oa x y=decide (u<=v):=by
 have h1:=H7 h k;have h2:=we h k;unfold jn at h1;unfold cX at h2;unfold oa;rw[h1,h2];by_cases h3:u<=v
 ·by_cases h4:u=v
  ·simp[h4,PN]
  ·have:u<v:=by grind
   simp[h3,this]
 ·have a1:¬u<v:=by grind
  have a2:¬u=v:=by grind
  simp[h3,a1,a2]
theorem ajj (h:FV x u) (k:FV y v):kK x y=decide (v<=u):=by
 have h1:=Nz h k;have h2:=we h k;unfold fJ at h1;unfold cX at h2;unfold kK;rw[h1,h2];by_cases h3:v<=u
 ·by_cases h4:u=v
  ·simp[h4,PN]
  ·have:v<u:=by grind
   simp[h3,this]
 ·have a1:¬v<u:=by grind
  have a2:¬u=v:=by grind
  simp[h3,a1,a2]
abbrev FI (x:Nat) (i:Int):Prop:=FV x (i:Rat)
theorem Dd:FV 0 0:=by
 have:=DX false 0 0 (bf _) (.inl rfl) bz;have e:(sg false*(((0:Nat):Rat)*p2 (-1074+((0:Nat):Int))))=0:=by simp
 rw[e] at this;exact this
theorem XI:FI 0 0:=Dd
theorem H8 (h:FI x i) (k:FI y j):jn x y=decide (i<j):=by rw[H7 h k];simp only[jP]
theorem tJ (h:FI x i) (k:FI y j):fJ x y=decide (j<i):=by rw[Nz h k];simp only[jP]
theorem NA (h:FI x i) (k:FI y j):cX x y=decide (i=j):=by rw[we h k];simp only[uI]
theorem Nw (h:FI x i) (k:FI y j):tH x y=!decide (i=j):=by rw[aiP h k];simp only[uI]
theorem H9 (h:FI x i) (k:FI y j):oa x y=decide (i<=j):=by rw[aiT h k];simp only[fF]
theorem Ic (h:FI x i) (k:FI y j):kK x y=decide (j<=i):=by rw[ajj h k];simp only[fF]
structure At (p:Pt) (q:IP):Prop where
 x:FI p.1 q.1
 y:FI p.2 q.2
def bc (a b:IP):IP:=(a.1-b.1,a.2-b.2)
def bY (u v:IP):Int:=u.1*v.2-u.2*v.1
def od (n:Nat) (q:IP):Prop:=q.1.natAbs<=n/\q.2.natAbs<=n
theorem yB {m n:Nat} (h1:i.natAbs<=m) (h2:j.natAbs<=n):(i*j).natAbs<=m*n:=by
 rw[O6];exact uD h1 h2
theorem GX {m n:Nat} (h1:od m A) (h2:od n B):od (m+n) (bc A B):=by
 obtain⟨a1,a2⟩:=h1;obtain⟨b1,b2⟩:=h2;constructor<;>(simp only[bc];omega)
theorem Wa {m n:Nat} (h1:od m A) (h2:od n B):(bY A B).natAbs<=2*(m*n):=by
 have a1:=yB h1.1 h2.2;have a2:=yB h1.2 h2.1;unfold bY;omega
theorem QQ (ha:At a A) (hb:At b B) (h1:od 1000 A) (h2:od 1000 B):∃r,jE a b=some r/\At r (bc A B):=by
 obtain⟨r1,e1,f1⟩:=GH ha.x hb.x (by have:=h1.1;have:=h2.1;omega);obtain⟨r2,e2,f2⟩:=GH ha.y hb.y (by have:=h1.2;have:=h2.2;omega);refine⟨(r1,r2),?_,⟨f1,f2⟩⟩;unfold jE;show(Ieee.double.sub _ _).bind _=_;rw[e1];show(Ieee.double.sub _ _).bind _=_;rw[e2];rfl
theorem akg (ha:At a A) (hb:At b B) (h1:od 1000 A) (h2:od 1000 B):∃r,uY a b=some r/\FI r (bY A B):=by
 have b1:=yB h1.1 h2.2;have b2:=yB h1.2 h2.1;obtain⟨r1,e1,f1⟩:=L8 ha.x hb.y aa;obtain⟨r2,e2,f2⟩:=L8 ha.y hb.x aa;obtain⟨r3,e3,f3⟩:=GH f1 f2 aa;refine⟨r3,?_,f3⟩;unfold uY;show(Ieee.double.mul _ _).bind _=_;rw[e1];show(Ieee.double.mul _ _).bind _=_;rw[e2];exact e3
def mq (n:Int):Int:=if 0<n then 3 else if n<0 then 1 else 2
def eT (p q s:IP):Int:=mq (bY (bc q p) (bc s q))
theorem Hi (ha:At a A) (hb:At b B) (hc:At c C) (h1:od 100 A) (h2:od 100 B) (h3:od 100 C):cH a b c=some (eT A B C):=by
 have m:∀{q:IP},od 100 q->od 1000 q:=λh=>⟨by have:=h.1;omega,by have:=h.2;omega⟩;obtain⟨r1,e1,f1⟩:=QQ hb ha (m h2) (m h1);obtain⟨r2,e2,f2⟩:=QQ hc hb (m h3) (m h2);have s1:=GX h2 h1;have s2:=GX h3 h2;obtain⟨r3,e3,f3⟩:=akg f1 f2 ⟨by have:=s1.1;omega,by have:=s1.2;omega⟩ ⟨by have:=s2.1;omega,by have:=s2.2;omega⟩;unfold cH;rw[e1,lh,e2,lh,e3,lh,tJ f3 XI,H8 f3 XI];congr 1;unfold eT mq;by_cases k1:0<bY (bc B A) (bc C B)
 ·simp[k1]
 ·by_cases k2:bY (bc B A) (bc C B)<0<;>simp[k1,k2]
def uO (a b:IP):Prop:=a.1<b.1\/(a.1=b.1/\a.2<b.2)
instance : Decidable (uO A B):=by unfold uO;infer_instance
theorem Mu (ha:At a A) (hb:At b B):jc a b=decide (uO A B):=by
 unfold jc;rw[Nw ha.x hb.x,H8 ha.x hb.x,H8 ha.y hb.y];unfold uO;by_cases h:A.1=B.1
 ·simp[h]
 ·simp[h]
theorem acX (ha:At a A) (hb:At b B):me a b=decide (uO B A):=by
 unfold me;rw[tJ ha.x hb.x,tJ ha.y hb.y,NA ha.x hb.x];unfold uO;by_cases h:A.1=B.1
 ·simp[h]
 ·have:¬B.1=A.1:=λe=>h e.symm;simp[h,this]
theorem NH (ha:At a A) (hb:At b B):aV a b=decide (A=B):=by
 unfold aV;rw[NA ha.x hb.x,NA ha.y hb.y];by_cases h1:A.1=B.1<;>by_cases h2:A.2=B.2<;>simp[h1,h2,PK]
theorem UI (h:FI x i) (k:FI y j):FI (iN x y) (max i j):=by
 unfold iN;rw[Nw h h,tJ h k];by_cases h1:j<i
 ·simp[h1];rw[Pd aa];exact h
 ·simp[h1];rw[Pf aa];exact k
theorem UJ (h:FI x i) (k:FI y j):FI (wa x y) (min i j):=by
 unfold wa;rw[Nw h h,H8 h k];by_cases h1:i<j
 ·simp[h1];rw[Pc aa];exact h
 ·simp[h1];rw[Pe aa];exact k
def pu (p q r:IP):Prop:=(r.1<=max p.1 q.1/\min p.1 q.1<=r.1)/\r.2<=max p.2 q.2/\min p.2 q.2<=r.2
instance : Decidable (pu A B C):=by unfold pu;infer_instance
theorem Hj (ha:At a A) (hb:At b B) (hc:At c C):eu a b c=decide (pu A B C):=by
 unfold eu;rw[H9 hc.x (UI ha.x hb.x),Ic hc.x (UJ ha.x hb.x),H9 hc.y (UI ha.y hb.y),Ic hc.y (UJ ha.y hb.y)];unfold pu;rw[<-Pb,<-Pb,<-Pb];congr 1;exact propext ⟨λ⟨a,b,c,d⟩=>⟨⟨a,b⟩,c,d⟩,λ⟨⟨a,b⟩,c,d⟩=>⟨a,b,c,d⟩⟩
end Go.Proofs
namespace Go.Proofs
open Go.V Go.Flt Go.Tiles
variable {a b c d p q:Pt} {A B C D:IP}
theorem ae0 {κ:Pt->Int} (hr:∀p q,p∈[a,b,c,d]->q∈[a,b,c,d]->me p q=decide (κ q<κ p)) (hl:∀p q,p∈[a,b,c,d]->q∈[a,b,c,d]->jc p q=decide (κ p<κ q))
  (ho:(κ a<=κ c/\κ c<=κ b)\/(κ b<=κ c/\κ c<=κ a)\/(κ a<=κ d/\κ d<=κ b)\/(κ b<=κ d/\κ d<=κ a)\/(κ c<=κ a/\κ a<=κ d)\/(κ d<=κ a/\κ a<=κ c)\/(κ c<=κ b/\κ b<=κ d)\/(κ d<=κ b/\κ b<=κ c)):
  ∀p,(p=(nU a b c d).1\/p=(nU a b c d).2)->p∈[a,b,c,d]/\(min (κ a) (κ b)<=κ p/\κ p<=max (κ a) (κ b))/\min (κ c) (κ d)<=κ p/\κ p<=max (κ c) (κ d):=by
 have ma:a∈[a,b,c,d]:=by simp
 have mb:b∈[a,b,c,d]:=by simp
 have mc:c∈[a,b,c,d]:=by simp
 have md:d∈[a,b,c,d]:=by simp
 intro p hp;unfold nU oc at hp;simp only[cE,kC,Nat.reduceAdd,Nat.reduceSub,lH,jy,j8,hr _ _ mb ma,hr _ _ mc ma,hr _ _ mc mb,hr _ _ md ma,hr _ _ md mb,hr _ _ md mc,decide_eq_true_eq] at hp;by_cases h1:κ a<κ b
 ·simp only[h1,if_true,jy,j8,hr _ _ mc mb,decide_eq_true_eq] at hp;by_cases h2:κ b<κ c
  ·simp only[h2,if_true,jy,j8,hr _ _ md mc,decide_eq_true_eq] at hp;by_cases h3:κ c<κ d
   ·simp only[h3,if_true,List.eraseIdx,cE,kC,Nat.reduceAdd,Nat.reduceSub,lH,jy,j8,hl _ _ mb ma,hl _ _ mc ma,hl _ _ mc mb,decide_eq_true_eq] at hp;split at hp<;>(simp only[jy,j8,hl _ _ mb ma,hl _ _ mc ma,hl _ _ mc mb,decide_eq_true_eq] at hp)<;>split at hp<;>simp at hp<;>rcases hp with rfl|rfl<;>refine⟨by simp,?_⟩<;>omega
   ·simp only[h3,if_false,List.eraseIdx,cE,kC,Nat.reduceAdd,Nat.reduceSub,lH,jy,j8,hl _ _ mb ma,hl _ _ md ma,hl _ _ md mb,decide_eq_true_eq] at hp;split at hp<;>(simp only[jy,j8,hl _ _ mb ma,hl _ _ md ma,hl _ _ md mb,decide_eq_true_eq] at hp)<;>split at hp<;>simp at hp<;>rcases hp with rfl|rfl<;>refine⟨by simp,?_⟩<;>omega
  ·simp only[h2,if_false,jy,j8,hr _ _ md mb,decide_eq_true_eq] at hp;by_cases h3:κ b<κ d
   ·simp only[h3,if_true,List.eraseIdx,cE,kC,Nat.reduceAdd,Nat.reduceSub,lH,jy,j8,hl _ _ mb ma,hl _ _ mc ma,hl _ _ mc mb,decide_eq_true_eq] at hp;split at hp<;>(simp only[jy,j8,hl _ _ mb ma,hl _ _ mc ma,hl _ _ mc mb,decide_eq_true_eq] at hp)<;>split at hp<;>simp at hp<;>rcases hp with rfl|rfl<;>refine⟨by simp,?_⟩<;>omega
   ·simp only[h3,if_false,List.eraseIdx,cE,kC,Nat.reduceAdd,Nat.reduceSub,lH,jy,j8,hl _ _ mc ma,hl _ _ md ma,hl _ _ md mc,decide_eq_true_eq] at hp;split at hp<;>(simp only[jy,j8,hl _ _ mc ma,hl _ _ md ma,hl _ _ md mc,decide_eq_true_eq] at hp)<;>split at hp<;>simp at hp<;>rcases hp with rfl|rfl<;>refine⟨by simp,?_⟩<;>omega
 ·simp only[h1,if_false,jy,j8,hr _ _ mc ma,decide_eq_true_eq] at hp;by_cases h2:κ a<κ c
  ·simp only[h2,if_true,jy,j8,hr _ _ md mc,decide_eq_true_eq] at hp;by_cases h3:κ c<κ d
   ·simp only[h3,if_true,List.eraseIdx,cE,kC,Nat.reduceAdd,Nat.reduceSub,lH,jy,j8,hl _ _ mb ma,hl _ _ mc ma,hl _ _ mc mb,decide_eq_true_eq] at hp;split at hp<;>(simp only[jy,j8,hl _ _ mb ma,hl _ _ mc ma,hl _ _ mc mb,decide_eq_true_eq] at hp)<;>split at hp<;>simp at hp<;>rcases hp with rfl|rfl<;>refine⟨by simp,?_⟩<;>omega
   ·simp only[h3,if_false,List.eraseIdx,cE,kC,Nat.reduceAdd,Nat.reduceSub,lH,jy,j8,hl _ _ mb ma,hl _ _ md ma,hl _ _ md mb,decide_eq_true_eq] at hp;split at hp<;>(simp only[jy,j8,hl _ _ mb ma,hl _ _ md ma,hl _ _ md mb,decide_eq_true_eq] at hp)<;>split at hp<;>simp at hp<;>rcases hp with rfl|rfl<;>refine⟨by simp,?_⟩<;>omega
  ·simp only[h2,if_false,jy,j8,hr _ _ md ma,decide_eq_true_eq] at hp;by_cases h3:κ a<κ d
   ·simp only[h3,if_true,List.eraseIdx,cE,kC,Nat.reduceAdd,Nat.reduceSub,lH,jy,j8,hl _ _ mb ma,hl _ _ mc ma,hl _ _ mc mb,decide_eq_true_eq] at hp;split at hp<;>(simp only[jy,j8,hl _ _ mb ma,hl _ _ mc ma,hl _ _ mc mb,decide_eq_true_eq] at hp)<;>split at hp<;>simp at hp<;>rcases hp with rfl|rfl<;>refine⟨by simp,?_⟩<;>omega
   ·simp only[h3,if_false,List.eraseIdx,cE,kC,Nat.reduceAdd,Nat.reduceSub,lH,jy,j8,hl _ _ mc mb,hl _ _ md mb,hl _ _ md mc,decide_eq_true_eq] at hp;split at hp<;>(simp only[jy,j8,hl _ _ mc mb,hl _ _ md mb,hl _ _ md mc,decide_eq_true_eq] at hp)<;>split at hp<;>simp at hp<;>rcases hp with rfl|rfl<;>refine⟨by simp,?_⟩<;>omega
end Go.Proofs
namespace Go.Proofs
open Go.V Go.Flt Go.Tiles
variable {x y:Nat} {i j:Int} {a b c d p q:Pt} {A B C D P:IP}
theorem wc (ha:FI x i) (hb:FI y j) (h:(i-j).natAbs<9007199254740992):∃r,jd x y=some r/\FI r (i-j):=GH ha hb h
theorem ajl (ha:FI x i) (hb:FI y j) (h:(i+j).natAbs<9007199254740992):∃r,qm x y=some r/\FI r (i+j):=alk ha hb h
theorem H6 (ha:FI x i) (hb:FI y j) (h:(i*j).natAbs<9007199254740992):∃r,jm x y=some r/\FI r (i*j):=L8 ha hb h
structure gd (q:IP):Prop where
 a:0<=q.1
 b:q.1<=10
 c:0<=q.2
 d:q.2<=10
theorem gd.bd (h:gd A):od 10 A:=⟨by have:=h.a;have:=h.b;omega,by have:=h.c;have:=h.d;omega⟩
theorem ak8 {m n:Nat} (h:od m A) (k:m<=n):od n A:=⟨tc h.1 k,tc h.2 k⟩
structure AO (p:Pt) (X:Rat×Rat):Prop where
 x:∃u,FV p.1 u/\Abt (1/70368744177664) u X.1
 y:∃u,FV p.2 u/\Abt (1/70368744177664) u X.2
def shr (A B:IP) (τ:Rat):Rat×Rat:=((A.1:Rat)+τ*((B.1-A.1:Int):Rat),(A.2:Rat)+τ*((B.2-A.2:Int):Rat))
theorem akk (ha:At a A) (hb:At b B) (hc:At c C) (hd:At d D) (gA:gd A) (gB:gd B) (gC:gd C) (gD:gd D) {τ:Rat}
  (hτ:τ*(bY (bc B A) (bc D C):Rat)=(bY (bc D C) (bc A C):Rat)) (h0:0<=τ) (h1:τ<=1) (hf:bY (bc B A) (bc D C)≠0):
  ∃p,Cv a b c d=some p/\AO p (shr A B τ):=by
 obtain⟨a1,a2,a3,a4⟩:=gA;obtain⟨b1,b2,b3,b4⟩:=gB;obtain⟨c1,c2,c3,c4⟩:=gC;obtain⟨d1,d2,d3,d4⟩:=gD;obtain⟨t76,k76,f76⟩:=wc hc.y hd.y aa;obtain⟨t81,k81,f81⟩:=wc ha.x hc.x aa;have m82:=yB (i:=C.2-D.2) (j:=A.1-C.1) (m:=10) (n:=10) aa aa;obtain⟨t82,k82,f82⟩:=H6 f76 f81 aa;obtain⟨t87,k87,f87⟩:=wc hd.x hc.x aa;obtain⟨t92,k92,f92⟩:=wc ha.y hc.y aa;have m93:=yB (i:=D.1-C.1) (j:=A.2-C.2) (m:=10) (n:=10) aa aa;obtain⟨t93,k93,f93⟩:=H6 f87 f92 aa;obtain⟨t94,k94,f94⟩:=ajl f82 f93 aa;obtain⟨t104,k104,f104⟩:=wc ha.y hb.y aa;have m105:=yB (i:=D.1-C.1) (j:=A.2-B.2) (m:=10) (n:=10) aa aa;obtain⟨t105,k105,f105⟩:=H6 f87 f104 aa;obtain⟨t110,k110,f110⟩:=wc ha.x hb.x aa;obtain⟨t115,k115,f115⟩:=wc hd.y hc.y aa;have m116:=yB (i:=A.1-B.1) (j:=D.2-C.2) (m:=10) (n:=10) aa aa;obtain⟨t116,k116,f116⟩:=H6 f110 f115 aa;obtain⟨t117,k117,f117⟩:=wc f105 f116 aa;have ef:(D.1-C.1)*(A.2-B.2)-(A.1-B.1)*(D.2-C.2)=bY (bc B A) (bc D C):=by unfold bY bc;grind
 have ee:(C.2-D.2)*(A.1-C.1)+(D.1-C.1)*(A.2-C.2)=bY (bc D C) (bc A C):=by unfold bY bc;grind
 rw[ef] at f117;rw[ee] at f94;obtain⟨t120,z,k120,f120,hz⟩:=adp f94 f117 hτ h0 h1 hf;have k120':fdiv t94 t117=some t120:=k120;obtain⟨u1,ku1,fu1⟩:=wc hb.x ha.x aa;obtain⟨u2,ku2,fu2⟩:=wc hb.y ha.y aa;obtain⟨s1,r1,z1,e1,e2,e3,e4⟩:=Rh fu1 f120 ha.x hz h0 h1 aa aa;obtain⟨s2,r2,z2,e5,e6,e7,e8⟩:=Rh fu2 f120 ha.y hz h0 h1 aa aa;have e1':jm u1 t120=some s1:=e1;have e2':qm s1 a.1=some r1:=e2;have e5':jm u2 t120=some s2:=e5;have e6':qm s2 a.2=some r2:=e6;refine⟨(r1,r2),?_,⟨z1,e3,e4⟩,⟨z2,e7,e8⟩⟩;unfold Cv jE GW IF;simp only[k76,k81,k82,k87,k92,k93,k94,k104,k105,k110,k115,k116,k117,k120',ku1,ku2,e1',e2',e5',e6',lh]
structure lS (A B C D:IP) (n e g:Int):Prop where
 e0:0<e
 e1:e<n
 g0:0<g
 g1:g<n
 nn:n.natAbs=(bY (bc B A) (bc D C)).natAbs
 x:n*(A.1-C.1)+e*(B.1-A.1)=g*(D.1-C.1)
 y:n*(A.2-C.2)+e*(B.2-A.2)=g*(D.2-C.2)
theorem LM:eT A B C=mq (-bY (bc B A) (bc A C)):=by
 unfold eT;congr 1;unfold bY bc;grind
theorem LK:eT A B D=mq (bY (bc B A) (bc D C)-bY (bc B A) (bc A C)):=by
 unfold eT;congr 1;unfold bY bc;grind
theorem LO:eT C D A=mq (bY (bc D C) (bc A C)):=by
 unfold eT;congr 1;unfold bY bc;grind
theorem LN:eT C D B=mq (bY (bc D C) (bc A C)-bY (bc B A) (bc D C)):=by
 unfold eT;congr 1;unfold bY bc;grind
theorem Cx {n:Int}:mq n=2↔n=0:=by
 unfold mq;split
 ·exact⟨λh=>by omega,λh=>by omega⟩
 ·split
  ·exact⟨λh=>by omega,λh=>by omega⟩
  ·exact⟨λh=>by omega,λh=>by omega⟩
theorem Wj {m n:Int} (h:mq m≠mq n) (hm:mq m≠2) (hn:mq n≠2):(0<m/\n<0)\/(m<0/\0<n):=by
 unfold mq at h hm hn;split at h<;>split at h<;>(try split at h)<;>(try split at h)<;>first|omega|(simp_all;try omega)
theorem akh (h12:eT A B C≠eT A B D) (h34:eT C D A≠eT C D B) (h1:eT A B C≠2) (h2:eT A B D≠2) (h3:eT C D A≠2) (h4:eT C D B≠2):
  ∃n e g,lS A B C D n e g/\(e:Rat)/(n:Rat)*(bY (bc B A) (bc D C):Rat)=(bY (bc D C) (bc A C):Rat):=by
 rw[LM,LK (C:=C)] at h12;rw[LO,LN] at h34;rw[LM] at h1;rw[LK (C:=C)] at h2;rw[LO] at h3;rw[LN] at h4;have k1:=Wj h12 h1 h2;have k2:=Wj h34 h3 h4;obtain⟨f,hf⟩:∃f,f=bY (bc B A) (bc D C):=⟨_,rfl⟩;obtain⟨e,he⟩:∃e,e=bY (bc D C) (bc A C):=⟨_,rfl⟩;obtain⟨g,hg⟩:∃g,g=bY (bc B A) (bc A C):=⟨_,rfl⟩;have hx:f*(A.1-C.1)+e*(B.1-A.1)=g*(D.1-C.1):=by rw[hf,he,hg];unfold bY bc;grind
 have hy:f*(A.2-C.2)+e*(B.2-A.2)=g*(D.2-C.2):=by rw[hf,he,hg];unfold bY bc;grind
 rw[<-hf,<-hg] at k1;rw[<-hf,<-he] at k2;have hf0:(f:Rat)≠0:=by
  intro h;have:f=0:=uI.1 h;omega
 have hs:(0<e/\e<f/\0<g/\g<f)\/(f<e/\e<0/\f<g/\g<0):=by omega
 rcases hs with⟨e0,e1,g0,g1⟩|⟨e1,e0,g1,g0⟩
 ·refine⟨f,e,g,⟨e0,e1,g0,g1,by rw[hf],hx,hy⟩,?_⟩;rw[<-hf,<-he];exact oV hf0
 ·refine⟨-f,-e,-g,⟨aa,aa,aa,aa,by rw[<-hf];omega,by grind,by grind⟩,?_⟩;rw[<-hf,<-he,w7,w7];have: -(e:Rat)/ -(f:Rat)*(f:Rat)=(e:Rat)/(f:Rat)*(f:Rat):=by grind
  rw[this];exact oV hf0
end Go.Proofs
namespace Go.Proofs
open Go.V Go.Flt Go.Tiles
variable {x y:Nat} {i j n e f g:Int} {a b c d p q:Pt} {A B C D P Q:IP}
theorem FV.uniq {u v:Rat} (h:FV x u) (k:FV x v):u=v:=by
 obtain⟨_,s,m,e,h1,h2⟩:=h;obtain⟨_,s',m',e',k1,k2⟩:=k;rw[h1] at k1;cases k1;rw[h2,k2]
theorem At.uniq (h:At p P) (k:At p Q):P=Q:=mN (uI.1 (FV.uniq h.x k.x)) (uI.1 (FV.uniq h.y k.y))
theorem yC {a b:Int} (h:0<a) (k:0<=b):0<=a*b/\(0<b->0<a*b):=⟨F9 aa k,λh'=>Pa h h'⟩
theorem V7 (h:lS A B C D n e g) (gA:gd A) (gB:gd B) (gC:gd C) (gD:gd D):0<n*A.1+e*(B.1-A.1)/\0<n*A.2+e*(B.2-A.2):=by
 have hn:bY (bc B A) (bc D C)≠0:=by have:=h.nn;have:=h.e0;have:=h.e1;omega
 have ne:=h.e1;have ng:=h.g1;constructor
 ·have e1:n*A.1+e*(B.1-A.1)=(n-e)*A.1+e*B.1:=by grind
  have e2:n*A.1+e*(B.1-A.1)=(n-g)*C.1+g*D.1:=by have:=h.x;grind
  have p1:=yC (show 0<n-e by omega) gA.a;have p2:=yC h.e0 gB.a;have p3:=yC (show 0<n-g by omega) gC.a;have p4:=yC h.g0 gD.a;by_cases h0:0<n*A.1+e*(B.1-A.1)
  ·exact h0
  ·exfalso;have a0:A.1=0:=by
    have:=gA.a;by_cases h:0<A.1
    ·have:=p1.2 h;omega
    ·omega
   have b0:B.1=0:=by
    have:=gB.a;by_cases h:0<B.1
    ·have:=p2.2 h;omega
    ·omega
   have c0:C.1=0:=by
    have:=gC.a;by_cases h:0<C.1
    ·have:=p3.2 h;omega
    ·omega
   have d0:D.1=0:=by
    have:=gD.a;by_cases h:0<D.1
    ·have:=p4.2 h;omega
    ·omega
   apply hn;unfold bY bc;simp[a0,b0,c0,d0]
 ·have e1:n*A.2+e*(B.2-A.2)=(n-e)*A.2+e*B.2:=by grind
  have e2:n*A.2+e*(B.2-A.2)=(n-g)*C.2+g*D.2:=by have:=h.y;grind
  have p1:=yC (show 0<n-e by omega) gA.c;have p2:=yC h.e0 gB.c;have p3:=yC (show 0<n-g by omega) gC.c;have p4:=yC h.g0 gD.c;by_cases h0:0<n*A.2+e*(B.2-A.2)
  ·exact h0
  ·exfalso;have a0:A.2=0:=by
    have:=gA.c;by_cases h:0<A.2
    ·have:=p1.2 h;omega
    ·omega
   have b0:B.2=0:=by
    have:=gB.c;by_cases h:0<B.2
    ·have:=p2.2 h;omega
    ·omega
   have c0:C.2=0:=by
    have:=gC.c;by_cases h:0<C.2
    ·have:=p3.2 h;omega
    ·omega
   have d0:D.2=0:=by
    have:=gD.c;by_cases h:0<D.2
    ·have:=p4.2 h;omega
    ·omega
   apply hn;unfold bY bc;simp[a0,b0,c0,d0]
theorem GP (hn:0<n):(shr A B ((e:Rat)/(n:Rat))).1*(n:Rat)=((n*A.1+e*(B.1-A.1):Int):Rat)/\(shr A B ((e:Rat)/(n:Rat))).2*(n:Rat)=((n*A.2+e*(B.2-A.2):Int):Rat):=by
 have h0:(n:Rat)≠0:=by
  intro h;have:n=0:=uI.1 h;omega
 have h1:(e:Rat)/(n:Rat)*(n:Rat)=(e:Rat):=oV h0;unfold shr;constructor<;>(dsimp only;simp only[ou,qM];generalize (e:Rat)/(n:Rat)=τ at*;grind)
theorem V9 (h:lS A B C D n e g) (gA:gd A) (gB:gd B) (gC:gd C) (gD:gd D):0<n/\n<=200:=by
 have h1:=Wa (GX gB.bd gA.bd) (GX gD.bd gC.bd);have h2:=Wa (A:=bc B A) (B:=bc D C) (m:=10) (n:=10) ⟨by unfold bc;have:=gA.a;have:=gA.b;have:=gB.a;have:=gB.b;dsimp only;omega,by unfold bc;have:=gA.c;have:=gA.d;have:=gB.c;have:=gB.d;dsimp only;omega⟩ ⟨by unfold bc;have:=gC.a;have:=gC.b;have:=gD.a;have:=gD.b;dsimp only;omega,by unfold bc;have:=gC.c;have:=gC.d;have:=gD.c;have:=gD.d;dsimp only;omega⟩;have:=h.nn;have:=h.e0;have:=h.e1;omega
theorem aeN {X:Rat×Rat} (h:AO p X) (h1:1/200<=X.1) (h2:1/200<=X.2):b6 p:=by
 obtain⟨⟨u,hu,a1,a2⟩,v,hv,b1,b2⟩:=h;exact⟨FV.pos hu df,FV.pos hv df⟩
theorem H1 {X:Rat} {m:Int} (hn:0<n) (h200:n<=200) (hm:0<m) (h:X*(n:Rat)=(m:Rat)):1/200<=X:=by
 have a1:(1:Rat)<=(m:Rat):=by have:((1:Int):Rat)<=(m:Rat):=fF.2 aa;exact this
 have a2:(n:Rat)<=200:=by have:(n:Rat)<=((200:Int):Rat):=fF.2 h200;exact this
 have a3:(0:Rat)<(n:Rat):=by have:((0:Int):Rat)<(n:Rat):=jP.2 hn;exact this
 refine qL ?_ a3;rw[h];grind
theorem akj (ha:At a A) (hb:At b B) (hc:At c C) (hd:At d D) (gA:gd A) (gB:gd B) (gC:gd C) (gD:gd D)
  (h12:eT A B C≠eT A B D) (h34:eT C D A≠eT C D B) (h1:eT A B C≠2) (h2:eT A B D≠2) (h3:eT C D A≠2) (h4:eT C D B≠2):
  ∃p n e g,Cv a b c d=some p/\lS A B C D n e g/\AO p (shr A B ((e:Rat)/(n:Rat)))/\b6 p:=by
 obtain⟨n,e,g,hC,hτ⟩:=akh h12 h34 h1 h2 h3 h4;obtain⟨n0,n200⟩:=V9 hC gA gB gC gD;have hf:bY (bc B A) (bc D C)≠0:=by have:=hC.nn;omega
 have n0':(0:Rat)<(n:Rat):=by have:((0:Int):Rat)<(n:Rat):=jP.2 n0;exact this
 have e0':(0:Rat)<=(e:Rat):=by have:((0:Int):Rat)<=(e:Rat):=fF.2 (by have:=hC.e0;omega);exact this
 have e1':(e:Rat)<=(n:Rat):=fF.2 (by have:=hC.e1;omega);have hd1:(e:Rat)/(n:Rat)*(n:Rat)=(e:Rat):=oV (Ph n0');obtain⟨p,hp,hnear⟩:=akk ha hb hc hd gA gB gC gD hτ (qL (by rw[hd1];grind) n0') (Rat.le_of_mul_le_mul_right (by rw[hd1];grind) n0') hf;obtain⟨p1,p2⟩:=V7 hC gA gB gC gD;obtain⟨s1,s2⟩:=GP (A:=A) (B:=B) (e:=e) n0;exact⟨p,n,e,g,hp,hC,hnear,aeN hnear (H1 n0 n200 p1 s1) (H1 n0 n200 p2 s2)⟩
def mv (A B P:IP):Prop:=∃s:Rat,0<=s/\s<=1/\((P.1-A.1:Int):Rat)=s*((B.1-A.1:Int):Rat)/\((P.2-A.2:Int):Rat)=s*((B.2-A.2:Int):Rat)
theorem Gx:mv A B A:=⟨0,by decide+kernel,by decide+kernel,by simp,by simp⟩
theorem Gv:mv A B B:=⟨1,by decide+kernel,by decide+kernel,by simp,by simp⟩
theorem mv.flip (h:mv A B P):mv B A P:=by
 obtain⟨s,h0,h1,h2,h3⟩:=h;refine⟨1-s,by grind,by grind,?_,?_⟩
 ·simp only[DA] at*;grind
 ·simp only[DA] at*;grind
theorem Ri {e f:Int} (h:(0<f/\0<=e/\e<=f)\/(f<0/\f<=e/\e<=0)):0<=(e:Rat)/(f:Rat)/\(e:Rat)/(f:Rat)<=1/\(e:Rat)/(f:Rat)*(f:Rat)=(e:Rat):=by
 have hf:(f:Rat)≠0:=by
  intro h';have:f=0:=uI.1 h';omega
 have hd:=oV (a:=(e:Rat)) hf;generalize (e:Rat)/(f:Rat)=s at*;rcases h with⟨h1,h2,h3⟩|⟨h1,h2,h3⟩
 ·have k1:(0:Rat)<(f:Rat):=by have:((0:Int):Rat)<(f:Rat):=jP.2 h1;exact this
  have k2:(0:Rat)<=(e:Rat):=by have:((0:Int):Rat)<=(e:Rat):=fF.2 h2;exact this
  have k3:(e:Rat)<=(f:Rat):=fF.2 h3;exact⟨qL df k1,qL df k1,hd⟩
 ·have k1:(f:Rat)<0:=by have:(f:Rat)<((0:Int):Rat):=jP.2 h1;exact this
  have k2:(e:Rat)<=0:=by have:(e:Rat)<=((0:Int):Rat):=fF.2 h3;exact this
  have k3:(f:Rat)<=(e:Rat):=fF.2 h2;have k4:(0:Rat)< -(f:Rat):=by grind
  exact⟨qL df k4,qL df k4,hd⟩
theorem Gw {e f:Int} (h:(0<f/\0<=e/\e<=f)\/(f<0/\f<=e/\e<=0)) (hx:f*(P.1-A.1)=e*(B.1-A.1)) (hy:f*(P.2-A.2)=e*(B.2-A.2)):mv A B P:=by
 obtain⟨s0,s1,s2⟩:=Ri h;have hf:(f:Rat)≠0:=by
  intro h';have:f=0:=uI.1 h';omega
 have cx:(f:Rat)*((P.1-A.1:Int):Rat)=(e:Rat)*((B.1-A.1:Int):Rat):=by rw[<-qM,<-qM,hx]
 have cy:(f:Rat)*((P.2-A.2:Int):Rat)=(e:Rat)*((B.2-A.2:Int):Rat):=by rw[<-qM,<-qM,hy]
 refine⟨_,s0,s1,?_,?_⟩
 ·generalize (e:Rat)/(f:Rat)=s at*;rw[<-s2] at cx;have:(f:Rat)*(((P.1-A.1:Int):Rat)-s*((B.1-A.1:Int):Rat))=0:=by grind
  rcases Ga.1 this with h|h
  ·exact absurd h hf
  ·grind
 ·generalize (e:Rat)/(f:Rat)=s at*;rw[<-s2] at cy;have:(f:Rat)*(((P.2-A.2:Int):Rat)-s*((B.2-A.2:Int):Rat))=0:=by grind
  rcases Ga.1 this with h|h
  ·exact absurd h hf
  ·grind
theorem Wk {e f:Int} (h:mq e≠mq (e-f)):(0<f/\0<=e/\e<=f)\/(f<0/\f<=e/\e<=0):=by
 unfold mq at h;by_cases h1:0<e
 ·by_cases h2:0<e-f
  ·rw[if_pos h1,if_pos h2] at h;exact absurd rfl h
  ·omega
 ·by_cases h3:e<0
  ·by_cases h2:e-f<0
   ·have:¬0<e-f:=by omega
    rw[if_neg h1,if_pos h3,if_neg this,if_pos h2] at h;exact absurd rfl h
   ·omega
  ·by_cases h2:e-f=0
   ·have e1:e=0:=by omega
    have e2:f=0:=by omega
    subst e1;subst e2;simp at h
   ·omega
end Go.Proofs
